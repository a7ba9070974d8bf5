/-
  THE WALKS of stringEnd, numberEnd and valueEnd, where the plain law gives the road.
-/
import Derived.Test.Qxb6603337aYBase
import Derived.Test.Qxb6603337aVPlain
namespace Go.Proofs.Qxb6603337a
open Go.RowKit
set_option linter.unusedVariables false

theorem ret_int {k : IntKind} {a b : Int} (h : a = b) : Ending.returned (.int k a) = .returned (.int k b) := by rw [h]

set_option maxHeartbeats 1000000 in
theorem stringEnd_any (w : World) (a : Option Addr) (n c i e : Nat) (F : Nat → Nat) (hn : n ≤ 1048576) (hf : TextAt w a n F) (h : SE F n (i + 1) e) :
    Calls Try.prog 39 #[.slice a n c, .int .i64 i] w fun en w' => en = .returned (.int .i64 e) ∧ w' = w := by
  have hlt := h.lt
  obtain ⟨b, off, rfl, hc⟩ := hf (by omega)
  have HC := Lib.hid hc
  have HS := Lib.hid h
  clear hc hf h
  go_enter Try.func39, Try.ntmps39
  go_wp2_with fail
  go_loopg [4, 5] (n - (i + 1)) (fun gg t4 t5 wr => ∃ j : Nat, j < n ∧ gg = n - j ∧ t5 = .int .i64 j ∧ Hid (SE F n j e) ∧ wr = w)
  case atStart => exact ⟨i + 1, by omega, rfl, by go_num, HS, rfl⟩
  case round =>
    obtain ⟨j, hj, hg, rfl, hS, hw⟩ := hrel
    obtain rfl := hw.symm
    have c1 := HC.out j hj
    by_cases h34 : F j = 34
    · have t1 : (((F j : Nat) : Int) == 34) = true := by simp [h34]
      have he := hS.out.at_quote h34
      have HE := Lib.hid he
      clear h34 he
      generalize F j = x at *
      go_wp2_with fail
      go_ret
      exact ⟨ret_int (by rw [HE.out]; simp), rfl⟩
    have t1 : (((F j : Nat) : Int) == 34) = false := by simp; omega
    by_cases h92 : F j = 92
    · have t2 : (((F j : Nat) : Int) == 92) = true := by simp [h92]
      have hS2 := hS.out.at_esc h92
      have hl2 := hS2.lt
      have HS2 := Lib.hid hS2
      clear h92 h34 hS2
      generalize F j = x at *
      go_wp2_with fail
      go_roundg (n - (j + 2))
      case measure => omega
      case rel => exact ⟨j + 2, by omega, rfl, by go_num, HS2, rfl⟩
    · have t2 : (((F j : Nat) : Int) == 92) = false := by simp; omega
      have hS2 := hS.out.at_other h34 h92
      have hl2 := hS2.lt
      have HS2 := Lib.hid hS2
      clear h92 h34 hS2
      generalize F j = x at *
      go_wp2_with fail
      go_roundg (n - (j + 1))
      case measure => omega
      case rel => exact ⟨j + 1, by omega, rfl, by go_num, HS2, rfl⟩

theorem numB_cases {c : Nat} (h : numB c) : c = 45 ∨ c = 43 ∨ c = 46 ∨ c = 101 ∨ c = 69 ∨ c = 48 ∨ c = 49 ∨ c = 50 ∨ c = 51 ∨ c = 52 ∨ c = 53 ∨ c = 54 ∨ c = 55 ∨ c = 56 ∨ c = 57 := by unfold numB at h; omega

set_option maxHeartbeats 4000000 in
theorem numberEnd_any (w : World) (a : Option Addr) (n c i e : Nat) (F : Nat → Nat) (hn : n ≤ 1048576) (hf : TextAt w a n F) (hie : i ≤ e) (hen : e ≤ n) (hnum : ∀ m, i ≤ m → m < e → numB (F m)) (hend : e < n → ¬ numB (F e)) :
    Calls Try.prog 40 #[.slice a n c, .int .i64 i] w fun en w' => en = .returned (.int .i64 e) ∧ w' = w := by
  have HF := Lib.hid hf
  have HN := Lib.hid hnum
  have HX := Lib.hid hend
  clear hf hnum hend
  go_enter Try.func40, Try.ntmps40
  go_wp2_with fail
  go_loopg [4, 5] (e - i) (fun gg t4 t5 wr => ∃ k : Nat, i ≤ k ∧ k ≤ e ∧ gg = e - k ∧ t5 = .int .i64 k ∧ wr = w)
  case atStart => exact ⟨i, Nat.le_refl _, hie, rfl, rfl, rfl⟩
  case round =>
    obtain ⟨k, hik, hke, hg, rfl, hw⟩ := hrel
    obtain rfl := hw.symm
    by_cases hlt : k < e
    · obtain ⟨b, off, rfl, hc⟩ := HF.out (by omega)
      have c1 := hc k (by omega)
      have hb := numB_cases (HN.out k hik hlt)
      clear hc
      generalize F k = x at *
      rcases hb with rfl | rfl | rfl | rfl | rfl | rfl | rfl | rfl | rfl | rfl | rfl | rfl | rfl | rfl | rfl
      all_goals
        go_wp2_with fail
        go_roundg (e - (k + 1))
        case measure => omega
        case rel => exact ⟨k + 1, by omega, by omega, rfl, by go_num, rfl⟩
    · obtain rfl : k = e := by omega
      by_cases hkn : k < n
      · obtain ⟨b, off, rfl, hc⟩ := HF.out (by omega)
        have c1 := hc k hkn
        have hb := HX.out hkn
        unfold numB at hb
        have u45 : (((F k : Nat) : Int) == 45) = false := by rw [beq_eq_false_iff_ne]; omega
        have u43 : (((F k : Nat) : Int) == 43) = false := by rw [beq_eq_false_iff_ne]; omega
        have u46 : (((F k : Nat) : Int) == 46) = false := by rw [beq_eq_false_iff_ne]; omega
        have u101 : (((F k : Nat) : Int) == 101) = false := by rw [beq_eq_false_iff_ne]; omega
        have u69 : (((F k : Nat) : Int) == 69) = false := by rw [beq_eq_false_iff_ne]; omega
        have u48 : (((F k : Nat) : Int) == 48) = false := by rw [beq_eq_false_iff_ne]; omega
        have u49 : (((F k : Nat) : Int) == 49) = false := by rw [beq_eq_false_iff_ne]; omega
        have u50 : (((F k : Nat) : Int) == 50) = false := by rw [beq_eq_false_iff_ne]; omega
        have u51 : (((F k : Nat) : Int) == 51) = false := by rw [beq_eq_false_iff_ne]; omega
        have u52 : (((F k : Nat) : Int) == 52) = false := by rw [beq_eq_false_iff_ne]; omega
        have u53 : (((F k : Nat) : Int) == 53) = false := by rw [beq_eq_false_iff_ne]; omega
        have u54 : (((F k : Nat) : Int) == 54) = false := by rw [beq_eq_false_iff_ne]; omega
        have u55 : (((F k : Nat) : Int) == 55) = false := by rw [beq_eq_false_iff_ne]; omega
        have u56 : (((F k : Nat) : Int) == 56) = false := by rw [beq_eq_false_iff_ne]; omega
        have u57 : (((F k : Nat) : Int) == 57) = false := by rw [beq_eq_false_iff_ne]; omega
        clear hc hb
        generalize F k = x at *
        go_wp2_with fail
        go_ret
        exact ⟨rfl, rfl⟩
      · go_wp2_with fail
        go_ret
        exact ⟨rfl, rfl⟩
end Go.Proofs.Qxb6603337a
