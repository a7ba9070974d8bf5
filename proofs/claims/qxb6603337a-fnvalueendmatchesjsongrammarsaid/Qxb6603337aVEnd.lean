/-
  THE WALK of valueEnd, where the plain law gives the road.
-/
import Derived.Test.Qxb6603337aVScan
namespace Go.Proofs.Qxb6603337a
open Go.RowKit
set_option linter.unusedVariables false

theorem Road.inv {F : Nat → Nat} {n j d j2 d2 : Nat} (h : Road F n j d j2 d2) : (j = j2 ∧ d = d2) ∨ ∃ j1 d1, Step F n j d j1 d1 ∧ Road F n j1 d1 j2 d2 := by
  cases h with
  | here => exact .inl ⟨rfl, rfl⟩
  | step h1 h2 => exact .inr ⟨_, _, h1, h2⟩

theorem no {x v : Nat} (h : x ≠ v) : (((x : Nat) : Int) == (v : Int)) = false := by rw [beq_eq_false_iff_ne]; omega

set_option maxHeartbeats 4000000 in
theorem valueEnd_any (w : World) (a : Option Addr) (n c t e : Nat) (F : Nat → Nat) (hn : n ≤ 1048576) (hf : TextAt w a n F) (h : Ok F n t e) :
    Calls Try.prog 29 #[.slice a n c, .int .i64 t] w fun en w' => en = .returned (.int .i64 e) ∧ w' = w := by
  have HF := Lib.hid hf
  have htn : t < n := by
    cases h with
    | str h1 _ _ => exact h1
    | four h1 _ _ => exact h1
    | five h1 _ _ => exact h1
    | comp h1 => have := h1.1; have := h1.2.1; omega
    | num h1 _ => have := h1.1; have := h1.2.1; omega
  obtain ⟨b, off, rfl, hc⟩ := hf (by omega)
  have c0 := hc t htn
  have HC := Lib.hid hc
  clear hc hf
  cases h with
  | str _ h34 hs =>
    have t1 : (((F t : Nat) : Int) == 34) = true := by simp [h34]
    have HS := Lib.hid hs
    clear h34 hs
    generalize F t = x at *
    go_enter Try.func29, Try.ntmps29
    go_wp2_with fail
    refine (stringEnd_any w _ n c t e F hn HF.out HS.out).mono ?_
    rintro en w1 ⟨rfl, hw⟩
    obtain rfl := hw.symm
    go_wp2_with fail
    go_ret
    exact ⟨rfl, rfl⟩
  | four _ hb he =>
    have HE := Lib.hid he
    clear he
    have u34 := no (x := F t) (v := 34) (by omega)
    generalize F t = x at *
    rcases hb with rfl | rfl
    all_goals
      go_enter Try.func29, Try.ntmps29
      go_wp2_with fail
      go_ret
      exact ⟨ret_int (by rw [HE.out]; simp), rfl⟩
  | five _ hb he =>
    have HE := Lib.hid he
    clear he
    generalize F t = x at *
    subst hb
    go_enter Try.func29, Try.ntmps29
    go_wp2_with fail
    go_ret
    exact ⟨ret_int (by rw [HE.out]; simp), rfl⟩
  | num hnum hx =>
    have HN := Lib.hid hnum
    have HX := Lib.hid hx
    have hh := hnum.2.2.1
    have u1 : (((F t : Nat) : Int) == 34) = false := by rw [beq_eq_false_iff_ne]; omega
    have u2 : (((F t : Nat) : Int) == 116) = false := by rw [beq_eq_false_iff_ne]; omega
    have u3 : (((F t : Nat) : Int) == 110) = false := by rw [beq_eq_false_iff_ne]; omega
    have u4 : (((F t : Nat) : Int) == 102) = false := by rw [beq_eq_false_iff_ne]; omega
    have u5 : (((F t : Nat) : Int) == 123) = false := by rw [beq_eq_false_iff_ne]; omega
    have u6 : (((F t : Nat) : Int) == 91) = false := by rw [beq_eq_false_iff_ne]; omega
    clear hnum hx hh
    generalize F t = x at *
    go_enter Try.func29, Try.ntmps29
    go_wp2_with fail
    refine (numberEnd_any w _ n c t e F hn HF.out (Nat.le_of_lt HN.out.1) HN.out.2.1 HN.out.2.2.2 HX.out).mono ?_
    rintro en w1 ⟨rfl, hw⟩
    obtain rfl := hw.symm
    go_wp2_with fail
    go_ret
    exact ⟨rfl, rfl⟩
  | comp hcomp =>
    have HR : Hid (Road F n t 0 (e - 1) 1) := .step (.opn htn hcomp.2.2.1) (hcomp.2.2.2.2 1 (Nat.le_refl _))
    have HCL := Lib.hid hcomp.2.2.2.1
    have he1 := hcomp.1
    have he2 := hcomp.2.1
    have ho := hcomp.2.2.1
    have hox : F t = 91 ∨ F t = 123 := ho
    clear hcomp ho
    rcases hox with hx | hx
    · rw [hx] at c0
      clear hx
      go_enter Try.func29, Try.ntmps29
      go_wp2_with fail
      go_loopg [4, 5, 6] (e - t) (fun gg t4 t5 t6 wr => ∃ j d : Nat, t ≤ j ∧ j < e ∧ d ≤ j ∧ gg = e - j ∧ t5 = .int .i64 d ∧ t6 = .int .i64 j ∧ Hid (Road F n j d (e - 1) 1) ∧ wr = w)
      case atStart => exact ⟨t, 0, Nat.le_refl _, by omega, by omega, rfl, rfl, rfl, HR, rfl⟩
      case round =>
        obtain ⟨j, d, htj, hje, hdj, hg, rfl, rfl, hR, hw⟩ := hrel
        obtain rfl := hw.symm
        have c1 := HC.out j (by omega)
        rcases hR.out.inv with ⟨hj1, rfl⟩ | ⟨j1, d1, hst, hr1⟩
        · have hcl := HCL.out
          rw [← hj1] at hcl
          have HJ : Hid (e = j + 1) := by show _ = _; omega
          unfold closes at hcl
          clear hj1
          generalize F j = x at *
          rcases hcl with rfl | rfl
          · go_wp2_with fail
            go_ret
            exact ⟨ret_int (by rw [HJ.out]; simp), rfl⟩
          · go_wp2_with fail
            go_ret
            exact ⟨ret_int (by rw [HJ.out]; simp), rfl⟩
        · have hl1 := hst.lt
          have hl2 := hr1.le
          have HR1 := Lib.hid hr1
          clear hr1 hR
          cases hst with
          | str h1 h2 h3 =>
            have HS := Lib.hid h3
            have u1 : (((F j : Nat) : Int) == 34) = true := by simp [h2]
            clear h1 h2 h3
            generalize F j = x at *
            go_wp2_with fail
            refine (stringEnd_any w _ n c j j1 F hn HF.out HS.out).mono ?_
            rintro en w1 ⟨rfl, hw⟩
            obtain rfl := hw.symm
            go_wp2_with fail
            go_roundg (e - j1)
            case measure => omega
            case rel => exact ⟨j1, d, by omega, by omega, by omega, rfl, rfl, by go_num, HR1, rfl⟩
          | opn h1 h2 =>
            unfold opens at h2
            generalize F j = x at *
            rcases h2 with rfl | rfl
            · go_wp2_with fail
              go_roundg (e - (j + 1))
              case measure => omega
              case rel => exact ⟨j + 1, d + 1, by omega, by omega, by omega, rfl, by go_num, by go_num, HR1, rfl⟩
            · go_wp2_with fail
              go_roundg (e - (j + 1))
              case measure => omega
              case rel => exact ⟨j + 1, d + 1, by omega, by omega, by omega, rfl, by go_num, by go_num, HR1, rfl⟩
          | cls h1 h2 h3 =>
            unfold closes at h2
            have v0 : ((d1 : Int) == 0) = false := by rw [beq_eq_false_iff_ne]; omega
            generalize F j = x at *
            rcases h2 with rfl | rfl
            · go_wp2_with fail
              go_roundg (e - (j + 1))
              case measure => omega
              case rel => exact ⟨j + 1, d1, by omega, by omega, by omega, rfl, by go_num, by go_num, HR1, rfl⟩
            · go_wp2_with fail
              go_roundg (e - (j + 1))
              case measure => omega
              case rel => exact ⟨j + 1, d1, by omega, by omega, by omega, rfl, by go_num, by go_num, HR1, rfl⟩
          | other h1 h2 =>
            unfold plainB at h2
            have v1 : (((F j : Nat) : Int) == 34) = false := by rw [beq_eq_false_iff_ne]; omega
            have v2 : (((F j : Nat) : Int) == 123) = false := by rw [beq_eq_false_iff_ne]; omega
            have v3 : (((F j : Nat) : Int) == 91) = false := by rw [beq_eq_false_iff_ne]; omega
            have v4 : (((F j : Nat) : Int) == 125) = false := by rw [beq_eq_false_iff_ne]; omega
            have v5 : (((F j : Nat) : Int) == 93) = false := by rw [beq_eq_false_iff_ne]; omega
            clear h2
            generalize F j = x at *
            go_wp2_with fail
            go_roundg (e - (j + 1))
            case measure => omega
            case rel => exact ⟨j + 1, d, by omega, by omega, by omega, rfl, rfl, by go_num, HR1, rfl⟩
    · rw [hx] at c0
      clear hx
      go_enter Try.func29, Try.ntmps29
      go_wp2_with fail
      go_loopg [4, 5, 6] (e - t) (fun gg t4 t5 t6 wr => ∃ j d : Nat, t ≤ j ∧ j < e ∧ d ≤ j ∧ gg = e - j ∧ t5 = .int .i64 d ∧ t6 = .int .i64 j ∧ Hid (Road F n j d (e - 1) 1) ∧ wr = w)
      case atStart => exact ⟨t, 0, Nat.le_refl _, by omega, by omega, rfl, rfl, rfl, HR, rfl⟩
      case round =>
        obtain ⟨j, d, htj, hje, hdj, hg, rfl, rfl, hR, hw⟩ := hrel
        obtain rfl := hw.symm
        have c1 := HC.out j (by omega)
        rcases hR.out.inv with ⟨hj1, rfl⟩ | ⟨j1, d1, hst, hr1⟩
        · have hcl := HCL.out
          rw [← hj1] at hcl
          have HJ : Hid (e = j + 1) := by show _ = _; omega
          unfold closes at hcl
          clear hj1
          generalize F j = x at *
          rcases hcl with rfl | rfl
          · go_wp2_with fail
            go_ret
            exact ⟨ret_int (by rw [HJ.out]; simp), rfl⟩
          · go_wp2_with fail
            go_ret
            exact ⟨ret_int (by rw [HJ.out]; simp), rfl⟩
        · have hl1 := hst.lt
          have hl2 := hr1.le
          have HR1 := Lib.hid hr1
          clear hr1 hR
          cases hst with
          | str h1 h2 h3 =>
            have HS := Lib.hid h3
            have u1 : (((F j : Nat) : Int) == 34) = true := by simp [h2]
            clear h1 h2 h3
            generalize F j = x at *
            go_wp2_with fail
            refine (stringEnd_any w _ n c j j1 F hn HF.out HS.out).mono ?_
            rintro en w1 ⟨rfl, hw⟩
            obtain rfl := hw.symm
            go_wp2_with fail
            go_roundg (e - j1)
            case measure => omega
            case rel => exact ⟨j1, d, by omega, by omega, by omega, rfl, rfl, by go_num, HR1, rfl⟩
          | opn h1 h2 =>
            unfold opens at h2
            generalize F j = x at *
            rcases h2 with rfl | rfl
            · go_wp2_with fail
              go_roundg (e - (j + 1))
              case measure => omega
              case rel => exact ⟨j + 1, d + 1, by omega, by omega, by omega, rfl, by go_num, by go_num, HR1, rfl⟩
            · go_wp2_with fail
              go_roundg (e - (j + 1))
              case measure => omega
              case rel => exact ⟨j + 1, d + 1, by omega, by omega, by omega, rfl, by go_num, by go_num, HR1, rfl⟩
          | cls h1 h2 h3 =>
            unfold closes at h2
            have v0 : ((d1 : Int) == 0) = false := by rw [beq_eq_false_iff_ne]; omega
            generalize F j = x at *
            rcases h2 with rfl | rfl
            · go_wp2_with fail
              go_roundg (e - (j + 1))
              case measure => omega
              case rel => exact ⟨j + 1, d1, by omega, by omega, by omega, rfl, by go_num, by go_num, HR1, rfl⟩
            · go_wp2_with fail
              go_roundg (e - (j + 1))
              case measure => omega
              case rel => exact ⟨j + 1, d1, by omega, by omega, by omega, rfl, by go_num, by go_num, HR1, rfl⟩
          | other h1 h2 =>
            unfold plainB at h2
            have v1 : (((F j : Nat) : Int) == 34) = false := by rw [beq_eq_false_iff_ne]; omega
            have v2 : (((F j : Nat) : Int) == 123) = false := by rw [beq_eq_false_iff_ne]; omega
            have v3 : (((F j : Nat) : Int) == 91) = false := by rw [beq_eq_false_iff_ne]; omega
            have v4 : (((F j : Nat) : Int) == 125) = false := by rw [beq_eq_false_iff_ne]; omega
            have v5 : (((F j : Nat) : Int) == 93) = false := by rw [beq_eq_false_iff_ne]; omega
            clear h2
            generalize F j = x at *
            go_wp2_with fail
            go_roundg (e - (j + 1))
            case measure => omega
            case rel => exact ⟨j + 1, d, by omega, by omega, by omega, rfl, rfl, by go_num, HR1, rfl⟩
end Go.Proofs.Qxb6603337a
