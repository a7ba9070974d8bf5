/-
  THE WALK of str.
-/
import Derived.Test.Qxb6603337aVStr
namespace Go.Proofs.Qxb6603337a
open Go.RowKit
set_option linter.unusedVariables false

/-- a parser's answer: an end with P, or no; nothing is written -/
def PPost (P : Nat → Prop) (w : World) (e : Ending) (w' : World) : Prop :=
  w' = w ∧ ((∃ r : Nat, e = .returned (.tuple #[.int .i64 r, .bool true]) ∧ P r) ∨ e = .returned (.tuple #[.int .i64 0, .bool false]))

theorem PPost.no {P : Nat → Prop} {w : World} : PPost P w (.returned (.tuple #[.int .i64 0, .bool false])) w := ⟨rfl, .inr rfl⟩
theorem PPost.yes {P : Nat → Prop} {w : World} {r : Nat} {v : Int} (hv : v = r) (h : P r) : PPost P w (.returned (.tuple #[.int .i64 v, .bool true])) w := ⟨rfl, .inl ⟨r, by rw [hv], h⟩⟩

set_option maxRecDepth 100000 in
set_option maxHeartbeats 4000000 in
theorem str_any (w : World) (S : Nat) (a : Option Addr) (n c i : Nat) (F : Nat → Nat) (t : Int) (fd : Bool) (en : Int) (h : Sc w S a n c F t fd en) (hi : i < n) :
    Calls Try.prog 33 #[.pointer (some ⟨S, 0, none⟩), .int .i64 i] w (PPost (SE F n (i + 1)) w) := by
  obtain ⟨s0, s1, s2, s3, _, _⟩ := h.cells
  have HT := Lib.hid h.txt
  have hn := h.small
  obtain ⟨b, off, rfl, hc⟩ := h.txt (by omega)
  have HC := Lib.hid hc
  clear h s1 s2 s3 hc
  go_enter Try.func33, Try.ntmps33
  go_wp2_with fail
  go_loopg [4, 5, 6, 7, 8] (n - (i + 1)) (fun gg t4 t5 t6 t7 t8 wr => ∃ j : Nat, i + 1 ≤ j ∧ j ≤ n ∧ gg = n - j ∧ t6 = .int .i64 j ∧ Hid (∀ e, SE F n j e → SE F n (i + 1) e) ∧ wr = w)
  case atStart => exact ⟨i + 1, Nat.le_refl _, by omega, rfl, by go_num, (fun e he => he), rfl⟩
  case round =>
    obtain ⟨j, hij, hjn, hg, rfl, hK, hw⟩ := hrel
    obtain rfl := hw.symm
    by_cases hlt : j < n
    · have c1 := HC.out j hlt
      by_cases h34 : F j = 34
      · have HS : Hid (SE F n (i + 1) (j + 1)) := hK.out _ (.quote hlt h34)
        rw [h34] at c1
        clear h34
        go_wp2_with fail
        go_ret2
        exact PPost.yes (by simp) HS.out
      have v34 : (((F j : Nat) : Int) == 34) = false := by rw [beq_eq_false_iff_ne]; omega
      by_cases h32 : F j < 32
      · have d1 : decide (((F j : Nat) : Int) < 32) = true := by simp; omega
        generalize F j = x at *
        go_wp2_with fail
        go_ret2
        exact PPost.no
      have d1 : decide (((F j : Nat) : Int) < 32) = false := by simp; omega
      by_cases h92 : F j = 92
      · rw [h92] at c1
        by_cases hl1 : j + 1 < n
        · have c2 := HC.out (j + 1) hl1
          by_cases hE : F (j + 1) = 34 ∨ F (j + 1) = 92 ∨ F (j + 1) = 47 ∨ F (j + 1) = 98 ∨ F (j + 1) = 102 ∨ F (j + 1) = 110 ∨ F (j + 1) = 114 ∨ F (j + 1) = 116
          · have HK : Hid (∀ e, SE F n (j + 2) e → SE F n (i + 1) e) := fun e he => hK.out e (.esc hlt h92 he)
            clear h34 v34 h32 d1 h92 hK
            generalize F (j + 1) = y at *
            rcases hE with rfl | rfl | rfl | rfl | rfl | rfl | rfl | rfl
            all_goals
              go_wp2_with fail
              go_roundg (n - (j + 2))
              case measure => omega
              case rel => exact ⟨j + 2, by omega, by omega, rfl, by go_num, HK, rfl⟩
          have y34 : (((F (j + 1) : Nat) : Int) == 34) = false := by rw [beq_eq_false_iff_ne]; omega
          have y92 : (((F (j + 1) : Nat) : Int) == 92) = false := by rw [beq_eq_false_iff_ne]; omega
          have y47 : (((F (j + 1) : Nat) : Int) == 47) = false := by rw [beq_eq_false_iff_ne]; omega
          have y98 : (((F (j + 1) : Nat) : Int) == 98) = false := by rw [beq_eq_false_iff_ne]; omega
          have y102 : (((F (j + 1) : Nat) : Int) == 102) = false := by rw [beq_eq_false_iff_ne]; omega
          have y110 : (((F (j + 1) : Nat) : Int) == 110) = false := by rw [beq_eq_false_iff_ne]; omega
          have y114 : (((F (j + 1) : Nat) : Int) == 114) = false := by rw [beq_eq_false_iff_ne]; omega
          have y116 : (((F (j + 1) : Nat) : Int) == 116) = false := by rw [beq_eq_false_iff_ne]; omega
          by_cases h117 : F (j + 1) = 117
          · have y117 : (((F (j + 1) : Nat) : Int) == 117) = true := by simp [h117]
            by_cases hl6 : j + 6 ≤ n
            · have HESC : Hid (F j = 92) := h92
              have HU : Hid (F (j + 1) = 117) := h117
              clear h34 v34 h32 d1 h92 h117 hE
              generalize hy : F (j + 1) = y at *
              have HY := Lib.hid hy
              clear hy
              go_wp2_with fail
              go_loopg [4, 5, 8] 4 (fun gg t4 t5 t8 wr => ∃ k : Nat, j + 2 ≤ k ∧ k ≤ j + 6 ∧ gg = j + 6 - k ∧ t8 = .int .i64 k ∧ Hid (∀ m, j + 2 ≤ m → m < k → F m ≠ 34 ∧ F m ≠ 92) ∧ wr = w)
              case atStart => exact ⟨j + 2, Nat.le_refl _, by omega, by omega, by go_num, (fun m h1 h2 => by omega), rfl⟩
              case round =>
                obtain ⟨k, hjk, hk6, hg2, rfl, hM, hw2⟩ := hrel
                obtain rfl := hw2.symm
                by_cases hk : k < j + 6
                · have c3 := HC.out k (by omega)
                  go_wp2_with fail
                  refine (hex_any w (F k)).mono ?_
                  rintro e w1 ⟨r, rfl, hw3, hr⟩
                  obtain rfl := hw3.symm
                  have HRR := Lib.hid hr
                  clear hr
                  cases r with
                  | false =>
                    go_wp2_with fail
                    go_ret2
                    exact PPost.no
                  | true =>
                    have HM2 : Hid (∀ m, j + 2 ≤ m → m < k + 1 → F m ≠ 34 ∧ F m ≠ 92) := by
                      intro m h1 h2
                      rcases Nat.lt_or_ge m k with h3 | h3
                      · exact hM.out m h1 h3
                      · obtain rfl : m = k := by omega
                        exact HRR.out rfl
                    clear hM
                    go_wp2_with fail
                    go_roundg (j + 6 - (k + 1))
                    case measure => omega
                    case rel => exact ⟨k + 1, by omega, by omega, rfl, by go_num, HM2, rfl⟩
                · obtain rfl : k = j + 6 := by omega
                  have HK : Hid (∀ e, SE F n (j + 6) e → SE F n (i + 1) e) := fun e he => hK.out e (.esc hlt HESC.out (SE.over 4 (j + 2) (fun m hm => hM.out _ (by omega) (by omega)) (by omega) he))
                  go_wp2_with fail
                  go_roundg (n - (j + 6))
                  case measure => omega
                  case rel => exact ⟨j + 6, by omega, by omega, rfl, by go_num, HK, rfl⟩
            · clear h34 v34 h32 d1 h92 h117 hE hK
              generalize F (j + 1) = y at *
              go_wp2_with fail
              go_ret2
              exact PPost.no
          · have y117 : (((F (j + 1) : Nat) : Int) == 117) = false := by rw [beq_eq_false_iff_ne]; omega
            clear h34 v34 h32 d1 h92 h117 hE hK
            generalize F (j + 1) = y at *
            go_wp2_with fail
            go_ret2
            exact PPost.no
        · go_wp2_with fail
          go_ret2
          exact PPost.no
      · have v92 : (((F j : Nat) : Int) == 92) = false := by rw [beq_eq_false_iff_ne]; omega
        have z92 : (((F j : Nat) : Int) != 92) = true := by simp [bne, v92]
        have HK : Hid (∀ e, SE F n (j + 1) e → SE F n (i + 1) e) := fun e he => hK.out e (.other hlt h34 h92 he)
        clear h34 h32 h92 hK
        generalize F j = x at *
        go_wp2_with fail
        go_roundg (n - (j + 1))
        case measure => omega
        case rel => exact ⟨j + 1, by omega, by omega, rfl, by go_num, HK, rfl⟩
    · go_wp2_with fail
      go_ret2
      exact PPost.no
end Go.Proofs.Qxb6603337a
