/-
  THE WALK of digits.
-/
import Derived.Test.Qxb6603337aVWord
namespace Go.Proofs.Qxb6603337a
open Go.RowKit
set_option linter.unusedVariables false

def DsPost (F : Nat → Nat) (n i : Nat) (w : World) (e : Ending) (w' : World) : Prop :=
  ∃ j : Nat, e = .returned (.int .i64 j) ∧ w' = w ∧ i ≤ j ∧ j ≤ n ∧ ∀ m, i ≤ m → m < j → 48 ≤ F m ∧ F m ≤ 57

set_option maxHeartbeats 2000000 in
theorem digits_any (w : World) (S : Nat) (a : Option Addr) (n c i : Nat) (F : Nat → Nat) (t : Int) (fd : Bool) (en : Int) (h : Sc w S a n c F t fd en) (hi : i ≤ n) :
    Calls Try.prog 43 #[.pointer (some ⟨S, 0, none⟩), .int .i64 i] w (DsPost F n i w) := by
  obtain ⟨s0, s1, s2, s3, _, _⟩ := h.cells
  have HT := Lib.hid h.txt
  have hn := h.small
  clear h s1 s2 s3
  go_enter Try.func43, Try.ntmps43
  go_wp2_with fail
  go_loopg [1] (n - i) (fun gg t1 wr => ∃ j : Nat, i ≤ j ∧ j ≤ n ∧ gg = n - j ∧ t1 = .int .i64 j ∧ Hid (∀ m, i ≤ m → m < j → 48 ≤ F m ∧ F m ≤ 57) ∧ wr = w)
  case atStart => exact ⟨i, Nat.le_refl _, hi, rfl, rfl, (fun m h1 h2 => by omega), rfl⟩
  case round =>
    obtain ⟨j, hij, hjn, hg, rfl, hsp, hw⟩ := hrel
    obtain rfl := hw.symm
    by_cases hlt : j < n
    · obtain ⟨b, off, rfl, hc⟩ := HT.out (by omega)
      have c1 := hc j hlt
      have d0 : decide ((j : Int) < (n : Int)) = true := by simp; omega
      have hcall := digit_any w (F j)
      unfold DigPost at hcall
      clear hc
      by_cases hd : 48 ≤ F j ∧ F j ≤ 57
      · have e : (decide (48 ≤ F j) && decide (F j ≤ 57)) = true := by simp [hd.1, hd.2]
        rw [e] at hcall
        have HCL := Lib.hid hcall
        have HSP : Hid (∀ m, i ≤ m → m < j + 1 → 48 ≤ F m ∧ F m ≤ 57) := by
          intro m h1 h2
          rcases Nat.lt_or_ge m j with h3 | h3
          · exact hsp.out m h1 h3
          · obtain rfl : m = j := by omega
            exact hd
        clear hcall e hd hsp
        go_wp2_with fail
        refine HCL.out.mono ?_
        rintro e w1 ⟨rfl, hw1⟩
        obtain rfl := hw1.symm
        go_wp2_with fail
        go_roundg (n - (j + 1))
        case measure => omega
        case rel => exact ⟨j + 1, by omega, by omega, rfl, by go_num, HSP, rfl⟩
      · have e : (decide (48 ≤ F j) && decide (F j ≤ 57)) = false := by
          by_cases h1 : 48 ≤ F j
          · have h2 : ¬ F j ≤ 57 := fun h => hd ⟨h1, h⟩
            simp [h2]
          · simp [h1]
        rw [e] at hcall
        have HCL := Lib.hid hcall
        clear hcall e hd
        go_wp2_with fail
        refine HCL.out.mono ?_
        rintro e w1 ⟨rfl, hw1⟩
        obtain rfl := hw1.symm
        go_wp2_with fail
        go_ret
        exact ⟨j, rfl, rfl, hij, hjn, hsp.out⟩
    · have d0 : decide ((j : Int) < (n : Int)) = false := by simp; omega
      go_wp2_with fail
      go_ret
      exact ⟨j, rfl, rfl, hij, hjn, hsp.out⟩
end Go.Proofs.Qxb6603337a
