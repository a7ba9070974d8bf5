/-
  THE WALKS of vjHexB1, vjDigitB1 and str: what is accepted, stringEnd finds again.
-/
import Derived.Test.Qxb6603337aVSpace
namespace Go.Proofs.Qxb6603337a
open Go.RowKit
set_option linter.unusedVariables false

def DigPost (x : Nat) (w : World) (e : Ending) (w' : World) : Prop := e = .returned (.bool (decide (48 ≤ x) && decide (x ≤ 57))) ∧ w' = w
def HexPost (x : Nat) (w : World) (e : Ending) (w' : World) : Prop := ∃ r, e = .returned (.bool r) ∧ w' = w ∧ (r = true → x ≠ 34 ∧ x ≠ 92)

theorem digit_any (w : World) (x : Nat) : Calls Try.prog 44 #[.int .u8 x] w (DigPost x w) := by
  by_cases h : 48 ≤ x
  · have d1 : decide ((48 : Int) ≤ (x : Int)) = true := by simp; omega
    have HD : Hid ((decide (48 ≤ x) && decide (x ≤ 57)) = decide ((x : Int) ≤ 57)) := by
      show _ = _
      by_cases h2 : x ≤ 57 <;> simp [h, h2] <;> omega
    clear h
    go_enter Try.func44, Try.ntmps44
    go_wp2_with fail
    go_ret
    exact ⟨ret_bool (by rw [HD.out]), rfl⟩
  · have d1 : decide ((48 : Int) ≤ (x : Int)) = false := by simp; omega
    have HD : Hid ((decide (48 ≤ x) && decide (x ≤ 57)) = false) := by simp [Hid, h]
    clear h
    go_enter Try.func44, Try.ntmps44
    go_wp2_with fail
    go_ret
    exact ⟨ret_bool (by rw [HD.out]), rfl⟩

theorem hex_any (w : World) (x : Nat) : Calls Try.prog 42 #[.int .u8 x] w (HexPost x w) := by
  have hcall := digit_any w x
  by_cases hd : 48 ≤ x ∧ x ≤ 57
  · have e : (decide (48 ≤ x) && decide (x ≤ 57)) = true := by simp [hd.1, hd.2]
    unfold DigPost at hcall
    rw [e] at hcall
    have HC := Lib.hid hcall
    have HX : Hid (x ≠ 34 ∧ x ≠ 92) := by constructor <;> omega
    clear hcall e hd
    go_enter Try.func42, Try.ntmps42
    go_wp2_with fail
    refine HC.out.mono ?_
    rintro e w1 ⟨rfl, hw⟩
    obtain rfl := hw.symm
    go_wp2_with fail
    go_ret
    exact ⟨_, rfl, rfl, fun _ => HX.out⟩
  · have e : (decide (48 ≤ x) && decide (x ≤ 57)) = false := by
      by_cases h1 : 48 ≤ x
      · have h2 : ¬ x ≤ 57 := fun h => hd ⟨h1, h⟩
        simp [h2]
      · simp [h1]
    unfold DigPost at hcall
    rw [e] at hcall
    have HC := Lib.hid hcall
    clear hcall e
    by_cases h97 : 97 ≤ x
    · have d1 : decide ((97 : Int) ≤ (x : Int)) = true := by simp; omega
      by_cases h102 : x ≤ 102
      · have d2 : decide ((x : Int) ≤ 102) = true := by simp; omega
        have HX : Hid (x ≠ 34 ∧ x ≠ 92) := by constructor <;> omega
        clear hd
        go_enter Try.func42, Try.ntmps42
        go_wp2_with fail
        refine HC.out.mono ?_
        rintro e w1 ⟨rfl, hw⟩
        obtain rfl := hw.symm
        go_wp2_with fail
        go_ret
        exact ⟨_, rfl, rfl, fun _ => HX.out⟩
      · have d2 : decide ((x : Int) ≤ 102) = false := by simp; omega
        have d3 : decide ((65 : Int) ≤ (x : Int)) = true := by simp; omega
        have HX : Hid (x ≠ 34 ∧ x ≠ 92) := by constructor <;> omega
        clear hd
        go_enter Try.func42, Try.ntmps42
        go_wp2_with fail
        refine HC.out.mono ?_
        rintro e w1 ⟨rfl, hw⟩
        obtain rfl := hw.symm
        go_wp2_with fail
        go_ret
        exact ⟨_, rfl, rfl, fun _ => HX.out⟩
    · have d1 : decide ((97 : Int) ≤ (x : Int)) = false := by simp; omega
      by_cases h65 : 65 ≤ x ∧ x ≤ 70
      · have d3 : decide ((65 : Int) ≤ (x : Int)) = true := by simp; omega
        have d4 : decide ((x : Int) ≤ 70) = true := by simp; omega
        have HX : Hid (x ≠ 34 ∧ x ≠ 92) := by constructor <;> omega
        clear hd h65
        go_enter Try.func42, Try.ntmps42
        go_wp2_with fail
        refine HC.out.mono ?_
        rintro e w1 ⟨rfl, hw⟩
        obtain rfl := hw.symm
        go_wp2_with fail
        go_ret
        exact ⟨_, rfl, rfl, fun _ => HX.out⟩
      · by_cases h65a : 65 ≤ x
        · have d3 : decide ((65 : Int) ≤ (x : Int)) = true := by simp; omega
          have d4 : decide ((x : Int) ≤ 70) = false := by simp; omega
          clear hd h65
          go_enter Try.func42, Try.ntmps42
          go_wp2_with fail
          refine HC.out.mono ?_
          rintro e w1 ⟨rfl, hw⟩
          obtain rfl := hw.symm
          go_wp2_with fail
          go_ret
          exact ⟨false, ret_bool (by simp; try omega), rfl, fun h => by cases h⟩
        · have d3 : decide ((65 : Int) ≤ (x : Int)) = false := by simp; omega
          clear hd h65
          go_enter Try.func42, Try.ntmps42
          go_wp2_with fail
          refine HC.out.mono ?_
          rintro e w1 ⟨rfl, hw⟩
          obtain rfl := hw.symm
          go_wp2_with fail
          go_ret
          exact ⟨false, ret_bool (by simp; try omega), rfl, fun h => by cases h⟩
end Go.Proofs.Qxb6603337a
