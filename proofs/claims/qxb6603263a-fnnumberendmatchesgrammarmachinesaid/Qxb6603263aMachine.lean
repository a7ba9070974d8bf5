/-
  THE WALKS of the automaton: zzNumberStep computes 'step', zzNumberMachine computes 'mach'.
-/
import Derived.Test.Qxb6603263aSteps
namespace Go.Proofs.Qxb6603263a
open Go.RowKit

/-- the byte's class decides every test of the step -/
theorem step_lit (s c : Int) (w : World) (r : Int) (hs : s = 0 ∨ s = 1 ∨ s = 2 ∨ s = 3 ∨ s = 4 ∨ s = 5 ∨ s = 6 ∨ s = 7 ∨ s = 8) (hc : c = 45 ∨ c = 48 ∨ c = 46 ∨ c = 101 ∨ c = 69 ∨ c = 43) (hr : Plain.step s c = r) :
    Calls Try.prog 13 #[.int .i64 s, .int .u8 c] w fun e w' => e = .returned (.int .i64 r) ∧ w' = w := by
  rcases hs with rfl | rfl | rfl | rfl | rfl | rfl | rfl | rfl | rfl <;> rcases hc with rfl | rfl | rfl | rfl | rfl | rfl <;>
    (have HR : Hid (_ = r) := hr
     clear hr
     go_enter Try.func13, Try.ntmps13
     go_wp2
     go_ret
     exact ⟨ret_int HR.out, rfl⟩)

theorem step_dig (s c : Int) (w : World) (r : Int) (hs : s = 0 ∨ s = 1 ∨ s = 2 ∨ s = 3 ∨ s = 4 ∨ s = 5 ∨ s = 6 ∨ s = 7 ∨ s = 8) (h1 : 49 ≤ c) (h2 : c ≤ 57) (hr : Plain.step s c = r) :
    Calls Try.prog 13 #[.int .i64 s, .int .u8 c] w fun e w' => e = .returned (.int .i64 r) ∧ w' = w := by
  have hd : Plain.dig c = true := by rw [Plain.dig_iff]; omega
  have e1 : (c = 45) = False := by simp; omega
  have e2 : (c = 48) = False := by simp; omega
  have e3 : (c = 46) = False := by simp; omega
  have e4 : (c = 101) = False := by simp; omega
  have e5 : (c = 69) = False := by simp; omega
  have e6 : (c = 43) = False := by simp; omega
  have be1 : (c == 45) = false := by simp; omega
  have be2 : (c == 48) = false := by simp; omega
  have be3 : (c == 46) = false := by simp; omega
  have be4 : (c == 101) = false := by simp; omega
  have be5 : (c == 69) = false := by simp; omega
  have be6 : (c == 43) = false := by simp; omega
  rcases hs with rfl | rfl | rfl | rfl | rfl | rfl | rfl | rfl | rfl <;>
    (simp [Plain.step, hd, e1, e2, e3, e4, e5, e6] at hr
     have HR : Hid (_ = r) := hr
     clear hr hd e1 e2 e3 e4 e5 e6
     go_enter Try.func13, Try.ntmps13
     go_wp2
     go_ret
     exact ⟨ret_int HR.out, rfl⟩)

theorem step_low (s c : Int) (w : World) (r : Int) (hs : s = 0 ∨ s = 1 ∨ s = 2 ∨ s = 3 ∨ s = 4 ∨ s = 5 ∨ s = 6 ∨ s = 7 ∨ s = 8) (h1 : c < 48) (h3 : c ≠ 45) (h4 : c ≠ 46) (h5 : c ≠ 43) (hr : Plain.step s c = r) :
    Calls Try.prog 13 #[.int .i64 s, .int .u8 c] w fun e w' => e = .returned (.int .i64 r) ∧ w' = w := by
  have hd : Plain.dig c = false := by cases h : Plain.dig c with
    | true => rw [Plain.dig_iff] at h; omega
    | false => rfl
  have e1 : (c = 45) = False := by simp; omega
  have e2 : (c = 48) = False := by simp; omega
  have e3 : (c = 46) = False := by simp; omega
  have e4 : (c = 101) = False := by simp; omega
  have e5 : (c = 69) = False := by simp; omega
  have e6 : (c = 43) = False := by simp; omega
  have be1 : (c == 45) = false := by simp; omega
  have be2 : (c == 48) = false := by simp; omega
  have be3 : (c == 46) = false := by simp; omega
  have be4 : (c == 101) = false := by simp; omega
  have be5 : (c == 69) = false := by simp; omega
  have be6 : (c == 43) = false := by simp; omega
  rcases hs with rfl | rfl | rfl | rfl | rfl | rfl | rfl | rfl | rfl <;>
    (simp [Plain.step, hd, e1, e2, e3, e4, e5, e6] at hr
     have HR : Hid (_ = r) := hr
     clear hr hd e1 e2 e3 e4 e5 e6
     go_enter Try.func13, Try.ntmps13
     go_wp2
     go_ret
     exact ⟨ret_int HR.out, rfl⟩)

theorem step_high (s c : Int) (w : World) (r : Int) (hs : s = 0 ∨ s = 1 ∨ s = 2 ∨ s = 3 ∨ s = 4 ∨ s = 5 ∨ s = 6 ∨ s = 7 ∨ s = 8) (h1 : 57 < c) (h3 : c ≠ 101) (h4 : c ≠ 69) (hr : Plain.step s c = r) :
    Calls Try.prog 13 #[.int .i64 s, .int .u8 c] w fun e w' => e = .returned (.int .i64 r) ∧ w' = w := by
  have hd : Plain.dig c = false := by cases h : Plain.dig c with
    | true => rw [Plain.dig_iff] at h; omega
    | false => rfl
  have e1 : (c = 45) = False := by simp; omega
  have e2 : (c = 48) = False := by simp; omega
  have e3 : (c = 46) = False := by simp; omega
  have e4 : (c = 101) = False := by simp; omega
  have e5 : (c = 69) = False := by simp; omega
  have e6 : (c = 43) = False := by simp; omega
  have be1 : (c == 45) = false := by simp; omega
  have be2 : (c == 48) = false := by simp; omega
  have be3 : (c == 46) = false := by simp; omega
  have be4 : (c == 101) = false := by simp; omega
  have be5 : (c == 69) = false := by simp; omega
  have be6 : (c == 43) = false := by simp; omega
  rcases hs with rfl | rfl | rfl | rfl | rfl | rfl | rfl | rfl | rfl <;>
    (simp [Plain.step, hd, e1, e2, e3, e4, e5, e6] at hr
     have HR : Hid (_ = r) := hr
     clear hr hd e1 e2 e3 e4 e5 e6
     go_enter Try.func13, Try.ntmps13
     go_wp2
     go_ret
     exact ⟨ret_int HR.out, rfl⟩)

theorem step_any (s c : Int) (w : World) (hs : 0 ≤ s ∧ s ≤ 8) :
    Calls Try.prog 13 #[.int .i64 s, .int .u8 c] w fun e w' => e = .returned (.int .i64 (Plain.step s c)) ∧ w' = w := by
  have hs' : s = 0 ∨ s = 1 ∨ s = 2 ∨ s = 3 ∨ s = 4 ∨ s = 5 ∨ s = 6 ∨ s = 7 ∨ s = 8 := by omega
  by_cases hl : c = 45 ∨ c = 48 ∨ c = 46 ∨ c = 101 ∨ c = 69 ∨ c = 43
  · exact step_lit s c w _ hs' hl rfl
  by_cases h1 : c < 48
  · exact step_low s c w _ hs' h1 (by omega) (by omega) (by omega) rfl
  by_cases h2 : 57 < c
  · exact step_high s c w _ hs' h2 (by omega) (by omega) rfl
  exact step_dig s c w _ hs' (by omega) (by omega) rfl

end Go.Proofs.Qxb6603263a
