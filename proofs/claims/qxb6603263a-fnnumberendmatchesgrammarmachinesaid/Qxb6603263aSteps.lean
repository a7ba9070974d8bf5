/-
  THE WALKS of the seat's small functions: each computes its plain function.
-/
import Derived.Test.Qxb6603263aRows
import Derived.Test.Qxb6603263aPlain
import Derived.WalkKit
import Derived.WalkSpells
import Derived.WalkLawsBesides
namespace Go.Proofs.Qxb6603263a
open Go.RowKit

theorem ret_int {k : IntKind} {a b : Int} (h : a = b) : Ending.returned (.int k a) = .returned (.int k b) := by rw [h]
theorem ret_bool {a b : Bool} (h : a = b) : Ending.returned (.bool a) = .returned (.bool b) := by rw [h]

theorem isDigit_any (c : Int) (w : World) : Calls Try.prog 15 #[.int .u8 c] w fun e w' => e = .returned (.bool (Plain.dig c)) ∧ w' = w := by
  by_cases h1 : 48 ≤ c
  · by_cases h2 : c ≤ 57
    · have e : Plain.dig c = true := by simp [Plain.dig, h1, h2]
      rw [e]
      go_enter Try.func15, Try.ntmps15
      go_wp2
      go_ret
      exact ⟨rfl, rfl⟩
    · have e : Plain.dig c = false := by simp [Plain.dig, h2]
      rw [e]
      go_enter Try.func15, Try.ntmps15
      go_wp2
      go_ret
      exact ⟨rfl, rfl⟩
  · have e : Plain.dig c = false := by simp [Plain.dig, h1]
    rw [e]
    go_enter Try.func15, Try.ntmps15
    go_wp2
    go_ret
    exact ⟨rfl, rfl⟩

theorem acc_any (s : Int) (w : World) : Calls Try.prog 14 #[.int .i64 s] w fun e w' => e = .returned (.bool (Plain.acc s)) ∧ w' = w := by
  unfold Plain.acc
  by_cases h2 : s = 2
  · subst h2
    go_enter Try.func14, Try.ntmps14
    go_wp2
    go_ret
    exact ⟨rfl, rfl⟩
  · by_cases h3 : s = 3
    · subst h3
      go_enter Try.func14, Try.ntmps14
      go_wp2
      go_ret
      exact ⟨rfl, rfl⟩
    · by_cases h5 : s = 5
      · subst h5
        go_enter Try.func14, Try.ntmps14
        go_wp2
        go_ret
        exact ⟨rfl, rfl⟩
      · by_cases h8 : s = 8
        · subst h8
          go_enter Try.func14, Try.ntmps14
          go_wp2
          go_ret
          exact ⟨rfl, rfl⟩
        · have e2 : (s == 2) = false := by simp [h2]
          have e3 : (s == 3) = false := by simp [h3]
          have e5 : (s == 5) = false := by simp [h5]
          have e8 : (s == 8) = false := by simp [h8]
          simp only [h2, h3, h5, h8]
          go_enter Try.func14, Try.ntmps14
          go_wp2
          go_ret
          exact ⟨rfl, rfl⟩

theorem bytesA_yes (a : Option Addr) (n c : Nat) (i : Int) (w : World) (h : n ≤ 1048576) : Calls Try.prog 6 #[.slice a n c, .int .i64 i] w fun e w' => e = .returned (.bool true) ∧ w' = w := by
  go_enter Try.func6, Try.ntmps6
  go_wp2
  go_ret
  exact ⟨rfl, rfl⟩

theorem bytesA_no (a : Option Addr) (n c : Nat) (i : Int) (w : World) (h : 1048576 < n) : Calls Try.prog 6 #[.slice a n c, .int .i64 i] w fun e w' => e = .returned (.bool false) ∧ w' = w := by
  go_enter Try.func6, Try.ntmps6
  go_wp2
  go_ret
  exact ⟨rfl, rfl⟩

theorem bytesC_yes (a : Option Addr) (n c : Nat) (i : Int) (w : World) (h : n ≤ 1048576) : Calls Try.prog 11 #[.slice a n c, .int .i64 i] w fun e w' => e = .returned (.bool true) ∧ w' = w := by
  go_enter Try.func11, Try.ntmps11
  go_wp2
  go_ret
  exact ⟨rfl, rfl⟩

theorem bytesC_no (a : Option Addr) (n c : Nat) (i : Int) (w : World) (h : 1048576 < n) : Calls Try.prog 11 #[.slice a n c, .int .i64 i] w fun e w' => e = .returned (.bool false) ∧ w' = w := by
  go_enter Try.func11, Try.ntmps11
  go_wp2
  go_ret
  exact ⟨rfl, rfl⟩

/-- digitsEnd -/
theorem digitsEnd_any (f : Nat → Int) (b off n c i : Nat) (w : World) (hn : n ≤ 1048576) (hi : i ≤ 1048577) (hf : ∀ k, k < n → w.cell? ⟨b, off + k, none⟩ = some (.int .u8 (f k))) :
    Calls Try.prog 16 #[.slice (some ⟨b, off, none⟩) n c, .int .i64 i] w fun e w' => e = .returned (.int .i64 (Plain.dEnd f n i)) ∧ w' = w := by
  have hfin : ∀ k, i ≤ k → Plain.dTo f n i = k → Plain.dEnd f n i = if k = i then -1 else (k : Int) := by
    intro k _ h; unfold Plain.dEnd; rw [h]
  have HF : Hid (∀ k, i ≤ k → Plain.dTo f n i = k → Plain.dEnd f n i = if k = i then -1 else (k : Int)) := hfin
  clear hfin
  go_enter Try.func16, Try.ntmps16
  go_wp2
  go_loop [1] (fun t => ∃ k : Nat, i ≤ k ∧ (k ≤ n ∨ k = i) ∧ t = .int .i64 k ∧ Hid (Plain.dTo f n i = Plain.dTo f n k)) (fun t => n - (intOf t).toNat)
  case atStart => exact ⟨i, Nat.le_refl _, .inr rfl, rfl, rfl⟩
  case round =>
    obtain ⟨k, hik, hkn, rfl, hd⟩ := hrel
    by_cases hlt : k < n
    · have hcell := hf k hlt
      cases hdg : Plain.dig (f k) with
      | true =>
        have hnext : Hid (Plain.dTo f n i = Plain.dTo f n (k + 1)) := hd.out.trans (Plain.dTo_yes f n k hlt hdg)
        go_wp2_with (go_at_call 15; refine (isDigit_any _ _).mono ?_; rintro e w' ⟨rfl, rfl⟩)
        go_round
        case rel => exact ⟨k + 1, by omega, by omega, by go_num, hnext⟩
        case measure => simp [intOf]; omega
      | false =>
        have hk : Hid (Plain.dTo f n i = k) := hd.out.trans (Plain.dTo_no f n k (fun _ => hdg))
        by_cases hki : k = i
        · subst hki
          have hfi := HF.out k (Nat.le_refl _) hk.out
          rw [if_pos rfl] at hfi
          have HI : Hid (Plain.dEnd f n k = -1) := hfi
          clear hfi
          go_wp2_with (go_at_call 15; refine (isDigit_any _ _).mono ?_; rintro e w' ⟨rfl, rfl⟩)
          go_ret
          exact ⟨ret_int HI.out.symm, rfl⟩
        · have hfi := HF.out k hik hk.out
          rw [if_neg hki] at hfi
          have HI : Hid (Plain.dEnd f n i = k) := hfi
          clear hfi
          have hne : ((k : Int) == (i : Int)) = false := by simp; omega
          go_wp2_with (go_at_call 15; refine (isDigit_any _ _).mono ?_; rintro e w' ⟨rfl, rfl⟩)
          go_ret
          exact ⟨ret_int HI.out.symm, rfl⟩
    · have hk : Hid (Plain.dTo f n i = k) := hd.out.trans (Plain.dTo_no f n k (fun h => absurd h hlt))
      by_cases hki : k = i
      · subst hki
        have hfi := HF.out k (Nat.le_refl _) hk.out
        rw [if_pos rfl] at hfi
        have HI : Hid (Plain.dEnd f n k = -1) := hfi
        clear hfi
        go_wp2_with (go_at_call 15; refine (isDigit_any _ _).mono ?_; rintro e w' ⟨rfl, rfl⟩)
        go_ret
        exact ⟨ret_int HI.out.symm, rfl⟩
      · have hfi := HF.out k hik hk.out
        rw [if_neg hki] at hfi
        have HI : Hid (Plain.dEnd f n i = k) := hfi
        clear hfi
        have hne : ((k : Int) == (i : Int)) = false := by simp; omega
        go_wp2_with (go_at_call 15; refine (isDigit_any _ _).mono ?_; rintro e w' ⟨rfl, rfl⟩)
        go_ret
        exact ⟨ret_int HI.out.symm, rfl⟩
end Go.Proofs.Qxb6603263a
