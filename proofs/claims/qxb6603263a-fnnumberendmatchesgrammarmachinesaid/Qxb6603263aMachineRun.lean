/-
  THE WALK of zzNumberMachine: it computes 'mach'.
-/
import Derived.Test.Qxb6603263aMachine
namespace Go.Proofs.Qxb6603263a
open Go.RowKit

theorem step_range (s c : Int) : Plain.step s c ≤ 8 ∧ -1 ≤ Plain.step s c := by
  unfold Plain.step
  repeat' split
  all_goals omega

set_option maxHeartbeats 1000000 in
theorem machine_any (f : Nat → Int) (b off n c i : Nat) (w : World) (hn : n ≤ 1048576) (hi : i < n) (hf : ∀ k, k < n → w.cell? ⟨b, off + k, none⟩ = some (.int .u8 (f k))) :
    Calls Try.prog 9 #[.slice (some ⟨b, off, none⟩) n c, .int .i64 i] w fun e w' => e = .returned (.int .i64 (Plain.mach f n 0 i)) ∧ w' = w := by
  go_enter Try.func9, Try.ntmps9
  go_wp2
  go_loop [5, 6, 7] (fun s t _ => ∃ (q : Int) (k : Nat), 0 ≤ q ∧ q ≤ 8 ∧ k ≤ n ∧ s = .int .i64 q ∧ t = .int .i64 k ∧ Hid (Plain.mach f n 0 i = Plain.mach f n q k)) (fun _ t _ => n - (intOf t).toNat)
  case atStart => exact ⟨0, i, by omega, by omega, by omega, rfl, rfl, rfl⟩
  case round =>
    obtain ⟨q, k, hq0, hq8, hk, rfl, rfl, hm⟩ := hrel
    by_cases hlt : k < n
    · have hcell := hf k hlt
      by_cases hst : Plain.step q (f k) < 0
      · have hm2 : Hid (Plain.mach f n 0 i = if Plain.acc q then (k : Int) else -1) := hm.out.trans (Plain.mach_stop f n q k hlt hst)
        cases ha : Plain.acc q with
        | true =>
          have hm3 : Hid (Plain.mach f n 0 i = k) := by show _ = _; rw [hm2.out, ha]; rfl
          go_wp2_with (first | (go_at_call 13; refine (step_any _ _ _ ⟨hq0, hq8⟩).mono ?_; rintro e w' ⟨rfl, rfl⟩) | (go_at_call 14; refine (acc_any _ _).mono ?_; rintro e w' ⟨rfl, rfl⟩))
          go_ret
          exact ⟨ret_int hm3.out.symm, rfl⟩
        | false =>
          have hm3 : Hid (Plain.mach f n 0 i = -1) := by show _ = _; rw [hm2.out, ha]; rfl
          go_wp2_with (first | (go_at_call 13; refine (step_any _ _ _ ⟨hq0, hq8⟩).mono ?_; rintro e w' ⟨rfl, rfl⟩) | (go_at_call 14; refine (acc_any _ _).mono ?_; rintro e w' ⟨rfl, rfl⟩))
          go_ret
          exact ⟨ret_int hm3.out.symm, rfl⟩
      · have hm2 : Hid (Plain.mach f n 0 i = Plain.mach f n (Plain.step q (f k)) (k + 1)) := hm.out.trans (Plain.mach_go f n q k hlt hst)
        have hr := step_range q (f k)
        go_wp2_with (first | (go_at_call 13; refine (step_any _ _ _ ⟨hq0, hq8⟩).mono ?_; rintro e w' ⟨rfl, rfl⟩))
        go_round
        case rel => exact ⟨Plain.step q (f k), k + 1, by omega, hr.1, by omega, rfl, by go_num, hm2⟩
        case measure => simp [intOf]; omega
    · have hm2 : Hid (Plain.mach f n 0 i = if Plain.acc q then (k : Int) else -1) := hm.out.trans (Plain.mach_end f n q k (by omega))
      cases ha : Plain.acc q with
      | true =>
        have hm3 : Hid (Plain.mach f n 0 i = k) := by show _ = _; rw [hm2.out, ha]; rfl
        go_wp2_with (first | (go_at_call 14; refine (acc_any _ _).mono ?_; rintro e w' ⟨rfl, rfl⟩))
        go_ret
        exact ⟨ret_int hm3.out.symm, rfl⟩
      | false =>
        have hm3 : Hid (Plain.mach f n 0 i = -1) := by show _ = _; rw [hm2.out, ha]; rfl
        go_wp2_with (first | (go_at_call 14; refine (acc_any _ _).mono ?_; rintro e w' ⟨rfl, rfl⟩))
        go_ret
        exact ⟨ret_int hm3.out.symm, rfl⟩
end Go.Proofs.Qxb6603263a
