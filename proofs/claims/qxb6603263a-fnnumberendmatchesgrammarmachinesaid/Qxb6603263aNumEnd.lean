/-
  THE WALK of numberEnd: it computes the plain function nEnd.
-/
import Derived.Test.Qxb6603263aSteps
import Derived.Deep.DeepCutAuto
import Derived.Deep.CutBlock
namespace Go.Proofs.Qxb6603263a
open Go.RowKit

set_option maxRecDepth 100000 in
set_option maxHeartbeats 1000000 in
theorem numberEnd_any (f : Nat → Int) (b off n c i : Nat) (w : World) (hn : n ≤ 1048576) (hi : i < n) (hf : ∀ k, k < n → w.cell? ⟨b, off + k, none⟩ = some (.int .u8 (f k))) :
    Calls Try.prog 12 #[.slice (some ⟨b, off, none⟩) n c, .int .i64 i] w fun e w' => e = .returned (.int .i64 (Plain.nEnd f n i)) ∧ w' = w := by
  have hci := hf i hi
  have HN : Hid (Plain.nEnd f n i = Plain.body f n (Plain.sgn f i)) := Plain.nEnd_body f n i
  go_enter Try.func12, Try.ntmps12
  go_upto_if 9 with fail
  go_cut [1] (fun t wc => t = .int .i64 (Plain.sgn f i : Nat) ∧ wc = w)
  case first =>
    by_cases h : f i = 45
    · have hb : (f i == 45) = true := by simp [h]
      have hs : Hid (Plain.sgn f i = i + 1) := by show _ = _; simp [Plain.sgn, h]
      clear h
      go_wp2_with fail
      go_meet
      exact ⟨by rw [hs.out]; go_num, rfl⟩
    · have hb : (f i == 45) = false := by simp [h]
      have hs : Hid (Plain.sgn f i = i) := by show _ = _; simp [Plain.sgn, h]
      clear h
      go_wp2_with fail
      go_meet
      exact ⟨by rw [hs.out], rfl⟩
  case rest =>
    obtain ⟨rfl, rfl⟩ := hcut
    have hsn : Plain.sgn f i ≤ n := by unfold Plain.sgn; split <;> omega
    generalize Plain.sgn f i = s at *
    go_upto_block 0 with fail
    go_cut [1, 12, 26] (fun t _ _ wx => ∃ m : Nat, t = .int .i64 m ∧ m ≤ n ∧ Hid (Plain.body f n s = Plain.rest f n m) ∧ wx = wc)
    case first =>
      by_cases hs : s < n
      · have hcs := hf s hs
        by_cases h0 : f s = 48
        · have hb : (f s == 48) = true := by simp [h0]
          have hr : Hid (Plain.body f n s = Plain.rest f n (s + 1)) := Plain.body_zero f n s hs h0
          clear h0
          go_wp2_with fail
          go_meet
          exact ⟨s + 1, by go_num, by omega, hr, rfl⟩
        · have hb : (f s == 48) = false := by simp [h0]
          cases hd : Plain.dig (f s) with
          | true =>
            have hr : Hid (Plain.body f n s = Plain.rest f n (Plain.dTo f n (s + 1))) := Plain.body_dig f n s hs h0 hd
            have hle := Plain.dTo_le f n (s + 1) (by omega)
            have he : Hid (Plain.dEnd f n s = (Plain.dTo f n (s + 1) : Int)) := Plain.dEnd_yes f n s hs hd
            clear h0
            go_wp2_with (first | (go_at_call 15; refine (isDigit_any _ _).mono ?_; rintro e w' ⟨rfl, rfl⟩) | (go_at_call 16; refine (digitsEnd_any f b off n c s _ hn (by omega) (by assumption)).mono ?_; rintro e w' ⟨rfl, rfl⟩))
            go_meet
            exact ⟨Plain.dTo f n (s + 1), by rw [he.out], hle, hr, rfl⟩
          | false =>
            have hr : Hid (Plain.body f n s = -1) := Plain.body_none f n s (fun _ => ⟨h0, hd⟩)
            clear h0
            go_wp2_with (first | (go_at_call 15; refine (isDigit_any _ _).mono ?_; rintro e w' ⟨rfl, rfl⟩))
            go_ret
            exact ⟨ret_int (by rw [HN.out, hr.out]), rfl⟩
      · have hr : Hid (Plain.body f n s = -1) := Plain.body_none f n s (fun h => absurd h hs)
        go_wp2_with fail
        go_ret
        exact ⟨ret_int (by rw [HN.out, hr.out]), rfl⟩
    case rest =>
      obtain ⟨m, rfl, hm, hr, rfl⟩ := hcut
      have HR : Hid (Plain.nEnd f n i = Plain.rest f n m) := HN.out.trans hr.out
      clear HN hr
      go_upto_region 8 with fail
      go_cut [51] (fun t wx => t = .bool (Plain.isAt f n m 46) ∧ wx = wc)
      case first =>
        by_cases hs : m < n
        · have hcs := hf m hs
          have e : Hid (Plain.isAt f n m 46 = (f m == 46)) := Plain.isAt_in f n m 46 hs
          go_wp2_with fail
          go_meet
          exact ⟨by rw [e.out], rfl⟩
        · have e : Hid (Plain.isAt f n m 46 = false) := Plain.isAt_out f n m 46 hs
          go_wp2_with fail
          go_meet
          exact ⟨by rw [e.out], rfl⟩
      case rest =>
        obtain ⟨rfl, rfl⟩ := hcut
        go_upto_if 51 with fail
        go_cut [1] (fun t wx => ∃ q : Nat, t = .int .i64 q ∧ q ≤ n ∧ Hid (Plain.rest f n m = Plain.expP f n q) ∧ wx = wc)
        case first =>
          cases hb : Plain.isAt f n m 46 with
          | true =>
            obtain ⟨hm1, hm2⟩ := Plain.isAt_yes f n m 46 hb
            have hx : Hid (Plain.rest f n m = if Plain.dEnd f n (m + 1) < 0 then -1 else Plain.expP f n (Plain.dEnd f n (m + 1)).toNat) := Plain.rest_dot f n m hm1 hm2
            clear hm2
            by_cases hneg : Plain.dEnd f n (m + 1) < 0
            · have h1 : Hid (Plain.rest f n m = -1) := by show _ = _; rw [hx.out, if_pos hneg]
              clear hx
              go_wp2_with (go_at_call 16; rw [show (m : Int) + 1 = ((m + 1 : Nat) : Int) from by omega]; refine (digitsEnd_any f b off n c (m + 1) _ hn (by omega) (by assumption)).mono ?_; rintro e w' ⟨rfl, rfl⟩)
              go_ret
              exact ⟨ret_int (by rw [HR.out, h1.out]), rfl⟩
            · have h1 : Hid (Plain.rest f n m = Plain.expP f n (Plain.dEnd f n (m + 1)).toNat) := by show _ = _; rw [hx.out, if_neg hneg]
              have hrg := Plain.dEnd_range f n (m + 1) (by omega)
              clear hx
              go_wp2_with (go_at_call 16; rw [show (m : Int) + 1 = ((m + 1 : Nat) : Int) from by omega]; refine (digitsEnd_any f b off n c (m + 1) _ hn (by omega) (by assumption)).mono ?_; rintro e w' ⟨rfl, rfl⟩)
              go_meet
              exact ⟨(Plain.dEnd f n (m + 1)).toNat, by rw [Int.toNat_of_nonneg (by omega)], by omega, h1, rfl⟩
          | false =>
            have hx : Hid (Plain.rest f n m = Plain.expP f n m) := Plain.rest_e f n m (Plain.isAt_no f n m 46 hb)
            go_wp2_with fail
            go_meet
            exact ⟨m, rfl, hm, hx, rfl⟩
        case rest =>
          obtain ⟨q, rfl, hq, hx, rfl⟩ := hcut
          have HE : Hid (Plain.nEnd f n i = Plain.expP f n q) := HR.out.trans hx.out
          clear HR hx
          go_upto_region 12 with fail
          go_cut [75] (fun t wx => t = .bool (Plain.isAt2 f n q 101 69) ∧ wx = wc)
          case first =>
            by_cases hs : q < n
            · have hcs := hf q hs
              cases h1 : (f q == 101) with
              | true =>
                have e : Hid (Plain.isAt2 f n q 101 69 = true) := Plain.isAt2_fst f n q 101 69 hs h1
                go_wp2_with fail
                go_meet
                exact ⟨by rw [e.out], rfl⟩
              | false =>
                have e : Hid (Plain.isAt2 f n q 101 69 = (f q == 69)) := Plain.isAt2_snd f n q 101 69 hs h1
                go_wp2_with fail
                go_meet
                exact ⟨by rw [e.out], rfl⟩
            · have e : Hid (Plain.isAt2 f n q 101 69 = false) := Plain.isAt2_out f n q 101 69 hs
              go_wp2_with fail
              go_meet
              exact ⟨by rw [e.out], rfl⟩
          case rest =>
            obtain ⟨rfl, rfl⟩ := hcut
            cases hb : Plain.isAt2 f n q 101 69 with
            | false =>
              have hx : Hid (Plain.expP f n q = q) := by show _ = _; rw [Plain.expP, if_neg (Plain.isAt2_no f n q 101 69 hb)]
              go_wp2_with fail
              go_ret
              exact ⟨ret_int (by rw [HE.out, hx.out]), rfl⟩
            | true =>
              have hy := Plain.isAt2_yes f n q 101 69 hb
              have hq1 : q < n := hy.1
              have hx : Hid (Plain.nEnd f n i = Plain.dEnd f n (Plain.esgn f n (q + 1))) := by show _ = _; rw [HE.out, Plain.expP, if_pos hy]
              clear hy HE
              go_upto_region 14 with fail
              go_cut [95] (fun t wx => t = .bool (Plain.isAt2 f n (q + 1) 43 45) ∧ wx = wc)
              case first =>
                by_cases hs : q + 1 < n
                · have hcs := hf (q + 1) hs
                  cases h1 : (f (q + 1) == 43) with
                  | true =>
                    have e : Hid (Plain.isAt2 f n (q + 1) 43 45 = true) := Plain.isAt2_fst f n (q + 1) 43 45 hs h1
                    go_wp2_with fail
                    go_meet
                    exact ⟨by rw [e.out], rfl⟩
                  | false =>
                    have e : Hid (Plain.isAt2 f n (q + 1) 43 45 = (f (q + 1) == 45)) := Plain.isAt2_snd f n (q + 1) 43 45 hs h1
                    go_wp2_with fail
                    go_meet
                    exact ⟨by rw [e.out], rfl⟩
                · have e : Hid (Plain.isAt2 f n (q + 1) 43 45 = false) := Plain.isAt2_out f n (q + 1) 43 45 hs
                  go_wp2_with fail
                  go_meet
                  exact ⟨by rw [e.out], rfl⟩
              case rest =>
                obtain ⟨rfl, rfl⟩ := hcut
                go_upto_if 95 with fail
                go_cut [1] (fun t wx => ∃ z : Nat, t = .int .i64 z ∧ z ≤ n + 1 ∧ Hid (Plain.esgn f n (q + 1) = z) ∧ wx = wc)
                case first =>
                  cases hc : Plain.isAt2 f n (q + 1) 43 45 with
                  | true =>
                    have hz : Hid (Plain.esgn f n (q + 1) = q + 2) := by show _ = _; rw [Plain.esgn, if_pos (Plain.isAt2_yes f n (q + 1) 43 45 hc)]
                    go_wp2_with fail
                    go_meet
                    exact ⟨q + 2, by go_num, by omega, hz, rfl⟩
                  | false =>
                    have hz : Hid (Plain.esgn f n (q + 1) = q + 1) := by show _ = _; rw [Plain.esgn, if_neg (Plain.isAt2_no f n (q + 1) 43 45 hc)]
                    go_wp2_with fail
                    go_meet
                    exact ⟨q + 1, by go_num, by omega, hz, rfl⟩
                case rest =>
                  obtain ⟨z, rfl, hz, hze, rfl⟩ := hcut
                  have hd : Hid (Plain.nEnd f n i = Plain.dEnd f n z) := by show _ = _; rw [hx.out, hze.out]
                  by_cases hneg : Plain.dEnd f n z < 0
                  · have h1 : Hid (Plain.dEnd f n z = -1) := Plain.dEnd_neg f n z hneg
                    go_wp2_with (go_at_call 16; refine (digitsEnd_any f b off n c z _ hn (by omega) (by assumption)).mono ?_; rintro e w' ⟨rfl, rfl⟩)
                    go_ret
                    exact ⟨ret_int (by rw [hd.out, h1.out]), rfl⟩
                  · go_wp2_with (go_at_call 16; refine (digitsEnd_any f b off n c z _ hn (by omega) (by assumption)).mono ?_; rintro e w' ⟨rfl, rfl⟩)
                    go_ret
                    exact ⟨ret_int (by rw [hd.out]), rfl⟩

theorem zzNumberEnd_any (f : Nat → Int) (b off n c i : Nat) (w : World) (hn : n ≤ 1048576) (hi : i < n) (hf : ∀ k, k < n → w.cell? ⟨b, off + k, none⟩ = some (.int .u8 (f k))) :
    Calls Try.prog 8 #[.slice (some ⟨b, off, none⟩) n c, .int .i64 i] w fun e w' => e = .returned (.int .i64 (Plain.nEnd f n i)) ∧ w' = w := by
  go_enter Try.func8, Try.ntmps8
  go_wp2_with (go_at_call 12; refine (numberEnd_any f b off n c i _ hn hi (by assumption)).mono ?_; rintro e w' ⟨rfl, rfl⟩)
  go_ret
  exact ⟨rfl, rfl⟩
end Go.Proofs.Qxb6603263a
