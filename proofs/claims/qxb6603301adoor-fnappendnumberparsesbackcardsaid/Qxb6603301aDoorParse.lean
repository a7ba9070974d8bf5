/-
  THE WALK of parseCanonical on a numeral: the number again.
-/
import Derived.Test.Qxb6603301aDoorDec
namespace Go.Proofs.Qxb6603301aDoor
open Go.RowKit
set_option linter.unusedVariables false

/-- what the digits say -/
def val (l : List Int) : Int := l.foldl (fun a d => a * 10 + (d - 48)) 0
theorem val_snoc (l : List Int) (d : Int) : val (l ++ [d]) = val l * 10 + (d - 48) := by simp [val]
def Dig (l : List Int) : Prop := ∀ d ∈ l, 48 ≤ d ∧ d ≤ 57
def dsOf (m : Nat) : List Int := nums (Lib.decDigits m)

theorem dsOf_small {m : Nat} (h : m < 10) : dsOf m = [48 + (m : Int)] := by unfold dsOf; rw [Lib.decDigits_one h, num_digit m h]
theorem dsOf_big {m : Nat} (h : ¬ m < 10) : dsOf m = dsOf (m / 10) ++ [48 + ((m % 10 : Nat) : Int)] := by
  have hdec : Lib.decDigits m = Lib.decDigits (m / 10) ++ [UInt8.ofNat (48 + m % 10)] := (Lib.decDigits.eq_def m).trans (dif_neg h)
  have := num_digit (m % 10) (Nat.mod_lt _ (by decide))
  unfold dsOf
  rw [hdec]
  simp only [nums, List.map_append] at this ⊢
  rw [this]

theorem dsOf_val (m : Nat) : val (dsOf m) = m := by
  induction m using Nat.strongRecOn with
  | _ m ih =>
    by_cases h : m < 10
    · rw [dsOf_small h]; simp [val]; omega
    · rw [dsOf_big h, val_snoc, ih (m / 10) (by omega)]; omega
theorem dsOf_dig (m : Nat) : Dig (dsOf m) := by
  induction m using Nat.strongRecOn with
  | _ m ih =>
    by_cases h : m < 10
    · rw [dsOf_small h]; intro d hd; simp at hd; omega
    · rw [dsOf_big h]
      intro d hd
      rcases List.mem_append.1 hd with h1 | h1
      · exact ih (m / 10) (by omega) d h1
      · simp only [List.mem_singleton] at h1; omega
theorem dsOf_pos (m : Nat) : 0 < (dsOf m).length := by
  by_cases h : m < 10
  · rw [dsOf_small h]; simp
  · rw [dsOf_big h]; simp
/-- no zero ahead of other digits -/
theorem dsOf_head (m : Nat) : (dsOf m).getD 0 0 = 48 → (dsOf m).length ≤ 1 := by
  induction m using Nat.strongRecOn with
  | _ m ih =>
    by_cases h : m < 10
    · rw [dsOf_small h]; intro _; simp
    · intro h0
      exfalso
      rw [dsOf_big h] at h0
      have hp := dsOf_pos (m / 10)
      have h1 : (dsOf (m / 10)).getD 0 0 = 48 := by
        rw [← h0]; simp [hp]
      have h2 := ih (m / 10) (by omega) h1
      have h3 : m / 10 < 10 := by
        rcases Nat.lt_or_ge (m / 10) 10 with h4 | h4
        · exact h4
        · have h5 := dsOf_big (m := m / 10) (by omega)
          have := dsOf_pos (m / 10 / 10)
          rw [h5, List.length_append] at h2
          simp only [List.length_cons, List.length_nil] at h2
          omega
      rw [dsOf_small h3] at h1
      simp at h1
      omega
theorem dsOf_len (m : Nat) (hm : m ≤ 9223372036854775808) : (dsOf m).length ≤ 19 := by
  have key : ∀ k m, m < 10 ^ (k + 1) → (dsOf m).length ≤ k + 1 := by
    intro k
    induction k with
    | zero => intro m h; rw [dsOf_small (by simpa using h)]; simp
    | succ k ih =>
      intro m h
      by_cases h1 : m < 10
      · rw [dsOf_small h1]; simp
      · rw [dsOf_big h1]
        have := ih (m / 10) (by rw [Nat.pow_succ] at h; omega)
        simp
        omega
  exact key 18 m (by have : (10 : Nat) ^ (18 + 1) = 10000000000000000000 := by decide
                     omega)
theorem val_take (l : List Int) (h : Dig l) (k : Nat) (hk : k < l.length) : val (l.take (k + 1)) = val (l.take k) * 10 + (l.getD k 0 - 48) := by
  rw [← val_snoc]
  congr 1
  rw [List.take_add_one]
  simp [hk]
theorem dig_at {l : List Int} (h : Dig l) (k : Nat) (hk : k < l.length) : 48 ≤ l.getD k 0 ∧ l.getD k 0 ≤ 57 := by
  refine h _ ?_
  simp [hk]
theorem val_nonneg (l : List Int) (h : Dig l) : ∀ k, k ≤ l.length → 0 ≤ val (l.take k) := by
  intro k
  induction k with
  | zero => intro _; simp [val]
  | succ k ih => intro hk; rw [val_take l h k (by omega)]; have := ih (by omega); have := dig_at h k (by omega); omega
theorem val_le (l : List Int) (h : Dig l) : ∀ j k, k + j = l.length → val (l.take k) ≤ val l := by
  intro j
  induction j with
  | zero => intro k hk; rw [List.take_of_length_le (by omega)]; exact Int.le_refl _
  | succ j ih =>
    intro k hk
    have h1 := ih (k + 1) (by omega)
    rw [val_take l h k (by omega)] at h1
    have h2 := val_nonneg l h k (by omega)
    have := dig_at h k (by omega)
    omega

set_option maxRecDepth 100000 in
set_option maxHeartbeats 2000000 in
theorem parse_any (w : World) (a : Option Addr) (n c : Nat) (i : Int) (h0 : -9223372036854775808 ≤ i) (h1 : i ≤ 9223372036854775807) (hl : (Lib.itoa i).length = n) (hf : ByAt w a (nums (Lib.itoa i))) :
    Calls Tryd.prog 14 #[.slice a n c] w fun e w' => e = .returned (.tuple #[.int .i64 i, .bool true]) ∧ w' = w := by
  have hm : i.natAbs ≤ 9223372036854775808 := by omega
  have hz : nums (Lib.itoa i) = sgn i ++ dsOf i.natAbs := itoa_sgn i
  have hp := dsOf_pos i.natAbs
  have hln := dsOf_len i.natAbs hm
  have hn : (sgn i).length + (dsOf i.natAbs).length = n := by rw [← hl, ← nums_length, hz, List.length_append]
  have hs1 : (sgn i).length ≤ 1 := by unfold sgn; split <;> simp
  rw [hz] at hf
  obtain ⟨b, off, rfl, hc⟩ := hf (by rw [List.length_append]; omega)
  have hd : ∀ k, k < (dsOf i.natAbs).length → w.cell? ⟨b, off + ((sgn i).length + k), none⟩ = some (.int .u8 ((dsOf i.natAbs).getD k 0)) := by
    intro k hk
    rw [hc ((sgn i).length + k) (by rw [List.length_append]; omega)]
    simp [List.getElem?_append_right]
  have hneg : i < 0 → w.cell? ⟨b, off, none⟩ = some (.int .u8 45) := by
    intro hi
    have h2 := hc 0 (by rw [List.length_append]; omega)
    have e : sgn i = [45] := by simp [sgn, hi]
    rw [e] at h2
    simpa using h2
  have HV := Lib.hid (dsOf_val i.natAbs)
  have HD := Lib.hid (dsOf_dig i.natAbs)
  have HH := Lib.hid (dsOf_head i.natAbs)
  have HC := Lib.hid hd
  have HG := Lib.hid hneg
  generalize hds : dsOf i.natAbs = ds at *
  obtain ⟨s, hs⟩ : ∃ s, s = (sgn i).length := ⟨_, rfl⟩
  rw [← hs] at hn hs1
  have HS := Lib.hid hs
  obtain ⟨dl, hdl⟩ : ∃ dl, dl = ds.length := ⟨_, rfl⟩
  rw [← hdl] at hn hp hln
  have HDL := Lib.hid hdl
  subst hn
  clear hz hf hc hd hneg hl hs hdl hds hm
  obtain ⟨z0, c0, hz0⟩ : ∃ z0 : Int, w.cell? ⟨b, off, none⟩ = some (.int .u8 z0) ∧ (z0 == 45) = decide (i < 0) := by
    by_cases hi : i < 0
    · exact ⟨45, HG.out hi, by simp [hi]⟩
    · have hs0 : s = 0 := by rw [HS.out]; simp [sgn, hi]
      have c0 := HC.out 0 (by rw [← HDL.out]; omega)
      rw [← HS.out, hs0] at c0
      have hdg := dig_at HD.out 0 (by rw [← HDL.out]; omega)
      refine ⟨ds.getD 0 0, by simpa using c0, ?_⟩
      have : (ds.getD 0 0 == 45) = false := by
        generalize ds.getD 0 0 = d at *
        simp; omega
      rw [this]; simp [hi]
  have HZ := Lib.hid hz0
  clear hz0 HG
  go_enter Tryd.func14, Tryd.ntmps14
  go_upto_if 14 with fail
  go_cut [4, 5] (fun t4 t5 wx => t4 = .bool (decide (i < 0)) ∧ t5 = .int .i64 s ∧ wx = w)
  case first =>
    by_cases hi : i < 0
    · have HR : Hid (decide (i < 0) = true ∧ s = 1) := ⟨by simp [hi], by rw [HS.out]; simp [sgn, hi]⟩
      have hz1 : (z0 == 45) = true := by rw [HZ.out]; simp [hi]
      go_wp2_with fail
      go_meet
      rw [HR.out.1, HR.out.2]
      exact ⟨rfl, rfl, rfl⟩
    · have HR : Hid (decide (i < 0) = false ∧ s = 0) := ⟨by simp [hi], by rw [HS.out]; simp [sgn, hi]⟩
      have hz1 : (z0 == 45) = false := by rw [HZ.out]; simp [hi]
      go_wp2_with fail
      go_meet
      rw [HR.out.1, HR.out.2]
      exact ⟨rfl, rfl, rfl⟩
  case rest =>
    obtain ⟨rfl, rfl, hw⟩ := hcut
    obtain rfl := hw.symm
    go_upto_region 10 with fail
    go_cut [37] (fun t wx => t = .bool false ∧ wx = w)
    case first =>
      have c1 := HC.out 0 (by rw [← HDL.out]; omega)
      rw [← HS.out, Nat.add_zero] at c1
      have hh := HH.out
      rw [← HDL.out] at hh
      generalize ds.getD 0 0 = d0 at *
      by_cases hd0 : d0 = 48
      · have hb1 : (d0 == 48) = true := by simp [hd0]
        have hdl1 : dl = 1 := by have := hh hd0; omega
        subst hdl1
        clear hh hd0
        go_wp2_with fail
        go_meet
        exact ⟨by simp; omega, rfl⟩
      · have hb1 : (d0 == 48) = false := by simp [hd0]
        clear hh hd0
        go_wp2_with fail
        go_meet
        exact ⟨rfl, rfl⟩
    case rest =>
      obtain ⟨rfl, hw⟩ := hcut
      obtain rfl := hw.symm
      go_wp2_with fail
      go_loopg [5, 6, 7] dl (fun gg t5 t6 t7 wr => ∃ (k : Nat) (Mg : Int), k ≤ dl ∧ gg = dl - k ∧ t5 = .int .i64 (s + k : Nat) ∧ Hid (Mg = val (ds.take k)) ∧ t6 = .int .u64 Mg ∧ wr = w)
      case atStart => exact ⟨0, 0, Nat.zero_le _, rfl, rfl, rfl, rfl, rfl⟩
      case round =>
        obtain ⟨k, Mg, hk, hg, rfl, HM, rfl, hw⟩ := hrel
        obtain rfl := hw.symm
        by_cases hlt : k < dl
        · have hkl : k < ds.length := by rw [← HDL.out]; exact hlt
          have c1 := HC.out k hkl
          rw [← HS.out] at c1
          have hdg := dig_at HD.out k hkl
          have hnext := val_take ds HD.out k hkl
          have hle := val_le ds HD.out (ds.length - (k + 1)) (k + 1) (by omega)
          have hge := val_nonneg ds HD.out k (by omega)
          rw [HV.out, hnext] at hle
          rw [← HM.out] at hnext hle hge
          have HNX := Lib.hid hnext
          generalize ds.getD k 0 = d at *
          have hm10 : Mg * 10 + (d - 48) ≤ 9223372036854775808 := by omega
          have hbd1 : decide (d < 48) = false := by simp; omega
          have hbd2 : decide (57 < d) = false := by simp; omega
          clear hnext hle hkl
          go_wp2_with fail
          go_roundg (dl - (k + 1))
          case measure => omega
          case rel => exact ⟨k + 1, Mg * 10 + (d - 48), by omega, rfl, by go_num, Lib.hid HNX.out.symm, by go_num, rfl⟩
        · obtain rfl : k = dl := by omega
          have hMv : Mg = (i.natAbs : Int) := by rw [HM.out, HDL.out, List.take_of_length_le (Nat.le_refl _), HV.out]
          have HMV := Lib.hid hMv
          by_cases hi : i < 0
          · have hd : decide (i < 0) = true := by simp [hi]
            have hM1 : 1 ≤ Mg := by omega
            have hM2 : Mg ≤ 9223372036854775808 := by omega
            have hb1 : (Mg == 0) = false := by simp; omega
            have hb2 : decide (9223372036854775808 < Mg) = false := by simp; omega
            have HI : Hid (i = -(Mg - 1) - 1) := by show _ = _; omega
            clear hMv
            go_wp2_with fail
            go_ret2
            rw [HI.out]
            exact ⟨rfl, rfl⟩
          · have hd : decide (i < 0) = false := by simp [hi]
            have hM1 : 0 ≤ Mg := by omega
            have hM2 : Mg ≤ 9223372036854775807 := by omega
            have hb2 : decide (9223372036854775807 < Mg) = false := by simp; omega
            have HI : Hid (i = Mg) := by show _ = _; omega
            clear hMv
            go_wp2_with fail
            go_ret2
            rw [HI.out]
            exact ⟨rfl, rfl⟩
end Go.Proofs.Qxb6603301aDoor
