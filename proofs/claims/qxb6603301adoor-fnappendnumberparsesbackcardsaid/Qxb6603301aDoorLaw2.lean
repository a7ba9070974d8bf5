/-
  THE WALK of FnAppendNumberParsesBack.
-/
import Derived.Test.Qxb6603301aDoorParse
namespace Go.Proofs.Qxb6603301aDoor
open Go.RowKit
set_option linter.unusedVariables false

theorem tab_later2 {w w' : World} (h : Lib.TabIs Tryd.prog w "internal/strconv.uint64pow10" .u64 Lib.pow10Tab) (hb : Below w.heap.size w w') : Lib.TabIs Tryd.prog w' "internal/strconv.uint64pow10" .u64 Lib.pow10Tab :=
  Lib.tabBelow_of_tabIs h w' hb

theorem itoa_pos (i : Int) : 0 < (Lib.itoa i).length := by
  have h : (nums (Lib.itoa i)).length = (Lib.itoa i).length := nums_length _
  rw [← h, itoa_sgn, List.length_append]
  have := dsOf_pos i.natAbs
  unfold dsOf at this
  omega

theorem getD_app (l r : List Int) (m : Nat) : (l ++ r).getD (l.length + m) 0 = r.getD m 0 := by simp [List.getElem?_append_right]
theorem getD_left (l r : List Int) (j : Nat) (hj : j < l.length) : (l ++ r).getD j 0 = l.getD j 0 := by simp [List.getElem?_append_left hj]
theorem line_t (zs : List Int) (t i : Int) : (zs ++ lineOf t i).getD zs.length 0 = t := by
  have := getD_app zs (lineOf t i) 0
  rw [Nat.add_zero] at this
  rw [this]; rfl
theorem line_end (zs : List Int) (t i : Int) (m : Nat) : (zs ++ lineOf t i).getD (zs.length + ((Lib.itoa i).length + (m + 1))) 0 = [13, 10].getD m 0 := by
  rw [getD_app, show (Lib.itoa i).length + (m + 1) = ((nums (Lib.itoa i)).length + m) + 1 by rw [nums_length]; omega]
  exact getD_app (nums (Lib.itoa i)) [13, 10] m
theorem line_num (zs : List Int) (t i : Int) (j : Nat) (hj : j < (nums (Lib.itoa i)).length) : (zs ++ lineOf t i).getD (zs.length + (j + 1)) 0 = (nums (Lib.itoa i)).getD j 0 := by
  rw [getD_app]
  show (nums (Lib.itoa i) ++ [13, 10]).getD j 0 = _
  simp [List.getElem?_append_left hj]

set_option maxRecDepth 100000 in
set_option maxHeartbeats 2000000 in
theorem law2 (w : World) (a : Option Addr) (n c : Nat) (zs : List Int) (t i : Int) (ha : a = none → n = 0 ∧ c = 0) (hl : zs.length = n) (hn : n ≤ 9223372036854775807) (hf : ByAt w a zs) (h0 : -9223372036854775808 ≤ i) (h1 : i ≤ 9223372036854775807)
    (htab : Lib.TabIs Tryd.prog w "internal/strconv.uint64pow10" .u64 Lib.pow10Tab) :
    Calls Tryd.prog 4 #[.slice a n c, .int .u8 t, .int .i64 i] w fun e w' => e = .returned (.bool true) ∧ Below w.heap.size w w' := by
  have HF := Lib.hid hf
  have HL := Lib.hid hl
  have HT := Lib.hid htab
  have hlen := Lib.itoa_length_le i h0 h1
  have hlp := itoa_pos i
  have HLL := Lib.hid (lineOf_length t i)
  clear hf hl htab
  go_enter Tryd.func4, Tryd.ntmps4
  go_wp2_with fail
  refine (bound13 w a n c t i hn).mono ?_
  rintro e w1 ⟨rfl, hb1⟩
  by_cases hs : n ≤ 1048576
  case neg =>
    have hd : decide (n ≤ 1048576) = false := by simp [hs]
    go_wp2_with fail
    go_ret
    exact ⟨rfl, hb1⟩
  have hd : decide (n ≤ 1048576) = true := by simp [hs]
  go_wp2_with fail
  refine (cloneBytes_any zs a n c w1 ha HL.out hs (HF.out.later hb1)).mono ?_
  rintro e w2 ⟨a2, rfl, ha2, hf2, hb2⟩
  have HB2 := Lib.hid (below_step hb1 (Nat.le_refl _) hb2)
  have HF2 := Lib.hid hf2
  clear hb1 hb2 hf2 ha hn hd
  go_wp2_with fail
  refine (cloneBytes_any zs a2 n n w2 (fun h => ⟨ha2 h, ha2 h⟩) HL.out hs HF2.out).mono ?_
  rintro e w3 ⟨a3, rfl, ha3, hf3, hb3⟩
  have HB3 := Lib.hid (below_step HB2.out (Nat.le_refl _) hb3)
  have HF23 := Lib.hid (HF2.out.later hb3)
  have HF3 := Lib.hid hf3
  clear hb3 hf3 HB2 HF2
  go_wp2_with fail
  refine (zzAppend_any w3 a2 n zs t i HL.out ha2 hs h0 h1 HF23.out (tab_later2 HT.out HB3.out)).mono ?_
  rintro e w4 ⟨v4, rfl, hown4, hb4⟩
  obtain ⟨hl4, a4, c4, rfl, hc4, hm4, hg4, hf4⟩ := ByAt.of_owns hown4
  rw [lineOf_length] at hc4 hg4
  obtain ⟨g, rfl, _, _⟩ := hg4 (by omega)
  have hcell : ∀ j, j < n + ((Lib.itoa i).length + 3) → w4.cell? ⟨g, j, none⟩ = some (.int .u8 ((zs ++ lineOf t i).getD j 0)) := by
    intro j hj
    obtain ⟨b, off, e, hc⟩ := hf4 (by rw [hl4, HLL.out]; omega)
    cases e
    have := hc j (by rw [hl4, HLL.out]; exact hj)
    rwa [Nat.zero_add] at this
  have HB4 := Lib.hid (below_step HB3.out (Nat.le_refl _) hb4)
  have HF34 := Lib.hid (HF3.out.later hb4)
  obtain ⟨K, hK⟩ : ∃ K, K = (Lib.itoa i).length := ⟨_, rfl⟩
  -- the three bytes that are looked at
  have q0 : w4.cell? ⟨g, n, none⟩ = some (.int .u8 t) := by
    rw [hcell n (by omega), ← HL.out, line_t]
  have q1 : w4.cell? ⟨g, n + (K + 1), none⟩ = some (.int .u8 13) := by
    rw [hcell (n + (K + 1)) (by omega), ← HL.out, hK, line_end zs t i 0]; rfl
  have q2 : w4.cell? ⟨g, n + (K + 2), none⟩ = some (.int .u8 10) := by
    rw [hcell (n + (K + 2)) (by omega), ← HL.out, hK, line_end zs t i 1]; rfl
  have HA : Hid (ByAt w4 (some ⟨g, 0, none⟩) zs) := fun _ => ⟨g, 0, rfl, fun j hj => by
    rw [Nat.zero_add, hcell j (by have := HL.out; omega), getD_left _ _ j hj]⟩
  have HP : Hid (ByAt w4 (some ⟨g, n + 1, none⟩) (nums (Lib.itoa i))) := fun _ => ⟨g, n + 1, rfl, fun j hj => by
    have hj' := hj
    rw [nums_length] at hj'
    rw [hcell (n + 1 + j) (by omega), ← HL.out]
    have e : zs.length + 1 + j = zs.length + (j + 1) := by omega
    rw [e, line_num zs t i j hj]⟩
  rw [← hK] at hlen hlp hc4
  have HK := Lib.hid hK
  have HLK : Hid ((lineOf t i).length = K + 3) := by show _ = _; rw [lineOf_length, HK.out]
  clear hb4 hown4 hf4 hl4 HB3 HF23 HF3 hcell hg4 hK
  rw [show (lineOf t i).length = K + 3 from HLK.out]
  go_upto_region 10 with fail
  go_wp2_with fail
  refine (sameBytes_true w4 (some ⟨g, 0, none⟩) a3 n _ n zs HL.out (by omega) HA.out HF34.out).mono ?_
  rintro e w5 ⟨rfl, hb5⟩
  have HB5 := Lib.hid (below_step HB4.out (Nat.le_refl _) hb5)
  have r0 := cellLater hb5 q0
  have r1 := cellLater hb5 q1
  have r2 := cellLater hb5 q2
  have HP5 := Lib.hid (HP.out.later hb5)
  clear q0 q1 q2 hb5 HA HF34 HB4
  go_upto_region 13 with fail
  have hb0 : (t == t) = true := by simp
  go_wp2_with fail
  refine (parse_any w5 (some ⟨g, n + 1, none⟩) K _ i h0 h1 HK.out.symm HP5.out).mono ?_
  rintro e w6 ⟨rfl, hw6⟩
  obtain rfl := hw6.symm
  go_wp2_with fail
  go_ret
  exact ⟨by simp, HB5.out⟩
end Go.Proofs.Qxb6603301aDoor
