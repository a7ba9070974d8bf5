/-
  THE WALK of FnAppendNumberMatchesDecimal.
-/
import Derived.Test.Qxb6603301aDoorDec
import Derived.Laws.AppendOwnNone
namespace Go.Proofs.Qxb6603301aDoor
open Go.RowKit
set_option linter.unusedVariables false

theorem own_later {w w' : World} {B n : Nat} {v : Value} {xs : List Value} (h : w.ownsRow B 5 1 v n xs) (hb : Below w.heap.size w w') : w'.ownsRow B 5 1 v n xs :=
  h.kept (row := none) ⟨hb.os, hb.tape, hb.output, hb.size, fun k hk _ => hb.block k hk⟩ (by cases hv : v.ownBlock <;> simp)

/-- 'append(v, ys...)' where v is the call's own -/
theorem wpList_own (w : World) {ops : Array Oper} {rest : List Oper} {o : Oper} {ac : Act} {Q : Exit → Act → World → Prop}
    (hg : o.guard = none) (s x : Operand) (hop : o.op = Op.call { callee := Callee.builtin Builtin.append, args := #[s, x], argTypes := #[22, 22] })
    (B : Nat) (v : Value) (n : Nat) (xs : List Int) (hs : ac.eval s = v) (hown : w.ownsRow B 5 1 v n (cellsOf xs)) (hB : B ≤ w.heap.size)
    (a : Option Addr) (m c : Nat) (ys : List Int) (hx : ac.eval x = .slice a m c) (ha : a = none → m = 0 ∧ c = 0) (hl : ys.length = m) (hf : ByAt w a ys) (hnm : n + m ≤ 2000000)
    (hK : ∀ v' w', w'.ownsRow B 5 1 v' (n + m) (cellsOf (xs ++ ys)) → Below B w w' → wpList Tryd.prog ops Q rest (ac.put o.dst v') w') :
    wpList Tryd.prog ops Q (o :: rest) ac w := by
  obtain ⟨i0, hi, hz0, hz1, hz2⟩ := info_parts Tryd.info5
  cases a with
  | none =>
    obtain ⟨rfl, rfl⟩ := ha rfl
    obtain rfl : ys = [] := List.eq_nil_of_length_eq_zero hl
    refine wpList_append_own_none hg s x 22 hop B 5 i0 1 Tryd.underlying22 hi v n (cellsOf xs) hs hown hx (hK v w ?_ (Below.refl _ _))
    simpa using hown
  | some ad =>
    refine wpList_append_own w hg s x 22 hop B 5 i0 (.int .u8 0) 1 1 Tryd.underlying22 hi hz0 hz1 hz2 rfl (by decide) v n (cellsOf xs) hs hown ad m c (cellsOf ys) hx (by simp [cellsOf, hl]) (hf.cells rfl) (cellsOf_one _) (by unfold maxLen; omega) (by omega) hB ?_
    intro v' w' h1 h2 _
    rw [← cellsOf_append] at h1
    exact hK v' w' h1 ((Below.refl _ _).grown h2 hB (fun k hk => (hown.lt k hk).1))

theorem tab_later {w w' : World} (h : Lib.TabIs Tryd.prog w "internal/strconv.uint64pow10" .u64 Lib.pow10Tab) (hb : Below w.heap.size w w') : Lib.TabIs Tryd.prog w' "internal/strconv.uint64pow10" .u64 Lib.pow10Tab :=
  Lib.tabBelow_of_tabIs h w' hb

set_option maxRecDepth 100000 in
set_option maxHeartbeats 2000000 in
theorem law1 (w : World) (a : Option Addr) (n c : Nat) (zs : List Int) (t i : Int) (ha : a = none → n = 0 ∧ c = 0) (hl : zs.length = n) (hn : n ≤ 9223372036854775807) (hf : ByAt w a zs) (h0 : -9223372036854775808 ≤ i) (h1 : i ≤ 9223372036854775807)
    (htab : Lib.TabIs Tryd.prog w "internal/strconv.uint64pow10" .u64 Lib.pow10Tab) :
    Calls Tryd.prog 3 #[.slice a n c, .int .u8 t, .int .i64 i] w fun e w' => e = .returned (.bool true) ∧ Below w.heap.size w w' := by
  obtain ⟨i0, hi0, hz0, hz1, hz2⟩ := info_parts Tryd.info5
  have HF := Lib.hid hf
  have HL := Lib.hid hl
  have HT := Lib.hid htab
  have hlen := Lib.itoa_length_le i h0 h1
  have HLL := Lib.hid (lineOf_length t i)
  clear hf hl htab
  go_enter Tryd.func3, Tryd.ntmps3
  go_wp2_with fail
  refine (bound8 w a n c t i hn).mono ?_
  rintro e w1 ⟨rfl, hb1⟩
  by_cases hs : n ≤ 1048576
  case neg =>
    have hd : decide (n ≤ 1048576) = false := by simp [hs]
    go_wp2_with fail
    go_ret
    exact ⟨rfl, hb1⟩
  have hd : decide (n ≤ 1048576) = true := by simp [hs]
  go_wp2_with fail
  refine (cloneBytes_any zs a n c w1 ha HL.out hs (HF.out.later hb1)).mono ?_
  rintro e w2 ⟨a2, rfl, ha2, hf2, hb2⟩
  have HB2 := Lib.hid (below_step hb1 (Nat.le_refl _) hb2)
  have HF2 := Lib.hid hf2
  clear hb1 hb2 hf2 ha hn hd
  go_wp2_with fail
  refine (cloneBytes_any zs a2 n n w2 (fun h => ⟨ha2 h, ha2 h⟩) HL.out hs HF2.out).mono ?_
  rintro e w3 ⟨a3, rfl, ha3, hf3, hb3⟩
  have HB3 := Lib.hid (below_step HB2.out (Nat.le_refl _) hb3)
  have HF23 := Lib.hid (HF2.out.later hb3)
  have HF3 := Lib.hid hf3
  clear hb3 hf3 HB2 HF2
  go_wp2_with fail
  refine (zzAppend_any w3 a2 n zs t i HL.out ha2 hs h0 h1 HF23.out (tab_later HT.out HB3.out)).mono ?_
  rintro e w4 ⟨v4, rfl, hown4, hb4⟩
  obtain ⟨hl4, a4, c4, rfl, hc4, hm4, _, hf4⟩ := ByAt.of_owns hown4
  have HB4 := Lib.hid (below_step HB3.out (Nat.le_refl _) hb4)
  have HF24 := Lib.hid (HF23.out.later hb4)
  have HF34 := Lib.hid (HF3.out.later hb4)
  have HF4 := Lib.hid hf4
  have HL4 := Lib.hid hl4
  clear hb4 hown4 hf4 hl4 HB3 HF23 HF3
  go_upto_region 9 with (at_make; refine wpList_make_own _ rfl _ _ 22 rfl w4.heap.size 5 i0 (.int .u8 0) 1 Tryd.underlying22 hi0 hz0 hz1 .i64 .i64 _ (n + 24) rfl rfl (by go_num) (by rw [hz2]; omega) (by unfold maxLen; omega) (Nat.le_refl _) ?_; intro w5 hown5 hgrow5)
  have hb5 : Below w4.heap.size w4 w5 := (Below.refl _ _).grown hgrow5 (Nat.le_refl _) (by intro k h; cases h)
  have HO5 : Hid (w5.ownsRow w4.heap.size 5 1 (.slice (some ⟨w4.heap.size, 0, none⟩) 0 (n + 24)) 0 (cellsOf [])) := hown5
  have hs5 := hb5.size
  clear hown5 hgrow5
  go_upto_region 10 with (at_builtin; refine wpList_own _ rfl (.tmp 30) (.tmp 31) rfl w4.heap.size _ 0 [] rfl HO5.out hs5 a3 n n zs rfl (fun h => ⟨ha3 h, ha3 h⟩) HL.out (HF34.out.later hb5) (by omega) ?_; intro v6 w6 hown6 hb6)
  have HO6 := Lib.hid hown6
  have hb46 := hb5.trans hb6
  have hs6 := hb46.size
  clear hown6 hb5 hb6 HO5 hs5
  go_upto_region 11 with (at_builtin; refine wpList_own _ rfl (.tmp 33) (.tmp 35) rfl w4.heap.size _ _ _ rfl (own_later HO6.out (below_alloc _ _)) (by simp; omega) (some ⟨w6.heap.size, 0, none⟩) 1 1 [t] rfl (fun h => by cases h) rfl (fun _ => ⟨_, _, rfl, fun j hj => by match j, hj with | 0, _ => simp⟩) (by omega) ?_; intro v7 w7 hown7 hb7)
  have HO7 := Lib.hid hown7
  have hb47 : Below w4.heap.size w4 w7 := (hb46.alloc (by omega) _).trans hb7
  have hs7 := hb47.size
  clear hown7 hb7 HO6 hb46 hs6
  go_wp2_with fail
  refine (decimal_any w7 i h0 h1).mono ?_
  rintro e w8 ⟨v8, rfl, hown8, hb8⟩
  obtain ⟨hl8, a8, c8, rfl, hc8, hm8, ha8, hf8⟩ := ByAt.of_owns hown8
  have HO78 := Lib.hid (own_later HO7.out hb8)
  have HF8 := Lib.hid hf8
  have HL8 := Lib.hid hl8
  have hb48 : Below w4.heap.size w4 w8 := below_step hb47 (Nat.le_refl _) hb8
  have hs8 := hb48.size
  have hi1 : 0 < (Lib.itoa i).length := by
    have h : (nums (Lib.itoa i)).length = (Lib.itoa i).length := nums_length _
    rw [← h, itoa_sgn, List.length_append, nums_length, Lib.decDigits_length]
    have : 0 < Lib.nDigits i.natAbs := by unfold Lib.nDigits; split <;> omega
    omega
  obtain ⟨g8, rfl, _, _⟩ := ha8 hi1
  clear hown8 hf8 hl8 hb8 HO7 hb47 hs7
  go_upto_region 12 with (at_builtin; refine wpList_own _ rfl (.tmp 37) (.tmp 39) rfl w4.heap.size _ _ _ rfl HO78.out hs8 (some ⟨g8, 0, none⟩) _ c8 (nums (Lib.itoa i)) rfl (fun h => by cases h) HL8.out HF8.out (by omega) ?_; intro v9 w9 hown9 hb9)
  have HO9 := Lib.hid hown9
  have hb49 : Below w4.heap.size w4 w9 := hb48.trans hb9
  have hs9 := hb49.size
  clear hown9 hb9 HO78 HF8 HL8 hb48 hs8 hc8 hm8
  go_upto_region 13 with (at_builtin; refine wpList_own _ rfl (.tmp 41) (.tmp 42) rfl w4.heap.size _ _ _ rfl (own_later HO9.out (below_alloc _ _)) (by simp; omega) (some ⟨w9.heap.size, 0, none⟩) 2 2 [13, 10] rfl (fun h => by cases h) rfl (fun _ => ⟨_, _, rfl, fun j hj => by match j, hj with | 0, _ => simp | 1, _ => simp⟩) (by omega) ?_; intro v10 w10 hown10 hb10)
  have hb410 : Below w4.heap.size w4 w10 := (hb49.alloc (by omega) _).trans hb10
  obtain ⟨hl10, a10, c10, rfl, hc10, hm10, _, hf10⟩ := ByAt.of_owns hown10
  have HN : Hid (0 + n + 1 + (Lib.itoa i).length + 2 = n + (lineOf t i).length) := by show _ = _; rw [HLL.out]; omega
  have HE : Hid ([] ++ zs ++ [t] ++ nums (Lib.itoa i) ++ [13, 10] = zs ++ lineOf t i) := by show _ = _; simp [lineOf]
  rw [HE.out] at hf10
  have HF10 := Lib.hid hf10
  have HB10 := Lib.hid (below_step HB4.out (Nat.le_refl _) hb410)
  have HF4' := Lib.hid (HF4.out.later hb410)
  have HF2' := Lib.hid (HF24.out.later hb410)
  have HF3' := Lib.hid (HF34.out.later hb410)
  clear hown10 hb10 hf10 hl10 hb49 hs9 HO9 hb410 HB4 HF4 HF24 HF34 HE
  rw [show 0 + n + 1 + (Lib.itoa i).length + 2 = n + (lineOf t i).length from HN.out]
  go_wp2_with fail
  refine (sameBytes_true w10 a4 a10 (n + (lineOf t i).length) c4 c10 (zs ++ lineOf t i) HL4.out (by rw [HLL.out]; omega) HF4'.out HF10.out).mono ?_
  rintro e w11 ⟨rfl, hb11⟩
  have HB11 := Lib.hid (below_step HB10.out (Nat.le_refl _) hb11)
  have HF2'' := Lib.hid (HF2'.out.later hb11)
  have HF3'' := Lib.hid (HF3'.out.later hb11)
  clear hb11
  go_wp2_with fail
  refine (sameBytes_true w11 a2 a3 n n n zs HL.out (by omega) HF2''.out HF3''.out).mono ?_
  rintro e w12 ⟨rfl, hb12⟩
  have HB12 := Lib.hid (below_step HB11.out (Nat.le_refl _) hb12)
  clear hb12
  go_wp2_with fail
  go_ret
  exact ⟨rfl, HB12.out⟩
end Go.Proofs.Qxb6603301aDoor
