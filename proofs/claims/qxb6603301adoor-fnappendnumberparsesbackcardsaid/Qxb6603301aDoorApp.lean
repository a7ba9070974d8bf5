/-
  THE WALK of appendNumber (and of ZZAppendNumber): dst, a byte, the numeral, carriage return, line feed.
-/
import Derived.Test.Qxb6603301aDoorBase
import Derived.Shelf.Strconv.AppendIntPublic10
import Derived.Shelf.Lay
import Derived.Ground.NamesProg
namespace Go.Proofs
open Go.Shelf
shelf_lay LaysM.n176 Nm 176 at Tryd as Tryd.laysAI
end Go.Proofs
namespace Go.Proofs.Qxb6603301aDoor
open Go.Shelf Go.RowKit
set_option linter.unusedVariables false
theorem appendInt (B n : Nat) (i : Int) (h0 : -9223372036854775808 ≤ i) (h1 : i ≤ 9223372036854775807) (sv : Value) (xs : List Value) (w : World) (hown : w.ownsRow B 5 1 sv n xs) (hBw : B ≤ w.heap.size) (hlim : n + 21 ≤ 140737488355328)
    (htab : Lib.TabBelow Tryd.prog B w "internal/strconv.uint64pow10" .u64 Lib.pow10Tab) :
    Calls Tryd.prog 30 #[sv, .int .i64 i, .int .i64 10] w fun e w' => ∃ v', e = .returned v' ∧ w'.ownsRow B 5 1 v' (n + (Lib.itoa i).length) (xs ++ Lib.byteCells (Lib.itoa i)) ∧ RowKit.Below B w w' ∧ Lib.OthersKept 5 none w w' := Any.strconv_AppendInt_10 Tryd.laysAI B n i h0 h1 sv xs w hown hBw hlim htab

theorem ownsRow_base {w : World} {B B' n : Nat} {v : Value} {xs : List Value} (h : w.ownsRow B 5 1 v n xs) (hB : B' ≤ B) : w.ownsRow B' 5 1 v n xs := by
  refine ⟨h.1, ?_⟩
  rcases h.2 with h2 | ⟨g, cap, cur, e, hg, r⟩
  · exact .inl h2
  · exact .inr ⟨g, cap, cur, e, by omega, r⟩

theorem itoa_one (i : Int) (h0 : 0 ≤ i) (h1 : i < 10) : nums (Lib.itoa i) = [48 + i] := by
  obtain ⟨k, rfl⟩ := Int.eq_ofNat_of_zero_le h0
  have hk : k < 10 := by omega
  have e : ∀ k : Fin 10, nums [UInt8.ofNat (48 + k.val)] = [48 + (k.val : Int)] := by decide
  rw [show ((k : Nat) : Int) = (k : Int) from rfl, Lib.itoa_nonneg, Lib.decDigits_one hk]
  exact e ⟨k, hk⟩
theorem itoa_two (i : Int) (h0 : 10 ≤ i) (h1 : i < 100) : nums (Lib.itoa i) = [48 + i / 10, 48 + i % 10] := by
  obtain ⟨k, rfl⟩ := Int.eq_ofNat_of_zero_le (show 0 ≤ i by omega)
  have hk : k < 100 := by omega
  have e : ∀ k : Fin 100, nums [UInt8.ofNat (48 + k.val / 10), UInt8.ofNat (48 + k.val % 10)] = [48 + (k.val : Int) / 10, 48 + (k.val : Int) % 10] := by decide
  rw [show ((k : Nat) : Int) = (k : Int) from rfl, Lib.itoa_nonneg, Lib.decDigits_two (by omega) hk]
  exact e ⟨k, hk⟩

/-- what stands behind dst -/
def lineOf (t i : Int) : List Int := t :: (nums (Lib.itoa i) ++ [13, 10])
theorem lineOf_length (t i : Int) : (lineOf t i).length = (Lib.itoa i).length + 3 := by simp [lineOf, nums]

/-- 'append(dst, ..)' where dst has no room: a new row of the call's own -/
theorem wpList_app (w : World) {ops : Array Oper} {rest : List Oper} {o : Oper} {ac : Act} {Q : Exit → Act → World → Prop}
    (hg : o.guard = none) (s x : Operand) (hop : o.op = Op.call { callee := Callee.builtin Builtin.append, args := #[s, x], argTypes := #[22, 22] })
    (a : Option Addr) (n : Nat) (zs : List Int) (hs : ac.eval s = .slice a n n) (ha : a = none → n = 0) (hl : zs.length = n) (hn : n ≤ 1048576) (hf : ByAt w a zs)
    (ad : Addr) (m : Nat) (news : List Int) (hx : ac.eval x = .slice (some ad) m m) (hm : news.length = m) (hm0 : 0 < m) (hm9 : m ≤ 100) (hc : ∀ j u, (cellsOf news)[j]? = some u → w.cell? (ad.add j) = some u)
    (hK : ∀ v' w', w'.ownsRow w.heap.size 5 1 v' (n + m) (cellsOf (zs ++ news)) → Below w.heap.size w w' → wpList Tryd.prog ops Q rest (ac.put o.dst v') w') :
    wpList Tryd.prog ops Q (o :: rest) ac w := by
  obtain ⟨i0, hi, hz0, hz1, hz2⟩ := info_parts Tryd.info5
  refine wpList_append_grows w hg s x 22 hop 5 i0 (.int .u8 0) 1 1 Tryd.underlying22 hi hz0 hz1 hz2 rfl (by decide) a n n (cellsOf zs) hs (fun h => ⟨ha h, ha h⟩) (by simp [cellsOf, hl]) (fun b hb => hf.cells hb) ad m m (cellsOf news) hx (by simp [cellsOf, hm]) hc (cellsOf_one _) (by omega) (by unfold maxLen; omega) (by omega) ?_
  intro v' w' hown hgrow
  rw [← cellsOf_append] at hown
  exact hK v' w' hown ((Below.refl _ _).grown hgrow (Nat.le_refl _) (by intro k h; cases h))

theorem below_alloc (w : World) (o : Obj) : Below w.heap.size w (w.alloc o) := (Below.refl _ _).alloc (Nat.le_refl _) _

set_option maxHeartbeats 1000000 in
theorem appendNumber_one (w : World) (a : Option Addr) (n : Nat) (zs : List Int) (t i : Int) (hl : zs.length = n) (ha : a = none → n = 0) (hn : n ≤ 1048576) (h0 : 0 ≤ i) (h1 : i < 10) (hf : ByAt w a zs) :
    Calls Tryd.prog 26 #[.slice a n n, .int .u8 t, .int .i64 i] w fun e w' => ∃ v', e = .returned v' ∧ w'.ownsRow w.heap.size 5 1 v' (n + (lineOf t i).length) (cellsOf (zs ++ lineOf t i)) ∧ Below w.heap.size w w' := by
  have HE : Hid (lineOf t i = [t, 48 + i, 13, 10]) := by show _ = _; rw [lineOf, itoa_one i h0 h1]; rfl
  have hd1 : decide ((0 : Int) ≤ i) = true := by simp [h0]
  have hd2 : decide (i < 10) = true := by simp [h1]
  have HF : Hid (ByAt w a zs) := hf
  have HL : Hid (zs.length = n) := hl
  clear hf hl
  go_enter Tryd.func26, Tryd.ntmps26
  go_wp2_with (at_builtin; refine wpList_app _ rfl (.tmp 14) (.tmp 19) rfl a n zs rfl ha HL.out hn (HF.out.later (below_alloc _ _)) ⟨w.heap.size, 0, none⟩ 4 [t, 48 + i, 13, 10] rfl rfl (by decide) (by decide) (by intro j u' hj; match j, hj with | 0, hj => simp [cellsOf] at hj; subst hj; simp [Addr.add] | 1, hj => simp [cellsOf] at hj; subst hj; simp [Addr.add] | 2, hj => simp [cellsOf] at hj; subst hj; simp [Addr.add] | 3, hj => simp [cellsOf] at hj; subst hj; simp [Addr.add]) ?_; intro v2 w2 hown hb)
  go_ret
  rw [HE.out]
  exact ⟨_, rfl, ownsRow_base hown (by simp), (below_alloc _ _).trans (hb.mono (by simp))⟩

set_option maxHeartbeats 1000000 in
theorem appendNumber_two (w : World) (a : Option Addr) (n : Nat) (zs : List Int) (t i : Int) (hl : zs.length = n) (ha : a = none → n = 0) (hn : n ≤ 1048576) (h0 : 10 ≤ i) (h1 : i < 100) (hf : ByAt w a zs) :
    Calls Tryd.prog 26 #[.slice a n n, .int .u8 t, .int .i64 i] w fun e w' => ∃ v', e = .returned v' ∧ w'.ownsRow w.heap.size 5 1 v' (n + (lineOf t i).length) (cellsOf (zs ++ lineOf t i)) ∧ Below w.heap.size w w' := by
  have HE : Hid (lineOf t i = [t, 48 + i / 10, 48 + i % 10, 13, 10]) := by show _ = _; rw [lineOf, itoa_two i h0 h1]; rfl
  have hd1 : decide ((0 : Int) ≤ i) = true := by simp; omega
  have hd2 : decide (i < 10) = false := by simp; omega
  have hd3 : decide ((10 : Int) ≤ i) = true := by simp [h0]
  have hd4 : decide (i < 100) = true := by simp [h1]
  have HF : Hid (ByAt w a zs) := hf
  have HL : Hid (zs.length = n) := hl
  clear hf hl
  go_enter Tryd.func26, Tryd.ntmps26
  go_wp2_with (at_builtin; refine wpList_app _ rfl (.tmp 28) (.tmp 38) rfl a n zs rfl ha HL.out hn (HF.out.later (below_alloc _ _)) ⟨w.heap.size, 0, none⟩ 5 [t, 48 + i / 10, 48 + i % 10, 13, 10] rfl rfl (by decide) (by decide) (by intro j u' hj; match j, hj with | 0, hj => simp [cellsOf] at hj; subst hj; simp [Addr.add] | 1, hj => simp [cellsOf] at hj; subst hj; simp [Addr.add] | 2, hj => simp [cellsOf] at hj; subst hj; simp [Addr.add] | 3, hj => simp [cellsOf] at hj; subst hj; simp [Addr.add] | 4, hj => simp [cellsOf] at hj; subst hj; simp [Addr.add]) ?_; intro v2 w2 hown hb)
  go_ret
  rw [HE.out]
  exact ⟨_, rfl, ownsRow_base hown (by simp), (below_alloc _ _).trans (hb.mono (by simp))⟩

set_option maxHeartbeats 1000000 in
theorem appendNumber_long (w : World) (a : Option Addr) (n : Nat) (zs : List Int) (t i : Int) (hl : zs.length = n) (ha : a = none → n = 0) (hn : n ≤ 1048576) (h0 : -9223372036854775808 ≤ i) (h1 : i ≤ 9223372036854775807) (hi : i < 0 ∨ 100 ≤ i) (hf : ByAt w a zs)
    (htab : Lib.TabIs Tryd.prog w "internal/strconv.uint64pow10" .u64 Lib.pow10Tab) :
    Calls Tryd.prog 26 #[.slice a n n, .int .u8 t, .int .i64 i] w fun e w' => ∃ v', e = .returned v' ∧ w'.ownsRow w.heap.size 5 1 v' (n + (lineOf t i).length) (cellsOf (zs ++ lineOf t i)) ∧ Below w.heap.size w w' := by
  have hlen := Lib.itoa_length_le i h0 h1
  have HT : Hid (Lib.TabBelow Tryd.prog w.heap.size w "internal/strconv.uint64pow10" .u64 Lib.pow10Tab) := Lib.tabBelow_of_tabIs htab
  obtain ⟨i0, hi0, hz0, hz1, hz2⟩ := info_parts Tryd.info5
  have HF : Hid (ByAt w a zs) := hf
  have HL : Hid (zs.length = n) := hl
  clear hf hl htab
  have HN : Hid (n + 1 + (Lib.itoa i).length + 2 = n + (lineOf t i).length) := by show _ = _; rw [lineOf_length]; omega
  have HE : Hid (cellsOf (zs ++ [t]) ++ Lib.byteCells (Lib.itoa i) ++ Lib.strCells ⟨#[13, 10]⟩ = cellsOf (zs ++ lineOf t i)) := by
    show _ = _
    rw [byteCells_nums, show Lib.strCells ⟨#[13, 10]⟩ = cellsOf [13, 10] from rfl, ← cellsOf_append, ← cellsOf_append]
    simp [lineOf]
  go_enter Tryd.func26, Tryd.ntmps26
  go_upto_region 6 with (at_builtin; refine wpList_app _ rfl (.tmp 40) (.tmp 42) rfl a n zs rfl ha HL.out hn (HF.out.later (below_alloc _ _)) ⟨w.heap.size, 0, none⟩ 1 [t] rfl rfl (by decide) (by decide) (by intro j u' hj; match j, hj with | 0, hj => simp [cellsOf] at hj; subst hj; simp [Addr.add]) ?_; intro v2 w2 hown hb)
  all_goals
    have hown1 := ownsRow_base hown (show w.heap.size ≤ _ by simp)
    have hb1 : Below w.heap.size w w2 := (below_alloc _ _).trans (hb.mono (by simp))
    have hT := HT.out.on hb1
    have hs1 := hb1.size
    clear hown hb
    go_upto_region 7 with (go_at_call 30; refine (appendInt w.heap.size (n + 1) i h0 h1 v2 _ w2 hown1 (by omega) (by omega) hT).mono ?_; rintro e w3 ⟨v3, rfl, hown3, hb3, -⟩)
    have hb13 := hb1.trans hb3
    have hs3 := hb13.size
    clear hT hown1 hb1 hb3
    go_wp2_with (at_builtin; refine Lib.wpList_append_own_string _ rfl (.tmp 47) _ 22 9 rfl w.heap.size 5 i0 Tryd.underlying22 Tryd.underlying9 hi0 hz0 hz1 hz2 v3 _ _ rfl hown3 ⟨#[13, 10]⟩ rfl (by unfold maxLen; show n + 1 + (Lib.itoa i).length + 2 ≤ _; omega) (by show n + 1 + (Lib.itoa i).length + 2 ≤ _; omega) (by omega) ?_; intro v4 w4 hown4 hgrow hnil)
    have hb4 : Below w.heap.size w w4 := hb13.grown hgrow (by omega) (fun k hk => (hown3.lt k hk).1)
    replace hown4 : w4.ownsRow w.heap.size 5 1 v4 (n + 1 + (Lib.itoa i).length + 2) (cellsOf (zs ++ [t]) ++ Lib.byteCells (Lib.itoa i) ++ Lib.strCells ⟨#[13, 10]⟩) := hown4
    rw [HN.out, HE.out] at hown4
    go_ret
    exact ⟨_, rfl, hown4, hb4⟩

theorem appendNumber_any (w : World) (a : Option Addr) (n : Nat) (zs : List Int) (t i : Int) (hl : zs.length = n) (ha : a = none → n = 0) (hn : n ≤ 1048576) (h0 : -9223372036854775808 ≤ i) (h1 : i ≤ 9223372036854775807) (hf : ByAt w a zs)
    (htab : Lib.TabIs Tryd.prog w "internal/strconv.uint64pow10" .u64 Lib.pow10Tab) :
    Calls Tryd.prog 26 #[.slice a n n, .int .u8 t, .int .i64 i] w fun e w' => ∃ v', e = .returned v' ∧ w'.ownsRow w.heap.size 5 1 v' (n + (lineOf t i).length) (cellsOf (zs ++ lineOf t i)) ∧ Below w.heap.size w w' := by
  by_cases h : i < 0 ∨ 100 ≤ i
  · exact appendNumber_long w a n zs t i hl ha hn h0 h1 h hf htab
  · by_cases h10 : i < 10
    · exact appendNumber_one w a n zs t i hl ha hn (by omega) h10 hf
    · exact appendNumber_two w a n zs t i hl ha hn (by omega) (by omega) hf

/-- ZZAppendNumber -/
theorem zzAppend_any (w : World) (a : Option Addr) (n : Nat) (zs : List Int) (t i : Int) (hl : zs.length = n) (ha : a = none → n = 0) (hn : n ≤ 1048576) (h0 : -9223372036854775808 ≤ i) (h1 : i ≤ 9223372036854775807) (hf : ByAt w a zs)
    (htab : Lib.TabIs Tryd.prog w "internal/strconv.uint64pow10" .u64 Lib.pow10Tab) :
    Calls Tryd.prog 10 #[.slice a n n, .int .u8 t, .int .i64 i] w fun e w' => ∃ v', e = .returned v' ∧ w'.ownsRow w.heap.size 5 1 v' (n + (lineOf t i).length) (cellsOf (zs ++ lineOf t i)) ∧ Below w.heap.size w w' := by
  have HC := Lib.hid (appendNumber_any w a n zs t i hl ha hn h0 h1 hf htab)
  clear hf htab hl
  go_enter Tryd.func10, Tryd.ntmps10
  go_wp2_with fail
  refine HC.out.mono ?_
  rintro e w1 ⟨v1, rfl, hown, hb⟩
  have HO := Lib.hid hown
  clear hown
  go_wp2_with fail
  go_ret
  exact ⟨_, rfl, HO.out, hb⟩
end Go.Proofs.Qxb6603301aDoor
