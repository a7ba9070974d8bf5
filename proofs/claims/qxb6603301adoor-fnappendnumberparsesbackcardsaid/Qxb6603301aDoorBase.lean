/-
  WHAT THE WALKS OF THIS SEAT SHARE: slices of bytes as lists of numbers; the walks of cloneBytes, sameBytes and of the two bounds.
-/
import Derived.Test.Qxb6603301aDoorRows
import Derived.WalkKit
import Derived.WalkSpells
import Derived.WalkLawsBesides
import Derived.ArgAppend
import Derived.Lib.AppendStr
import Derived.Lib.AppendIntMem
import Derived.Lib.ItoaLen
import Derived.Lib.Slices
import Derived.Lib.Hide
import Derived.OwnWalk
import Derived.Deep.DeepCutAuto
import Derived.Deep.CutBlock
import Derived.Deep.LoopGhost
import Derived.BigQuiet
import Derived.Deep.QuietTactic
namespace Go.Proofs.Qxb6603301aDoor
open Go.RowKit
set_option linter.unusedVariables false

theorem below_step {B : Nat} {w w1 w2 : World} (h : Below B w w1) (hB : B ≤ w.heap.size) (h2 : Below w1.heap.size w1 w2) : Below B w w2 :=
  h.trans (h2.mono (Nat.le_trans hB h.size))
theorem cellLater {w w' : World} {a : Addr} {v : Value} (hb : Below w.heap.size w w') (h : w.cell? a = some v) : w'.cell? a = some v :=
  (hb.cell (World.block_lt_of_cell? _ _ h)).trans h
theorem ret_bool {a b : Bool} (h : a = b) : Ending.returned (.bool a) = .returned (.bool b) := by rw [h]
theorem addr_plain (b off j : Nat) : (⟨b, off, none⟩ : Addr).add j = ⟨b, off + j, none⟩ := by unfold Addr.add; split <;> simp_all

/-- a list of numbers, as cells -/
def cellsOf (zs : List Int) : List Value := zs.map (Value.int .u8)
theorem cellsOf_append (a b : List Int) : cellsOf (a ++ b) = cellsOf a ++ cellsOf b := by simp [cellsOf]
theorem cellsOf_length (a : List Int) : (cellsOf a).length = a.length := by simp [cellsOf]
theorem cellsOf_one (zs : List Int) : ∀ u ∈ cellsOf zs, u.oneCell' = true := by
  intro u hu; simp [cellsOf] at hu; obtain ⟨z, _, rfl⟩ := hu; rfl
/-- bytes, as numbers -/
def nums (l : List UInt8) : List Int := l.map fun b => (b.toNat : Int)
theorem byteCells_nums (l : List UInt8) : Lib.byteCells l = cellsOf (nums l) := by simp [Lib.byteCells, cellsOf, nums]
theorem nums_length (l : List UInt8) : (nums l).length = l.length := by simp [nums]

/-- THE SLICE AT a HOLDS THE NUMBERS zs. -/
def ByAt (w : World) (a : Option Addr) (zs : List Int) : Prop :=
  0 < zs.length → ∃ b off, a = some ⟨b, off, none⟩ ∧ ∀ j, j < zs.length → w.cell? ⟨b, off + j, none⟩ = some (.int .u8 (zs.getD j 0))

theorem ByAt.later {w w' : World} {a : Option Addr} {zs : List Int} (h : ByAt w a zs) (hb : Below w.heap.size w w') : ByAt w' a zs := fun h0 => by
  obtain ⟨b, off, e, hc⟩ := h h0
  exact ⟨b, off, e, fun j hj => cellLater hb (hc j hj)⟩

theorem ByAt.cells {w : World} {a : Option Addr} {zs : List Int} (h : ByAt w a zs) {x : Addr} (hx : a = some x) : ∀ j u, (cellsOf zs)[j]? = some u → w.cell? (x.add j) = some u := by
  intro j u hu
  have hj : j < zs.length := by
    rcases Nat.lt_or_ge j zs.length with h1 | h1
    · exact h1
    · rw [List.getElem?_eq_none (by simpa [cellsOf] using h1)] at hu; cases hu
  obtain ⟨b, off, e, hc⟩ := h (by omega)
  rw [hx] at e; cases e
  rw [addr_plain, hc j hj]
  simp [cellsOf, hj] at hu
  rw [← hu]
  simp [hj]

theorem ByAt.of_owns {w : World} {B n : Nat} {v : Value} {zs : List Int} (h : w.ownsRow B 5 1 v n (cellsOf zs)) : zs.length = n ∧ ∃ a c, v = .slice a n c ∧ n ≤ c ∧ c ≤ maxLen ∧ (0 < n → ∃ g, a = some ⟨g, 0, none⟩ ∧ B ≤ g ∧ g < w.heap.size) ∧ ByAt w a zs := by
  have hl : zs.length = n := by simpa [cellsOf] using h.1
  refine ⟨hl, ?_⟩
  rcases h.2 with ⟨rfl, rfl⟩ | ⟨g, cap, cur, rfl, hg, hh, hcap, hm, hs, ht⟩
  · exact ⟨none, 0, rfl, Nat.le_refl _, Nat.zero_le _, fun h => by omega, fun h0 => by omega⟩
  · refine ⟨_, cap, rfl, hcap, hm, fun _ => ⟨g, rfl, hg, by
      rcases Nat.lt_or_ge g w.heap.size with h1 | h1
      · exact h1
      · rw [Array.getElem?_eq_none h1] at hh; cases hh⟩, fun _ => ⟨g, 0, rfl, fun j hj => ?_⟩⟩
    have := h.cells (g := g) rfl j (.int .u8 (zs.getD j 0)) (by simp [cellsOf, hj])
    rwa [addr_plain] at this

theorem Tryd.info5 : (Tryd.prog.info? 5).map (fun i => (i.zero, i.size, i.bytes)) = some (some (.int .u8 0), 1, 1) := by kernel_rfl

/-- the row behind k rounds of cloneBytes -/
def cp (zs : List Int) (k : Nat) : List Value := (List.range zs.length).map fun j => if j < k then .int .u8 (zs.getD j 0) else .int .u8 0
theorem cp_zero (zs : List Int) : cp zs 0 = List.replicate zs.length (.int .u8 0) := by
  apply List.ext_getElem?
  intro j
  simp [cp, List.getElem?_replicate]
  by_cases h : j < zs.length <;> simp [h]
theorem cp_set (zs : List Int) (k : Nat) (h : k < zs.length) : (cp zs k).set k (.int .u8 (zs.getD k 0)) = cp zs (k + 1) := by
  apply List.ext_getElem?
  intro j
  by_cases hj : j < zs.length
  · by_cases hk : k = j
    · subst hk; simp [cp, h]
    · simp [cp, hj, hk]
      by_cases h1 : j < k
      · simp [h1, show j < k + 1 by omega]
      · simp [h1, show ¬ j < k + 1 by omega]
  · have h1 : (cp zs (k + 1))[j]? = none := by simp [cp]; omega
    have h2 : ((cp zs k).set k (.int .u8 (zs.getD k 0)))[j]? = none := by simp [cp]; omega
    rw [h1, h2]
theorem cp_all (zs : List Int) : cp zs zs.length = cellsOf zs := by
  apply List.ext_getElem?
  intro j
  by_cases h : j < zs.length <;> simp [cp, cellsOf, h]

theorem cloneBytes_nil (w : World) : Calls Tryd.prog 9 #[.slice none 0 0] w fun e w' => e = .returned (.slice none 0 0) ∧ Below w.heap.size w w' := by
  have hnil := fun (wx : World) => Lib.run_eql_slice_nil (P := Tryd.prog) wx 22 5 none 0 0 0 0 Tryd.underlying22
  go_enter Tryd.func9, Tryd.ntmps9
  go_wp2
  go_ret
  exact ⟨rfl, Below.refl _ _⟩

set_option maxHeartbeats 400000 in
theorem cloneBytes_some (zs : List Int) (x : Addr) (n c : Nat) (w : World) (hl : zs.length = n) (hn : n ≤ 1048576) (hf : ByAt w (some x) zs) :
    Calls Tryd.prog 9 #[.slice (some x) n c] w fun e w' => e = .returned (.slice (some ⟨w.heap.size, 0, none⟩) n n) ∧
      w'.ownsRow w.heap.size 5 1 (.slice (some ⟨w.heap.size, 0, none⟩) n n) n (cellsOf zs) ∧ Below w.heap.size w w' := by
  obtain ⟨i0, hi, hz0, hz1, hz2⟩ := info_parts Tryd.info5
  have hnil := fun (wx : World) => Lib.run_eql_slice_nil (P := Tryd.prog) wx 22 5 (some x) n c 0 0 Tryd.underlying22
  have HL : Hid (zs.length = n) := hl
  clear hl
  go_enter Tryd.func9, Tryd.ntmps9
  go_wp2_with (at_make; refine wpList_make_full _ rfl (.tmp 8) (.tmp 8) 22 rfl w.heap.size 5 i0 (.int .u8 0) 1 Tryd.underlying22 hi hz0 hz1 .i64 .i64 n n n rfl rfl rfl rfl (by rw [hz2]; omega) (by unfold maxLen; omega) (Nat.le_refl _) ?_; intro w1 hown hgrow)
  have hbel : Below w.heap.size w w1 := (Below.refl _ _).grown hgrow (Nat.le_refl _) (by intro k h; cases h)
  have hown0 : w1.ownsRow w.heap.size 5 1 (.slice (some ⟨w.heap.size, 0, none⟩) n n) n (cp zs 0) := by
    rw [cp_zero, HL.out, ← toList_madeCells_one]; simpa [Value.cells] using hown
  clear hown hgrow
  go_loopw [4] (fun t wr => ∃ k : Nat, k ≤ n ∧ t = .int .i64 k ∧ wr.ownsRow w.heap.size 5 1 (.slice (some ⟨w.heap.size, 0, none⟩) n n) n (cp zs k) ∧ Below w.heap.size w wr) (fun t _ => n - (intOf t).toNat)
  case atStart => exact ⟨0, Nat.zero_le _, rfl, hown0, hbel⟩
  case round =>
    obtain ⟨k, hk, rfl, hown, hbl⟩ := hrel
    by_cases hlt : k < n
    · obtain ⟨b, off, ex, hcs⟩ := hf (by rw [HL.out]; omega)
      obtain rfl : x = ⟨b, off, none⟩ := by simpa using ex
      have hlt' : k < zs.length := by rw [HL.out]; exact hlt
      have hc1 := cellLater hbl (hcs k hlt')
      have hc2 : wr.cell? ⟨w.heap.size, k, none⟩ = some (.int .u8 0) := (hown.cellAt k (by omega)).trans (by simp [cp, hlt'])
      have hfr := hown.frozenAt k
      have hst := hown.stored k (.int .u8 (zs.getD k 0))
      have H1 : Hid ((wr.setCell ⟨w.heap.size, k, none⟩ (.int .u8 (zs.getD k 0))).ownsRow w.heap.size 5 1 (.slice (some ⟨w.heap.size, 0, none⟩) n n) n (cp zs (k + 1))) := by
        rw [← cp_set zs k hlt']; exact hst.1
      have H2 : Hid (Below w.heap.size w (wr.setCell ⟨w.heap.size, k, none⟩ (.int .u8 (zs.getD k 0)))) := hbl.setCell (Nat.le_refl _) _
      clear hst hown hbl hcs hf ex hlt'
      generalize zs.getD k 0 = z at *
      go_wp2
      go_roundw
      case rel => exact ⟨k + 1, by omega, by go_num, H1.out, H2.out⟩
      case measure => simp [intOf]; omega
    · have hkn : k = n := by omega
      subst hkn
      go_wp2
      go_ret
      rw [← HL.out, cp_all] at hown
      rw [HL.out] at hown
      exact ⟨rfl, hown, hbl⟩

/-- 'cloneBytes(b)': the same bytes in memory of the call's own, no room behind them; nil stays nil -/
theorem cloneBytes_any (zs : List Int) (a : Option Addr) (n c : Nat) (w : World) (ha : a = none → n = 0 ∧ c = 0) (hl : zs.length = n) (hn : n ≤ 1048576) (hf : ByAt w a zs) :
    Calls Tryd.prog 9 #[.slice a n c] w fun e w' => ∃ a', e = .returned (.slice a' n n) ∧ (a' = none → n = 0) ∧ ByAt w' a' zs ∧ Below w.heap.size w w' := by
  cases a with
  | none =>
    obtain ⟨rfl, rfl⟩ := ha rfl
    exact (cloneBytes_nil w).mono fun e w' ⟨h1, h2⟩ => ⟨none, h1, fun _ => rfl, fun h => absurd h (by omega), h2⟩
  | some x =>
    refine (cloneBytes_some zs x n c w hl hn hf).mono fun e w' ⟨h1, h2, h3⟩ => ⟨_, h1, (fun h => by cases h), ?_, h3⟩
    obtain ⟨_, a', c', e', _, _, _, h⟩ := ByAt.of_owns h2
    cases e'
    exact h

set_option maxHeartbeats 400000 in
theorem sameBytes_true (w : World) (a b : Option Addr) (n ca cb : Nat) (zs : List Int) (hl : zs.length = n) (hn : n ≤ 4194304) (h1 : ByAt w a zs) (h2 : ByAt w b zs) :
    Calls Tryd.prog 12 #[.slice a n ca, .slice b n cb] w fun e w' => e = .returned (.bool true) ∧ Below w.heap.size w w' := by
  have HL : Hid (zs.length = n) := hl
  clear hl
  go_enter Tryd.func12, Tryd.ntmps12
  go_wp2_with fail
  go_loopg [5] n (fun gg t wr => ∃ q : Nat, q ≤ n ∧ gg = n - q ∧ t = .int .i64 q ∧ Below w.heap.size w wr)
  case atStart => exact ⟨0, Nat.zero_le _, rfl, rfl, Below.refl _ _⟩
  case round =>
    obtain ⟨q, hq, hg, rfl, hbr⟩ := hrel
    by_cases hlt : q < n
    · have hlt' : q < zs.length := by rw [HL.out]; exact hlt
      obtain ⟨xb, xo, rfl, hx⟩ := h1 (by omega)
      obtain ⟨yb, yo, rfl, hy⟩ := h2 (by omega)
      have c1 := cellLater hbr (hx q hlt')
      have c2 := cellLater hbr (hy q hlt')
      have hq3 : (q : Int) < n := by omega
      clear hx hy h1 h2 hlt'
      generalize zs.getD q 0 = z at *
      go_upto_region 6 with fail
      go_quiet (fail)
      go_wp2_with fail
      go_roundg (n - (q + 1))
      case measure => omega
      case rel => exact ⟨q + 1, by omega, rfl, by go_num, below_drewN hbr _⟩
    · have hqn : q = n := by omega
      subst hqn
      go_wp2_with fail
      go_ret
      exact ⟨rfl, hbr⟩

theorem bound8 (w : World) (a : Option Addr) (n c : Nat) (t i : Int) (hn : n ≤ 9223372036854775807) :
    Calls Tryd.prog 8 #[.slice a n c, .int .u8 t, .int .i64 i] w fun e w' => e = .returned (.bool (decide (n ≤ 1048576))) ∧ Below w.heap.size w w' := by
  by_cases h : n ≤ 1048576
  · have HD : Hid (decide (n ≤ 1048576) = true) := by simp [Hid, h]
    go_enter Tryd.func8, Tryd.ntmps8
    go_wp2
    go_ret
    exact ⟨ret_bool HD.out.symm, Below.refl _ _⟩
  · have HD : Hid (decide (n ≤ 1048576) = false) := by simp [Hid, h]
    go_enter Tryd.func8, Tryd.ntmps8
    go_wp2
    go_ret
    exact ⟨ret_bool HD.out.symm, Below.refl _ _⟩
theorem bound13 (w : World) (a : Option Addr) (n c : Nat) (t i : Int) (hn : n ≤ 9223372036854775807) :
    Calls Tryd.prog 13 #[.slice a n c, .int .u8 t, .int .i64 i] w fun e w' => e = .returned (.bool (decide (n ≤ 1048576))) ∧ Below w.heap.size w w' := by
  by_cases h : n ≤ 1048576
  · have HD : Hid (decide (n ≤ 1048576) = true) := by simp [Hid, h]
    go_enter Tryd.func13, Tryd.ntmps13
    go_wp2
    go_ret
    exact ⟨ret_bool HD.out.symm, Below.refl _ _⟩
  · have HD : Hid (decide (n ≤ 1048576) = false) := by simp [Hid, h]
    go_enter Tryd.func13, Tryd.ntmps13
    go_wp2
    go_ret
    exact ⟨ret_bool HD.out.symm, Below.refl _ _⟩
end Go.Proofs.Qxb6603301aDoor
