/-
  THE WALKS of cloneValue and buildValue.
-/
import Derived.Test.Qxb6603301aClone
import Derived.Deep.RegionHeld
namespace Go.Proofs.Qxb6603301a
open Go.RowKit Go.Maps
set_option linter.unusedVariables false

/-- what an element holds -/
structure El where
  kind : Int
  len : Nat
  num : Int
  txt : Nat → Int

/-- bytes from block B on -/
def BytesFrom (B : Nat) (w : World) (a : Option Addr) (n : Nat) (f : Nat → Int) : Prop :=
  0 < n → ∃ b off, B ≤ b ∧ a = some ⟨b, off, none⟩ ∧ ∀ i, i < n → w.cell? ⟨b, off + i, none⟩ = some (.int .u8 (f i))

theorem BytesFrom.at {B : Nat} {w : World} {a : Option Addr} {n : Nat} {f : Nat → Int} (h : BytesFrom B w a n f) : BytesAt w a n f := fun h0 => by
  obtain ⟨b, off, _, e, hc⟩ := h h0; exact ⟨b, off, e, hc⟩
theorem BytesFrom.mono {B B' : Nat} {w : World} {a : Option Addr} {n : Nat} {f : Nat → Int} (h : BytesFrom B w a n f) (hB : B' ≤ B) : BytesFrom B' w a n f := fun h0 => by
  obtain ⟨b, off, h1, e, hc⟩ := h h0; exact ⟨b, off, by omega, e, hc⟩
theorem BytesFrom.later {B : Nat} {w w' : World} {a : Option Addr} {n : Nat} {f : Nat → Int} (h : BytesFrom B w a n f) (hb : Below w.heap.size w w') : BytesFrom B w' a n f := fun h0 => by
  obtain ⟨b, off, h1, e, hc⟩ := h h0
  exact ⟨b, off, h1, e, fun i hi => cellLater hb (hc i hi)⟩
theorem BytesFrom.setCell {B : Nat} {w : World} {a : Option Addr} {n : Nat} {f : Nat → Int} (h : BytesFrom B w a n f) {x : Addr} (hx : x.block < B) (u : Value) : BytesFrom B (w.setCell x u) a n f := fun h0 => by
  obtain ⟨b, off, h1, e, hc⟩ := h h0
  refine ⟨b, off, h1, e, fun i hi => ?_⟩
  rw [World.cell?_setCell_other _ _ _ _ (by intro e'; rw [e'] at hx; simp at hx; omega)]
  exact hc i hi

/-- element j of a row lies at b, off, its text from block B on -/
def ElAt (B : Nat) (w : World) (b off j : Nat) (E : El) : Prop :=
  ∃ sa sc, w.cell? ⟨b, off + j * 3, none⟩ = some (.int .u8 E.kind) ∧ w.cell? ⟨b, off + j * 3 + 1, none⟩ = some (.slice sa E.len sc) ∧ w.cell? ⟨b, off + j * 3 + 2, none⟩ = some (.int .i64 E.num) ∧
    (sa = none → E.len = 0 ∧ sc = 0) ∧ E.len ≤ sc ∧ BytesFrom B w sa E.len E.txt

theorem ElAt.later {B : Nat} {w w' : World} {b off j : Nat} {E : El} (h : ElAt B w b off j E) (hb : Below w.heap.size w w') : ElAt B w' b off j E := by
  obtain ⟨sa, sc, h1, h2, h3, h4, h5, h6⟩ := h
  exact ⟨sa, sc, cellLater hb h1, cellLater hb h2, cellLater hb h3, h4, h5, h6.later hb⟩
theorem ElAt.mono {B B' : Nat} {w : World} {b off j : Nat} {E : El} (h : ElAt B w b off j E) (hB : B' ≤ B) : ElAt B' w b off j E := by
  obtain ⟨sa, sc, h1, h2, h3, h4, h5, h6⟩ := h
  exact ⟨sa, sc, h1, h2, h3, h4, h5, h6.mono hB⟩
/-- a store elsewhere: into another block, or behind the element -/
theorem ElAt.setCell {B : Nat} {w : World} {b off j : Nat} {E : El} (h : ElAt B w b off j E) {x : Addr} (hB : x.block < B) (hx : x.block = b → x.spot = none → off + j * 3 + 2 < x.off) (u : Value) : ElAt B (w.setCell x u) b off j E := by
  obtain ⟨sa, sc, h1, h2, h3, h4, h5, h6⟩ := h
  refine ⟨sa, sc, ?_, ?_, ?_, h4, h5, h6.setCell hB u⟩
  · rw [World.cell?_setCell_other _ _ _ _ (by intro e; rw [e] at hx; simp at hx; omega)]; exact h1
  · rw [World.cell?_setCell_other _ _ _ _ (by intro e; rw [e] at hx; simp at hx)]; exact h2
  · rw [World.cell?_setCell_other _ _ _ _ (by intro e; rw [e] at hx; simp at hx)]; exact h3

/-- THE SLICE AT a HOLDS THE ELEMENTS E, n of them -/
def ElsAt (B : Nat) (w : World) (a : Option Addr) (n : Nat) (E : Nat → El) : Prop :=
  0 < n → ∃ b off, B ≤ b ∧ a = some ⟨b, off, none⟩ ∧ ∀ j, j < n → ElAt B w b off j (E j)

theorem ElsAt.later {B : Nat} {w w' : World} {a : Option Addr} {n : Nat} {E : Nat → El} (h : ElsAt B w a n E) (hb : Below w.heap.size w w') : ElsAt B w' a n E := fun h0 => by
  obtain ⟨b, off, h1, e, hc⟩ := h h0
  exact ⟨b, off, h1, e, fun j hj => (hc j hj).later hb⟩

theorem frozen_kept {w w' : World} (h : w.grownBy w' none) {x : Addr} (hx : x.block < w.heap.size) : w'.frozen? x = w.frozen? x := World.frozen?_of_block (h.block _ hx (by simp))

theorem Try.info55 : (Try.prog.info? 55).map (fun i => (i.zero, i.size, i.bytes)) = some (some (.agg #[.int .u8 0, .slice none 0 0, .int .i64 0]), 3, 40) := by kernel_rfl

/-- cloneBytes, with the row's place -/
theorem cloneBytes_from (f : Nat → Int) (a : Option Addr) (n c : Nat) (w : World) (ha : a = none → n = 0 ∧ c = 0) (hn : n ≤ 1048576) (hf : BytesAt w a n f) :
    Calls Try.prog 24 #[.slice a n c] w fun e w' => ∃ a', e = .returned (.slice a' n n) ∧ BytesFrom w.heap.size w' a' n f ∧ (a' = none → n = 0) ∧ Below w.heap.size w w' := by
  cases a with
  | none =>
    obtain ⟨rfl, rfl⟩ := ha rfl
    exact (cloneBytes_nil w).mono fun e w' ⟨h1, h2⟩ => ⟨none, h1, fun h => absurd h (by omega), fun _ => rfl, h2⟩
  | some x =>
    exact (cloneBytes_some f x n c w hn hf).mono fun e w' ⟨h1, h2, h3⟩ => ⟨_, h1, fun _ => ⟨_, _, Nat.le_refl _, rfl, fun i hi => by rw [Nat.zero_add, h2.cellAt i (by omega)]; exact cp_get f n i hi⟩, (fun h => by cases h), h3⟩

/-- .. in a later world -/
theorem cloneBytes_later {w W : World} {f : Nat → Int} {a : Option Addr} {n c : Nat} (hB : Below w.heap.size w W) (ha : a = none → n = 0 ∧ c = 0) (hn : n ≤ 1048576) (hf : BytesAt w a n f) :
    Calls Try.prog 24 #[.slice a n c] W fun e w' => ∃ a', e = .returned (.slice a' n n) ∧ BytesFrom w.heap.size w' a' n f ∧ (a' = none → n = 0) ∧ Below W.heap.size W w' ∧ Below w.heap.size w w' :=
  (cloneBytes_from f a n c W ha hn (hf.later hB)).mono fun _ _ ⟨a', h1, h2, h3, h4⟩ => ⟨a', h1, h2.mono hB.size, h3, h4, below_step hB (Nat.le_refl _) h4⟩

set_option maxHeartbeats 1000000 in
theorem cloneValue_any (w : World) (k : Int) (sa : Option Addr) (sn sc : Nat) (m : Int) (ea : Option Addr) (en ec : Nat) (f : Nat → Int)
    (E : Nat → El) (hs : sa = none → sn = 0 ∧ sc = 0) (hsn : sn ≤ 1048576) (hsf : BytesAt w sa sn f) (he : ea = none → en = 0 ∧ ec = 0) (hen : en ≤ 1048576) (hE : ElsAt 0 w ea en E) (hEn : ∀ j, j < en → (E j).len ≤ 1048576) :
    Calls Try.prog 11 #[.agg #[.int .u8 k, .slice sa sn sc, .int .i64 m, .slice ea en ec]] w fun e w' => ∃ sa' ea', e = .returned (.agg #[.int .u8 k, .slice sa' sn sn, .int .i64 m, .slice ea' en en]) ∧ ElsAt w.heap.size w' ea' en E ∧ Below w.heap.size w w' := by
  go_enter Try.func11, Try.ntmps11
  go_upto_region 1 with fail
  go_cut [3] (fun t wx => ∃ O sa', t = .pointer (some ⟨O, 0, none⟩) ∧ w.heap.size + 2 ≤ O ∧ wx.heap[O]? = some (.cells #[.int .u8 k, .slice sa' sn sn, .int .i64 m, .slice none 0 0] 31 (0, 0)) ∧
    wx.heap[w.heap.size]? = some (.cells #[.int .u8 k, .slice sa sn sc, .int .i64 m, .slice ea en ec] 31 (0, 0)) ∧ wx.heap[w.heap.size + 1]? = some (.cells #[.int .u8 0, .slice none 0 0, .int .i64 0, .slice none 0 0] 31 (0, 0)) ∧ Below w.heap.size w wx)
  case first =>
    obtain ⟨W, hW⟩ : ∃ W, W = (w.alloc (.cells #[.int .u8 k, .slice sa sn sc, .int .i64 m, .slice ea en ec] 31)).alloc (.cells #[.int .u8 0, .slice none 0 0, .int .i64 0, .slice none 0 0] 31) := ⟨_, rfl⟩
    rw [← hW]
    have hWs : W.heap.size = w.heap.size + 2 := by rw [hW]; simp
    have h0 : W.heap[w.heap.size]? = some (.cells #[.int .u8 k, .slice sa sn sc, .int .i64 m, .slice ea en ec] 31 (0, 0)) := by
      rw [hW, Below.heap_alloc _ _ _ (by simp)]; exact heap_new_at _ _ rfl
    have h1 : W.heap[w.heap.size + 1]? = some (.cells #[.int .u8 0, .slice none 0 0, .int .i64 0, .slice none 0 0] 31 (0, 0)) := by
      rw [hW]; exact heap_new_at _ _ (by simp)
    have hbW : Below w.heap.size w W := by rw [hW]; exact ((Below.refl _ _).alloc (Nat.le_refl _) _).alloc (by simp) _
    have hsfW := hsf.later hbW
    have q0 : W.cell? ⟨w.heap.size, 0, none⟩ = some (.int .u8 k) := cell_of_row W _ 0 _ _ _ h0
    have q1 : W.cell? ⟨w.heap.size, 1, none⟩ = some (.slice sa sn sc) := cell_of_row W _ 1 _ _ _ h0
    have q2 : W.cell? ⟨w.heap.size, 2, none⟩ = some (.int .i64 m) := cell_of_row W _ 2 _ _ _ h0
    have HW : Hid (W.heap.size = w.heap.size + 2) := hWs
    have hl0 : w.heap.size < W.heap.size := by omega
    have hl1 : w.heap.size + 1 < W.heap.size := by omega
    have H0 : Hid (W.heap[w.heap.size]? = some (.cells #[.int .u8 k, .slice sa sn sc, .int .i64 m, .slice ea en ec] 31 (0, 0))) := h0
    have H1 : Hid (W.heap[w.heap.size + 1]? = some (.cells #[.int .u8 0, .slice none 0 0, .int .i64 0, .slice none 0 0] 31 (0, 0))) := h1
    clear hW hWs h0 h1 hsf
    have hne0 : W.heap.size ≠ w.heap.size := by omega
    go_region_held (fun w' => w'.cell? ⟨w.heap.size, 0, none⟩ = some (.int .u8 k) ∧ w'.cell? ⟨w.heap.size, 1, none⟩ = some (.slice sa sn sc) ∧ w'.cell? ⟨w.heap.size, 2, none⟩ = some (.int .i64 m)) (go_keep)
      ((go_at_call 24; refine (cloneBytes_later (w := W) ?_ hs hsn hsfW).mono ?_; (first | exact (Below.refl _ _).drew | exact ((Below.refl _ _).drew.alloc (Nat.le_refl _) _)); rintro e w1 ⟨sa', rfl, hx1, hx2, hb1, hb2⟩; have q01 := cellLater hb2 q0; have q11 := cellLater hb2 q1; have q21 := cellLater hb2 q2; have hz2 := Nat.lt_of_lt_of_le hl0 hb2.size; have hz3 := hb1.size; simp only [World.drew, World.size_alloc] at hz3; obtain ⟨hcc, hff⟩ := bcell hb1; have hne1 : w1.heap.size ≠ w.heap.size := (by omega)))
    · go_wp2_with fail
      go_meet
      have hs1 := hb2.size
      have hW2 := HW.out
      refine ⟨w1.heap.size, sa', rfl, by omega, heap_new_at _ _ rfl, ?_, ?_, ?_⟩
      · rw [Below.heap_alloc _ _ _ (by omega)]; exact (hb2.block _ hl0).trans H0.out
      · rw [Below.heap_alloc _ _ _ (by omega)]; exact (hb2.block _ hl1).trans H1.out
      · exact (hbW.trans (hb2.mono (by omega))).alloc (by omega) _
    · go_wp2_with fail
      go_meet
      have hW2 := HW.out
      have hO : w1.heap[W.heap.size]? = some (.cells #[.int .u8 0, .slice none 0 0, .int .i64 0, .slice none 0 0] 31 (0, 0)) :=
        (hb1.block _ (by simp)).trans (heap_new_at _ _ rfl)
      have h1 := heap_setCell_same w1 W.heap.size 0 _ 31 (.int .u8 k) hO
      have h2 := heap_setCell_same _ W.heap.size 1 _ 31 (.slice sa' sn sn) h1
      have h3 := heap_setCell_same _ W.heap.size 2 _ 31 (.int .i64 m) h2
      have h4 := heap_setCell_same _ W.heap.size 3 _ 31 (.slice none 0 0) h3
      refine ⟨W.heap.size, sa', rfl, by omega, h4, ?_, ?_, ?_⟩
      · rw [heap_setCell_other _ _ _ _ (by simp; omega), heap_setCell_other _ _ _ _ (by simp; omega), heap_setCell_other _ _ _ _ (by simp; omega), heap_setCell_other _ _ _ _ (by simp; omega)]
        exact (hb2.block _ hl0).trans H0.out
      · rw [heap_setCell_other _ _ _ _ (by simp; omega), heap_setCell_other _ _ _ _ (by simp; omega), heap_setCell_other _ _ _ _ (by simp; omega), heap_setCell_other _ _ _ _ (by simp; omega)]
        exact (hb2.block _ hl1).trans H1.out
      · exact ((((hbW.trans (hb2.mono (by omega))).setCell (by simp; omega) _).setCell (by simp; omega) _).setCell (by simp; omega) _).setCell (by simp; omega) _
  case rest =>
    obtain ⟨O, sa', rfl, hOl, hO, hS, hR, hbl⟩ := hcut
    have hOs : O < wc.heap.size := lt_of_block hO
    have cS : wc.cell? ⟨w.heap.size, 3, none⟩ = some (.slice ea en ec) := cell_of_row wc _ 3 _ _ _ hS
    cases ea with
    | none =>
      obtain ⟨rfl, rfl⟩ := he rfl
      have hnil := fun (wx : World) => run_neq_slice_nil_any (P := Try.prog) wx 29 55 none 0 0 0 0 Try.underlying29
      have a0 : wc.cell? ⟨O, 0, none⟩ = some (.int .u8 k) := cell_of_row wc _ 0 _ _ _ hO
      have a1 : wc.cell? ⟨O, 1, none⟩ = some (.slice sa' sn sn) := cell_of_row wc _ 1 _ _ _ hO
      have a2 : wc.cell? ⟨O, 2, none⟩ = some (.int .i64 m) := cell_of_row wc _ 2 _ _ _ hO
      have a3 : wc.cell? ⟨O, 3, none⟩ = some (.slice none 0 0) := cell_of_row wc _ 3 _ _ _ hO
      have r0 : wc.cell? ⟨w.heap.size + 1, 0, none⟩ = some (.int .u8 0) := cell_of_row wc _ 0 _ _ _ hR
      have z0 : wc.frozen? ⟨w.heap.size + 1, 0, none⟩ = false := frozen_of_row wc _ 0 _ _ hR
      have r1 : wc.cell? ⟨w.heap.size + 1, 1, none⟩ = some (.slice none 0 0) := cell_of_row wc _ 1 _ _ _ hR
      have z1 : wc.frozen? ⟨w.heap.size + 1, 1, none⟩ = false := frozen_of_row wc _ 1 _ _ hR
      have r2 : wc.cell? ⟨w.heap.size + 1, 2, none⟩ = some (.int .i64 0) := cell_of_row wc _ 2 _ _ _ hR
      have z2 : wc.frozen? ⟨w.heap.size + 1, 2, none⟩ = false := frozen_of_row wc _ 2 _ _ hR
      have r3 : wc.cell? ⟨w.heap.size + 1, 3, none⟩ = some (.slice none 0 0) := cell_of_row wc _ 3 _ _ _ hR
      have z3 : wc.frozen? ⟨w.heap.size + 1, 3, none⟩ = false := frozen_of_row wc _ 3 _ _ hR
      clear hO hS hR
      go_wp2_with fail
      refine bodyPost_ret (v := .agg #[.int .u8 k, .slice sa' sn sn, .int .i64 m, .slice none 0 0]) ?_ rfl ?_
      · simp [results, Try.results11, go_sem, r0, r1, r2, r3]
      · refine ⟨sa', none, rfl, fun h => by omega, ?_⟩
        iterate 4 refine Below.setCell ?_ (by simp) _
        exact hbl
    | some x =>
      obtain ⟨i0, hi, hz0, hz1, hz2⟩ := info_parts Try.info55
      have hnil := fun (wx : World) => run_neq_slice_nil_any (P := Try.prog) wx 29 55 (some x) en ec 0 0 Try.underlying29
      have a3 : wc.cell? ⟨O, 3, none⟩ = some (.slice none 0 0) := cell_of_row wc _ 3 _ _ _ hO
      have f3 : wc.frozen? ⟨O, 3, none⟩ = false := frozen_of_row wc _ 3 _ _ hO
      have HO : Hid (wc.heap[O]? = some (.cells #[.int .u8 k, .slice sa' sn sn, .int .i64 m, .slice none 0 0] 31 (0, 0))) := hO
      have HS : Hid (wc.heap[w.heap.size]? = some (.cells #[.int .u8 k, .slice sa sn sc, .int .i64 m, .slice (some x) en ec] 31 (0, 0))) := hS
      have HR : Hid (wc.heap[w.heap.size + 1]? = some (.cells #[.int .u8 0, .slice none 0 0, .int .i64 0, .slice none 0 0] 31 (0, 0))) := hR
      clear hO hS hR
      go_wp2_with (at_make; refine wpList_make_full _ rfl (.tmp 19) (.tmp 19) 29 rfl wc.heap.size 55 i0 (.agg #[.int .u8 0, .slice none 0 0, .int .i64 0]) 3 Try.underlying29 hi hz0 hz1 .i64 .i64 en en en rfl rfl rfl rfl (by rw [hz2]; omega) (by unfold maxLen; omega) (Nat.le_refl _) ?_; intro w1 hown hgrow; have c31 := hgrow.cell a3 (by simp); have f31 := (frozen_kept hgrow (x := ⟨O, 3, none⟩) hOs).trans f3)
      have HO1 : Hid ((w1.setCell ⟨O, 3, none⟩ (.slice (some ⟨wc.heap.size, 0, none⟩) en en)).heap[O]? = some (.cells #[.int .u8 k, .slice sa' sn sn, .int .i64 m, .slice (some ⟨wc.heap.size, 0, none⟩) en en] 31 (0, 0))) :=
        heap_setCell_same w1 O 3 _ 31 _ ((hgrow.block _ hOs (by simp)).trans HO.out)
      have hl0 : w.heap.size < wc.heap.size := lt_of_block HS.out
      have hl1 : w.heap.size + 1 < wc.heap.size := lt_of_block HR.out
      have HS1 : Hid ((w1.setCell ⟨O, 3, none⟩ (.slice (some ⟨wc.heap.size, 0, none⟩) en en)).heap[w.heap.size]? = some (.cells #[.int .u8 k, .slice sa sn sc, .int .i64 m, .slice (some x) en ec] 31 (0, 0))) := by
        show _ = _
        rw [heap_setCell_other _ _ _ _ (by simp; omega)]; exact (hgrow.block _ hl0 (by simp)).trans HS.out
      have HR1 : Hid ((w1.setCell ⟨O, 3, none⟩ (.slice (some ⟨wc.heap.size, 0, none⟩) en en)).heap[w.heap.size + 1]? = some (.cells #[.int .u8 0, .slice none 0 0, .int .i64 0, .slice none 0 0] 31 (0, 0))) := by
        show _ = _
        rw [heap_setCell_other _ _ _ _ (by simp; omega)]; exact (hgrow.block _ hl1 (by simp)).trans HR.out
      have HG1 : Hid (∃ cur : Array Value, (w1.setCell ⟨O, 3, none⟩ (.slice (some ⟨wc.heap.size, 0, none⟩) en en)).heap[wc.heap.size]? = some (.cells cur 55 (0, 0)) ∧ cur.size = en * 3) := by
        rcases hown.2 with ⟨h', _⟩ | ⟨g', cap', cur, h', _, hg, _, _, hcs, _⟩
        · simp at h'
        · simp only [Value.slice.injEq, Option.some.injEq, Addr.mk.injEq, and_true, true_and] at h'
          obtain ⟨rfl, rfl⟩ := h'
          exact ⟨cur, by rw [heap_setCell_other _ _ _ _ (by simp; omega)]; exact hg, hcs⟩
      have HB1 : Hid (Below w.heap.size w (w1.setCell ⟨O, 3, none⟩ (.slice (some ⟨wc.heap.size, 0, none⟩) en en))) :=
        (hbl.grown hgrow (by omega) (by simp)).setCell (by simp; omega) _
      clear HO HS HR hgrow hown c31 f31 a3 f3 cS
      generalize hw1 : w1.setCell ⟨O, 3, none⟩ (.slice (some ⟨wc.heap.size, 0, none⟩) en en) = w2 at *
      clear hw1
      go_loopg [4, 5] en (fun g t _ wr => ∃ (q : Nat) (cur : Array Value), q ≤ en ∧ g = en - q ∧ t = .int .i64 q ∧
        wr.heap[O]? = some (.cells #[.int .u8 k, .slice sa' sn sn, .int .i64 m, .slice (some ⟨wc.heap.size, 0, none⟩) en en] 31 (0, 0)) ∧
        wr.heap[w.heap.size]? = some (.cells #[.int .u8 k, .slice sa sn sc, .int .i64 m, .slice (some x) en ec] 31 (0, 0)) ∧
        wr.heap[w.heap.size + 1]? = some (.cells #[.int .u8 0, .slice none 0 0, .int .i64 0, .slice none 0 0] 31 (0, 0)) ∧
        wr.heap[wc.heap.size]? = some (.cells cur 55 (0, 0)) ∧ cur.size = en * 3 ∧ (∀ j, j < q → ElAt (wc.heap.size + 1) wr wc.heap.size 0 j (E j)) ∧ Below w.heap.size w wr)
      case atStart =>
        obtain ⟨cur, h1, h2⟩ := HG1.out
        exact ⟨0, cur, Nat.zero_le _, rfl, rfl, HO1.out, HS1.out, HR1.out, h1, h2, fun j hj => by omega, HB1.out⟩
      case round =>
        obtain ⟨q, cur, hq, hg, rfl, hO, hS, hR, hG, hcur, hEl, hbr⟩ := hrel
        have cS : wr.cell? ⟨w.heap.size, 3, none⟩ = some (.slice (some x) en ec) := cell_of_row wr _ 3 _ _ _ hS
        by_cases hlt : q < en
        · obtain ⟨b, off, _, ex, hEs⟩ := hE (by omega)
          obtain rfl : x = ⟨b, off, none⟩ := by simpa using ex
          obtain ⟨ya, yc, y1, y2, y3, y4, y5, y6⟩ := (hEs q hlt).later hbr
          have cO : wr.cell? ⟨O, 3, none⟩ = some (.slice (some ⟨wc.heap.size, 0, none⟩) en en) := cell_of_row wr _ 3 _ _ _ hO
          have HO2 : Hid (wr.heap[O]? = some (.cells #[.int .u8 k, .slice sa' sn sn, .int .i64 m, .slice (some ⟨wc.heap.size, 0, none⟩) en en] 31 (0, 0))) := hO
          have HS2 : Hid (wr.heap[w.heap.size]? = some (.cells #[.int .u8 k, .slice sa sn sc, .int .i64 m, .slice (some ⟨b, off, none⟩) en ec] 31 (0, 0))) := hS
          have HR2 : Hid (wr.heap[w.heap.size + 1]? = some (.cells #[.int .u8 0, .slice none 0 0, .int .i64 0, .slice none 0 0] 31 (0, 0))) := hR
          have HG2 : Hid (wr.heap[wc.heap.size]? = some (.cells cur 55 (0, 0))) := hG
          have hlo : O < wr.heap.size := lt_of_block hO
          have hlg : wc.heap.size < wr.heap.size := lt_of_block hG
          have hls : w.heap.size < wr.heap.size := lt_of_block hS
          clear hO hS hR hG hEs ex HO1 HS1 HR1 HG1 HB1
          go_upto_region 8 with fail
          obtain ⟨W, hW⟩ : ∃ W, W = wr.alloc (.cells #[.int .u8 (E q).kind, .slice ya (E q).len yc, .int .i64 (E q).num] 55) := ⟨_, rfl⟩
          rw [← hW]
          have hbW : Below wr.heap.size wr W := by rw [hW]; exact (Below.refl _ _).alloc (Nat.le_refl _) _
          have h0 : W.heap[wr.heap.size]? = some (.cells #[.int .u8 (E q).kind, .slice ya (E q).len yc, .int .i64 (E q).num] 55 (0, 0)) := by rw [hW]; exact heap_new_at _ _ rfl
          have hlw : wr.heap.size < W.heap.size := lt_of_block h0
          have x0 : W.cell? ⟨wr.heap.size, 0, none⟩ = some (.int .u8 (E q).kind) := cell_of_row W _ 0 _ _ _ h0
          have x1 : W.cell? ⟨wr.heap.size, 1, none⟩ = some (.slice ya (E q).len yc) := cell_of_row W _ 1 _ _ _ h0
          have x2 : W.cell? ⟨wr.heap.size, 2, none⟩ = some (.int .i64 (E q).num) := cell_of_row W _ 2 _ _ _ h0
          have x3 := cellLater hbW cO
          have y6W := y6.at.later hbW
          have hlen := hEn q hlt
          clear hW h0
          have hcell : ∀ w1 : World, Below W.heap.size W w1 → ∀ j, j < 3 → (∃ v, w1.cell? ⟨wc.heap.size, q * 3 + j, none⟩ = some v) ∧ w1.frozen? ⟨wc.heap.size, q * 3 + j, none⟩ = false := by
            intro w1 hb j hj
            have hg1 : w1.heap[wc.heap.size]? = some (.cells cur 55 (0, 0)) := (hb.block _ (by omega)).trans ((hbW.block _ hlg).trans HG2.out)
            refine ⟨⟨cur[q * 3 + j]'(by omega), ?_⟩, frozen_of_row w1 _ _ _ _ hg1⟩
            rw [cell_of_row w1 _ _ _ _ _ hg1]; simp
          have HC : Hid (∀ w1 : World, Below W.heap.size W w1 → ∀ j, j < 3 → (∃ v, w1.cell? ⟨wc.heap.size, q * 3 + j, none⟩ = some v) ∧ w1.frozen? ⟨wc.heap.size, q * 3 + j, none⟩ = false) := hcell
          have HEl : Hid (∀ j, j < q → ElAt (wc.heap.size + 1) wr wc.heap.size 0 j (E j)) := hEl
          clear hcell hEl y1 y2 y3 cO cS y6
          have hne1 : wc.heap.size ≠ wr.heap.size := by omega
          have hne2 : wc.heap.size ≠ O := by omega
          go_region_held (fun w' => w'.cell? ⟨wr.heap.size, 0, none⟩ = some (.int .u8 (E q).kind) ∧ w'.cell? ⟨wr.heap.size, 1, none⟩ = some (.slice ya (E q).len yc) ∧ w'.cell? ⟨wr.heap.size, 2, none⟩ = some (.int .i64 (E q).num) ∧ w'.cell? ⟨O, 3, none⟩ = some (.slice (some ⟨wc.heap.size, 0, none⟩) en en)) (go_keep)
            ((go_at_call 24; refine (cloneBytes_later (w := W) ?_ y4 hlen y6W).mono ?_; (first | exact (Below.refl _ _).drew); rintro e w1 ⟨za, rfl, hx1, hx2, hb1, hb2⟩; have q0 := cellLater hb2 x0; have q1 := cellLater hb2 x1; have q2 := cellLater hb2 x2; have q3 := cellLater hb2 x3; obtain ⟨⟨g0, c0⟩, f0⟩ := HC.out w1 hb2 0 (by omega); obtain ⟨⟨g1, c1⟩, f1⟩ := HC.out w1 hb2 1 (by omega); obtain ⟨⟨g2, c2⟩, f2⟩ := HC.out w1 hb2 2 (by omega); simp only [Nat.add_zero] at c0 f0))
          go_wp2_with fail
          go_roundg (en - (q + 1))
          case measure => omega
          case rel =>
            have hblk : ∀ t, t < wr.heap.size → w1.heap[t]? = wr.heap[t]? := fun t ht => (hb2.block _ (by omega)).trans (hbW.block _ ht)
            have hG1 : w1.heap[wc.heap.size]? = some (.cells cur 55 (0, 0)) := (hblk _ hlg).trans HG2.out
            have g1' := heap_setCell_same w1 wc.heap.size (q * 3) _ 55 (.int .u8 (E q).kind) hG1
            have g2' := heap_setCell_same _ wc.heap.size (q * 3 + 1) _ 55 (.slice za (E q).len (E q).len) g1'
            have g3' := heap_setCell_same _ wc.heap.size (q * 3 + 2) _ 55 (.int .i64 (E q).num) g2'
            refine ⟨q + 1, _, by omega, rfl, by go_num, ?_, ?_, ?_, g3', by simp [hcur], ?_, ?_⟩
            · rw [heap_setCell_other _ _ _ _ (by simp; omega), heap_setCell_other _ _ _ _ (by simp; omega), heap_setCell_other _ _ _ _ (by simp; omega)]
              exact (hblk _ hlo).trans HO2.out
            · rw [heap_setCell_other _ _ _ _ (by simp; omega), heap_setCell_other _ _ _ _ (by simp; omega), heap_setCell_other _ _ _ _ (by simp; omega)]
              exact (hblk _ hls).trans HS2.out
            · rw [heap_setCell_other _ _ _ _ (by simp; omega), heap_setCell_other _ _ _ _ (by simp; omega), heap_setCell_other _ _ _ _ (by simp; omega)]
              exact (hblk _ (by omega)).trans HR2.out
            · intro j hj
              by_cases hjq : j = q
              · subst hjq
                refine ⟨za, (E j).len, ?_, ?_, ?_, fun h => ⟨hx2 h, hx2 h⟩, Nat.le_refl _, ?_⟩
                · rw [Nat.zero_add, World.cell?_setCell_other _ _ _ _ (by simp), World.cell?_setCell_other _ _ _ _ (by simp), World.cell?_setCell_same _ _ _ c0]
                · rw [Nat.zero_add, World.cell?_setCell_other _ _ _ _ (by simp)]
                  refine World.cell?_setCell_same _ _ _ (u := g1) ?_
                  rw [World.cell?_setCell_other _ _ _ _ (by simp)]; exact c1
                · rw [Nat.zero_add]
                  refine World.cell?_setCell_same _ _ _ (u := g2) ?_
                  rw [World.cell?_setCell_other _ _ _ _ (by simp), World.cell?_setCell_other _ _ _ _ (by simp)]; exact c2
                · exact (((hx1.mono (by omega)).setCell (by simp) _).setCell (by simp) _).setCell (by simp) _
              · have h1 := ((HEl.out j (by omega)).later hbW).later hb2
                exact ((h1.setCell (by simp) (by intro _ _; simp; omega) _).setCell (by simp) (by intro _ _; simp; omega) _).setCell (by simp) (by intro _ _; simp; omega) _
            · exact (((below_step (below_step hbr (Nat.le_refl _) hbW) (Nat.le_refl _) hb2).setCell (by simp; omega) _).setCell (by simp; omega) _).setCell (by simp; omega) _
        · obtain rfl : q = en := by omega
          have a0 : wr.cell? ⟨O, 0, none⟩ = some (.int .u8 k) := cell_of_row wr _ 0 _ _ _ hO
          have a1 : wr.cell? ⟨O, 1, none⟩ = some (.slice sa' sn sn) := cell_of_row wr _ 1 _ _ _ hO
          have a2 : wr.cell? ⟨O, 2, none⟩ = some (.int .i64 m) := cell_of_row wr _ 2 _ _ _ hO
          have a3 : wr.cell? ⟨O, 3, none⟩ = some (.slice (some ⟨wc.heap.size, 0, none⟩) q q) := cell_of_row wr _ 3 _ _ _ hO
          have r0 : wr.cell? ⟨w.heap.size + 1, 0, none⟩ = some (.int .u8 0) := cell_of_row wr _ 0 _ _ _ hR
          have z0 : wr.frozen? ⟨w.heap.size + 1, 0, none⟩ = false := frozen_of_row wr _ 0 _ _ hR
          have r1 : wr.cell? ⟨w.heap.size + 1, 1, none⟩ = some (.slice none 0 0) := cell_of_row wr _ 1 _ _ _ hR
          have z1 : wr.frozen? ⟨w.heap.size + 1, 1, none⟩ = false := frozen_of_row wr _ 1 _ _ hR
          have r2 : wr.cell? ⟨w.heap.size + 1, 2, none⟩ = some (.int .i64 0) := cell_of_row wr _ 2 _ _ _ hR
          have z2 : wr.frozen? ⟨w.heap.size + 1, 2, none⟩ = false := frozen_of_row wr _ 2 _ _ hR
          have r3 : wr.cell? ⟨w.heap.size + 1, 3, none⟩ = some (.slice none 0 0) := cell_of_row wr _ 3 _ _ _ hR
          have z3 : wr.frozen? ⟨w.heap.size + 1, 3, none⟩ = false := frozen_of_row wr _ 3 _ _ hR
          have HG : Hid (wr.heap[wc.heap.size]? = some (.cells cur 55 (0, 0))) := hG
          have HEl : Hid (∀ j, j < q → ElAt (wc.heap.size + 1) wr wc.heap.size 0 j (E j)) := hEl
          clear hO hS hR hG hEl HO1 HS1 HR1 HG1 HB1
          go_wp2_with fail
          refine bodyPost_ret (v := .agg #[.int .u8 k, .slice sa' sn sn, .int .i64 m, .slice (some ⟨wc.heap.size, 0, none⟩) q q]) ?_ rfl ?_
          · simp [results, Try.results11, go_sem, r0, r1, r2, r3]
          · refine ⟨sa', some ⟨wc.heap.size, 0, none⟩, rfl, fun _ => ⟨wc.heap.size, 0, by omega, rfl, fun j hj => ElAt.mono (B := wc.heap.size + 1) ?_ (by omega)⟩, ?_⟩
            · refine ElAt.setCell ?_ (by simp; omega) (by intro h; simp at h; omega) _
              refine ElAt.setCell ?_ (by simp; omega) (by intro h; simp at h; omega) _
              refine ElAt.setCell ?_ (by simp; omega) (by intro h; simp at h; omega) _
              refine ElAt.setCell ?_ (by simp; omega) (by intro h; simp at h; omega) _
              exact HEl.out j hj
            · iterate 4 refine Below.setCell ?_ (by simp) _
              exact hbr
end Go.Proofs.Qxb6603301a
