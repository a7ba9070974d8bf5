/-
  WHAT THE TWO LAWS' WALKS SHARE.
-/
import Derived.Test.Qxb6603301aBuilt
import Derived.Test.Qxb6603301aBytesA
namespace Go.Proofs.Qxb6603301a
open Go.RowKit Go.Maps
set_option linter.unusedVariables false

theorem cells6 {w : World} {b : Nat} {x0 x1 x2 x3 x4 x5 : Value} {t : TypeId} {fr : Nat × Nat} (h : w.heap[b]? = some (.cells #[x0, x1, x2, x3, x4, x5] t fr)) :
    w.cell? ⟨b, 0, none⟩ = some x0 ∧ w.cell? ⟨b, 1, none⟩ = some x1 ∧ w.cell? ⟨b, 2, none⟩ = some x2 ∧ w.cell? ⟨b, 3, none⟩ = some x3 ∧ w.cell? ⟨b, 4, none⟩ = some x4 ∧ w.cell? ⟨b, 5, none⟩ = some x5 :=
  ⟨cell_of_row w _ 0 _ _ _ h, cell_of_row w _ 1 _ _ _ h, cell_of_row w _ 2 _ _ _ h, cell_of_row w _ 3 _ _ _ h, cell_of_row w _ 4 _ _ _ h, cell_of_row w _ 5 _ _ _ h⟩
theorem cells4 {w : World} {b : Nat} {x0 x1 x2 x3 : Value} {t : TypeId} {fr : Nat × Nat} (h : w.heap[b]? = some (.cells #[x0, x1, x2, x3] t fr)) :
    w.cell? ⟨b, 0, none⟩ = some x0 ∧ w.cell? ⟨b, 1, none⟩ = some x1 ∧ w.cell? ⟨b, 2, none⟩ = some x2 ∧ w.cell? ⟨b, 3, none⟩ = some x3 :=
  ⟨cell_of_row w _ 0 _ _ _ h, cell_of_row w _ 1 _ _ _ h, cell_of_row w _ 2 _ _ _ h, cell_of_row w _ 3 _ _ _ h⟩
theorem frees6 {w : World} {b : Nat} {cs : Array Value} {t : TypeId} (h : w.heap[b]? = some (.cells cs t (0, 0))) :
    w.frozen? ⟨b, 0, none⟩ = false ∧ w.frozen? ⟨b, 1, none⟩ = false ∧ w.frozen? ⟨b, 2, none⟩ = false ∧ w.frozen? ⟨b, 3, none⟩ = false ∧ w.frozen? ⟨b, 4, none⟩ = false ∧ w.frozen? ⟨b, 5, none⟩ = false :=
  ⟨frozen_of_row w _ 0 _ _ h, frozen_of_row w _ 1 _ _ h, frozen_of_row w _ 2 _ _ h, frozen_of_row w _ 3 _ _ h, frozen_of_row w _ 4 _ _ h, frozen_of_row w _ 5 _ _ h⟩

/-- what the law is told of its first and its last argument -/
structure Given (w : World) (a : Nat → Option Addr) (n c : Nat → Nat) (f : Nat → Nat → ByteArray) (sa : Option Addr) (sn sc : Nat) (g : Nat → Int) (ea : Option Addr) (en ec : Nat) (E : Nat → El) : Prop where
  an : ∀ j, j < 3 → a j = none → n j = 0 ∧ c j = 0
  nn : ∀ j, j < 3 → n j ≤ 9223372036854775807
  fs : ∀ j, j < 3 → StrsAt w (a j) (n j) (f j)
  fz : ∀ j, j < 3 → ∀ i, i < n j → (f j i).size ≤ maxLen
  sn0 : sa = none → sn = 0 ∧ sc = 0
  sl : sn ≤ 9223372036854775807
  sb : BytesAt w sa sn g
  en0 : ea = none → en = 0 ∧ ec = 0
  el : en ≤ 9223372036854775807
  es : ElsAt 0 w ea en E
  ez : ∀ j, j < en → (E j).len ≤ 9223372036854775807

theorem Given.later {w w' : World} {a : Nat → Option Addr} {n c : Nat → Nat} {f : Nat → Nat → ByteArray} {sa : Option Addr} {sn sc : Nat} {g : Nat → Int} {ea : Option Addr} {en ec : Nat} {E : Nat → El} (h : Given w a n c f sa sn sc g ea en ec E) (hb : Below w.heap.size w w') : Given w' a n c f sa sn sc g ea en ec E :=
  ⟨h.an, h.nn, fun j hj => (h.fs j hj).later hb, h.fz, h.sn0, h.sl, h.sb.later hb, h.en0, h.el, h.es.later hb, h.ez⟩

theorem ElsAt.setCell {B : Nat} {w : World} {a : Option Addr} {n : Nat} {E : Nat → El} (h : ElsAt B w a n E) {x : Addr} (hx : x.block < B) (u : Value) : ElsAt B (w.setCell x u) a n E := fun h0 => by
  obtain ⟨b, off, h1, e, hc⟩ := h h0
  exact ⟨b, off, h1, e, fun j hj => (hc j hj).setCell hx (fun hb => by omega) u⟩
theorem ElsAt.mono {B B' : Nat} {w : World} {a : Option Addr} {n : Nat} {E : Nat → El} (h : ElsAt B w a n E) (hB : B' ≤ B) : ElsAt B' w a n E := fun h0 => by
  obtain ⟨b, off, h1, e, hc⟩ := h h0
  exact ⟨b, off, by omega, e, fun j hj => (hc j hj).mono hB⟩

/-- six stores into one block, as the heap has it -/
theorem set6 {w : World} {b : Nat} {x0 x1 x2 x3 x4 x5 : Value} {t : TypeId} (h : w.heap[b]? = some (.cells #[x0, x1, x2, x3, x4, x5] t (0, 0))) (y0 y1 y2 y3 y4 y5 : Value) :
    ((((((w.setCell ⟨b, 0, none⟩ y0).setCell ⟨b, 1, none⟩ y1).setCell ⟨b, 2, none⟩ y2).setCell ⟨b, 3, none⟩ y3).setCell ⟨b, 4, none⟩ y4).setCell ⟨b, 5, none⟩ y5).heap[b]? = some (.cells #[y0, y1, y2, y3, y4, y5] t (0, 0)) := by
  have h0 := heap_setCell_same w b 0 _ t y0 h
  have h1 := heap_setCell_same _ b 1 _ t y1 h0
  have h2 := heap_setCell_same _ b 2 _ t y2 h1
  have h3 := heap_setCell_same _ b 3 _ t y3 h2
  have h4 := heap_setCell_same _ b 4 _ t y4 h3
  exact heap_setCell_same _ b 5 _ t y5 h4
theorem set4 {w : World} {b : Nat} {x0 x1 x2 x3 : Value} {t : TypeId} (h : w.heap[b]? = some (.cells #[x0, x1, x2, x3] t (0, 0))) (y0 y1 y2 y3 : Value) :
    ((((w.setCell ⟨b, 0, none⟩ y0).setCell ⟨b, 1, none⟩ y1).setCell ⟨b, 2, none⟩ y2).setCell ⟨b, 3, none⟩ y3).heap[b]? = some (.cells #[y0, y1, y2, y3] t (0, 0)) := by
  have h0 := heap_setCell_same w b 0 _ t y0 h
  have h1 := heap_setCell_same _ b 1 _ t y1 h0
  have h2 := heap_setCell_same _ b 2 _ t y2 h1
  exact heap_setCell_same _ b 3 _ t y3 h2

/-- the name that the law looks for -/
def xName (E : Nat → El) (en : Nat) : ByteArray := if 2 ≤ en then elName (E 1) else ⟨#[]⟩
theorem xName_size (E : Nat → El) (en : Nat) (h : 2 ≤ en → ElOk (E 1)) : (xName E en).size ≤ maxLen := by
  unfold xName
  by_cases h2 : 2 ≤ en
  · rw [if_pos h2]; exact elName_size _ (h h2)
  · rw [if_neg h2]; exact Nat.zero_le _

/-- the arguments' copies, as they lie in a world -/
structure Mid (w W : World) (S V : Nat) (a' : Nat → Option Addr) (n : Nat → Nat) (nl : Nat → Bool) (f : Nat → Nat → ByteArray) (k : Int) (sa' : Option Addr) (sn : Nat) (m : Int) (ea' : Option Addr) (en : Nat) (E : Nat → El) : Prop where
  hS : W.heap[S]? = some (.cells #[.slice (a' 0) (n 0) (n 0), .slice (a' 1) (n 1) (n 1), .slice (a' 2) (n 2) (n 2), .bool (nl 0), .bool (nl 1), .bool (nl 2)] 26 (0, 0))
  hV : W.heap[V]? = some (.cells #[.int .u8 k, .slice sa' sn sn, .int .i64 m, .slice ea' en en] 31 (0, 0))
  str : ∀ j, j < 3 → StrsAt W (a' j) (n j) (f j)
  els : ElsAt 0 W ea' en E
  eln : ea' = none → en = 0
  below : Below w.heap.size w W

theorem Mid.later {w W W' : World} {S V : Nat} {a' : Nat → Option Addr} {n : Nat → Nat} {nl : Nat → Bool} {f : Nat → Nat → ByteArray} {k : Int} {sa' : Option Addr} {sn : Nat} {m : Int} {ea' : Option Addr} {en : Nat} {E : Nat → El}
    (h : Mid w W S V a' n nl f k sa' sn m ea' en E) (hb : Below W.heap.size W W') : Mid w W' S V a' n nl f k sa' sn m ea' en E :=
  ⟨(hb.block _ (lt_of_block h.hS)).trans h.hS, (hb.block _ (lt_of_block h.hV)).trans h.hV, fun j hj => (h.str j hj).later hb, h.els.later hb, h.eln, below_step h.below (Nat.le_refl _) hb⟩

end Go.Proofs.Qxb6603301a
