/-
  WHAT A CONFIRMATION LEAVES ALONE: a block of cells that is not the array of the sets, and the values in it.
-/
import Derived.Test.Qxb6603301aTwice
namespace Go.Proofs.Qxb6603301a
open Go.RowKit Go.Maps
set_option linter.unusedVariables false

theorem Sets.keepBlock {w w' : World} {sb : Nat} {mv : Nat → Value} {N : Nat} {D : Nat → DataW Unit} (h : Sets w sb mv N D) (hk : Keeps (fun b => b = sb ∨ ∃ j, j < 3 ∧ mv j = .map (some b)) w w') {b : Nat} {cs : Array Value} {t : TypeId} {fr : Nat × Nat}
    (hb : w.heap[b]? = some (.cells cs t fr)) (hne : b ≠ sb) : w'.heap[b]? = some (.cells cs t fr) := by
  rw [hk.block b (lt_of_block hb) ?_]; exact hb
  rintro (e | ⟨j, hj, e⟩)
  · exact hne e
  · exact (h.set j hj).ne_arr hb b e rfl

theorem Sets.keepTyp {w w' : World} {sb : Nat} {mv : Nat → Value} {N : Nat} {D : Nat → DataW Unit} (h : Sets w sb mv N D) (hk : Keeps (fun b => b = sb ∨ ∃ j, j < 3 ∧ mv j = .map (some b)) w w') {b : Nat} {cs : Array Value} {t : TypeId} {fr : Nat × Nat}
    (hb : w.heap[b]? = some (.cells cs t fr)) (hne : t ≠ 42) : w'.heap[b]? = some (.cells cs t fr) := by
  refine h.keepBlock hk hb ?_
  intro e
  rw [e, h.arr] at hb
  cases hb
  exact hne rfl

theorem Sets.keepCell {w w' : World} {sb : Nat} {mv : Nat → Value} {N : Nat} {D : Nat → DataW Unit} (h : Sets w sb mv N D) (hk : Keeps (fun b => b = sb ∨ ∃ j, j < 3 ∧ mv j = .map (some b)) w w') {a : Addr} {v : Value}
    (hc : w.cell? a = some v) (hv : ∀ r, v ≠ .map r) : w'.cell? a = some v := by
  have hx : ∃ cs t fr, w.heap[a.block]? = some (.cells cs t fr) ∧ (if a.spot.isSome then none else cs[a.off]?) = some v := by
    unfold World.cell? at hc
    split at hc
    · rename_i cs t fr hh; exact ⟨cs, t, fr, hh, hc⟩
    · cases hc
  obtain ⟨cs, t, fr, hh, hcs⟩ := hx
  have hne : a.block ≠ sb := by
    intro e
    rw [e, h.arr] at hh
    cases hh
    split at hcs
    · cases hcs
    · have hlt : a.off < 3 := by
        rcases Nat.lt_or_ge a.off 3 with h1 | h1
        · exact h1
        · rw [Array.getElem?_eq_none (by simpa [three] using h1)] at hcs; cases hcs
      rw [three_get mv a.off hlt] at hcs
      cases hcs
      obtain ⟨r, hr⟩ := (h.set a.off hlt).isMap
      exact hv r hr
  have hh' := h.keepBlock hk hh hne
  unfold World.cell?
  rw [hh']
  exact hcs

theorem Sets.keepVs {w w' : World} {sb : Nat} {mv : Nat → Value} {N : Nat} {D : Nat → DataW Unit} (h : Sets w sb mv N D) (hk : Keeps (fun b => b = sb ∨ ∃ j, j < 3 ∧ mv j = .map (some b)) w w') {va : Option Addr} {n : Nat} {E : Nat → El} (hv : VsAt 0 w va n E) : VsAt 0 w' va n E := fun h0 => by
  obtain ⟨b, off, h1, e, hc⟩ := hv h0
  refine ⟨b, off, h1, e, fun j hj => ?_⟩
  obtain ⟨sa, sc, c1, c2, c3, c4, c5, c6⟩ := hc j hj
  refine ⟨sa, sc, h.keepCell hk c1 (by simp), h.keepCell hk c2 (by simp), h.keepCell hk c3 (by simp), h.keepCell hk c4 (by simp), c5, fun h0 => ?_⟩
  obtain ⟨b', off', e', hc'⟩ := c6 h0
  exact ⟨b', off', e', fun i hi => h.keepCell hk (hc' i hi) (by simp)⟩

/-- what stands after the first confirmation -/
def Once (w4 wx : World) (sb : Nat) (ms : Nat → Value) (D : Nat → DataW Unit) (F : Nat) (x : ByteArray) (en : Nat) : Prop :=
  (2 ≤ en → After w4 wx sb ms 1048576 D F 1 x) ∧ (en < 2 → Below w4.heap.size w4 wx)

theorem Once.typ {w4 wx : World} {sb : Nat} {ms : Nat → Value} {D : Nat → DataW Unit} {F : Nat} {x : ByteArray} {en N : Nat} (h : Once w4 wx sb ms D F x en) (hs : Sets w4 sb ms N D) {b : Nat} {cs : Array Value} {t : TypeId} {fr : Nat × Nat}
    (hb : w4.heap[b]? = some (.cells cs t fr)) (hne : t ≠ 42) : wx.heap[b]? = some (.cells cs t fr) := by
  by_cases h2 : 2 ≤ en
  · obtain ⟨_, _, _, hk, _⟩ := h.1 h2; exact hs.keepTyp hk hb hne
  · exact ((h.2 (by omega)).block _ (lt_of_block hb)).trans hb
theorem Once.vs {w4 wx : World} {sb : Nat} {ms : Nat → Value} {D : Nat → DataW Unit} {F : Nat} {x : ByteArray} {en N : Nat} (h : Once w4 wx sb ms D F x en) (hs : Sets w4 sb ms N D) {va : Option Addr} {n : Nat} {E : Nat → El} (hv : VsAt 0 w4 va n E) : VsAt 0 wx va n E := by
  by_cases h2 : 2 ≤ en
  · obtain ⟨_, _, _, hk, _⟩ := h.1 h2; exact hs.keepVs hk hv
  · exact hv.later (h.2 (by omega))

end Go.Proofs.Qxb6603301a
