/-
  TWO CONFIRMATIONS, one behind the other: what the second law's second loop is told.
-/
import Derived.Test.Qxb6603301aLawBase
namespace Go.Proofs.Qxb6603301a
open Go.RowKit Go.Maps
set_option linter.unusedVariables false

theorem Built.after2 {W wr w1 w1' w2 : World} {mb ms mv' : Nat → Value} {n : Nat → Nat} {nl : Nat → Bool} {f : Nat → Nat → ByteArray} (h : Built W wr 3 3 mb ms n nl f) (hn : ∀ j, j < 3 → n j ≤ 1048576) {F : Nat} {x : ByteArray} {D1 : Nat → DataW Unit}
    (S1 : Sets w1 (W.heap.size + 1) mv' 1048577 D1) (hD1 : D1 = fun j => if j = F then nextD 1 x (bset (f j) (n j)) else bset (f j) (n j))
    (nil1 : ∀ j, j < 3 → isNil (mv' j) = (isNil (ms j) && !(decide ((1 : Int) = 1) && decide (j = F)))) (keep1 : Keeps (fun b => b = W.heap.size + 1 ∨ ∃ j, j < 3 ∧ ms j = .map (some b)) wr w1) (new1 : ∀ j b, j < 3 → mv' j = .map (some b) → ms j = .map (some b) ∨ wr.heap.size ≤ b)
    (hb : Below w1.heap.size w1 w1') (ha : After w1' w2 (W.heap.size + 1) mv' 1048577 D1 F 2 x) :
    ∃ ms', Done W w2 mb ms' n nl f (fun j => if j = F then ((bset (f j) (n j)).put (key x) (.agg [])).del (key x) else bset (f j) (n j)) (fun j => setNil (nl j) (n j) && !decide (j = F)) := by
  obtain ⟨mv'', S2, nil2, keep2, new2⟩ := ha
  have hlt := h.lt
  have hge : ∀ j b, j < 3 → ms j = .map (some b) → W.heap.size + 2 ≤ b := by
    intro j b hj hb
    obtain ⟨r, h1, _, _, h4⟩ := h.setS j hj
    rw [hb] at h1; cases h1; exact h4 b rfl
  have hge' : ∀ j b, j < 3 → mv' j = .map (some b) → W.heap.size + 2 ≤ b := by
    intro j b hj hb
    rcases new1 j b hj hb with e | e
    · exact hge j b hj e
    · omega
  have hs1 := keep1.size
  have hs2 := hb.size
  have hblk : ∀ b, b < wr.heap.size → b ≠ W.heap.size + 1 → (∀ j, j < 3 → ms j ≠ .map (some b)) → w2.heap[b]? = wr.heap[b]? := by
    intro b hlt' hne hms
    rw [keep2.block b (by omega) (by
      rintro (e | ⟨j, hj, e⟩)
      · exact hne e
      · rcases new1 j b hj e with e2 | e2
        · exact hms j hj e2
        · omega), hb.block b (by omega), keep1.block b hlt' (by
      rintro (e | ⟨j, hj, e⟩)
      · exact hne e
      · exact hms j hj e)]
  refine ⟨mv'', ?_, fun j hj => ?_, S2.arr, fun j hj => ?_, ?_⟩
  · rw [hblk _ (by omega) (by omega) (fun j hj e => by have := hge j _ hj e; omega)]; exact h.arrB
  · obtain ⟨r, h1, h2, h3, h4⟩ := h.setB j hj
    refine ⟨r, h1, ?_, h3⟩
    rcases h2 with h2 | ⟨b, hr, hown⟩
    · exact .inl h2
    · have hbl := hown.lt
      obtain ⟨es, clock, hh, rr⟩ := hown
      refine SetIs.mono (n := n j) (.inr ⟨b, hr, es, clock, ?_, rr⟩) (hn j hj)
      have hne : b ≠ W.heap.size + 1 := by
        intro e; rw [e, h.arrS] at hh; cases hh
      rw [hblk b hbl hne (fun i hi e => h.apart1 j i b (by rw [h1, hr]) e)]; exact hh
  · have g1 := S2.set j hj
    obtain ⟨r, hr⟩ := g1.isMap
    rw [hr] at g1
    refine ⟨r, hr, ?_, ?_⟩
    · refine SetIs.mono (n := 1048577 + 1) ?_ (by omega)
      by_cases e : j = F
      · rw [if_pos e]
        rw [if_pos e, hD1] at g1
        simp only [if_pos e] at g1
        exact g1
      · rw [if_neg e]
        rw [if_neg e, hD1] at g1
        simp only [if_neg e] at g1
        exact g1
    · have g2 := nil2 j hj
      rw [hr, isNil_map, nil1 j hj] at g2
      rw [g2]
      obtain ⟨r', h1', _, h3', _⟩ := h.setS j hj
      rw [h1', isNil_map, h3']
      simp
  · refine h.below.trans ((keep1.below (by omega) ?_).trans ((hb.mono (by omega)).trans (keep2.below (by omega) ?_)))
    · intro b hb2
      rintro (e | ⟨j, hj, e⟩)
      · omega
      · have := hge j _ hj e; omega
    · intro b hb2
      rintro (e | ⟨j, hj, e⟩)
      · omega
      · have := hge' j _ hj e; omega

/-- the second law's plain law, family by family -/
def twiceD (on : Bool) (x : ByteArray) (D : DataW Unit) : DataW Unit := if on then (D.put (key x) (.agg [])).del (key x) else D
theorem twice_size (on : Bool) (x : ByteArray) (D : DataW Unit) (hD : Tidy D) : (Maps.size (twiceD on x D) : Int) = wantSize D x false on := by
  cases on
  · exact id_size D x
  · exact both_size D hD x
theorem twice_has (on : Bool) (x : ByteArray) (D : DataW Unit) (hD : Tidy D) (s : ByteArray) : Maps.has (twiceD on x D) (key s) = want D s x false on := by
  cases on
  · exact id_has D x s
  · exact both_has D hD x s
end Go.Proofs.Qxb6603301a
