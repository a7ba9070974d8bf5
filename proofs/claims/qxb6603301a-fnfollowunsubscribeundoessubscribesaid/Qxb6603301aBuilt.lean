/-
  WHAT THE LAWS' FIRST LOOP LEAVES: two arrays of three sets each, every map in a block of its own.
-/
import Derived.Test.Qxb6603301aMath
namespace Go.Proofs.Qxb6603301a
open Go.RowKit Go.Maps
set_option linter.unusedVariables false

theorem SetIs.setCell {w : World} {v : Value} {n : Nat} {D : DataW Unit} (h : SetIs w v n D) {x : Addr} (hx : ∀ b, v = .map (some b) → b ≠ x.block) (u : Value) : SetIs (w.setCell x u) v n D := by
  rcases h with h | ⟨b, rfl, hown⟩
  · exact .inl h
  · exact .inr ⟨b, rfl, hown.setCell (hx b rfl) u⟩
theorem SetIs.lt {w : World} {v : Value} {n : Nat} {D : DataW Unit} (h : SetIs w v n D) : ∀ b, v = .map (some b) → b < w.heap.size := by
  intro b hb
  rcases h with ⟨h, _⟩ | ⟨b', h, hown⟩
  · rw [hb] at h; cases h
  · rw [hb] at h; cases h; exact hown.lt

/-- the value of a family's cell, once it is built -/
def CellOk (W wr : World) (v : Value) (n : Nat) (nl : Bool) (f : Nat → ByteArray) : Prop :=
  ∃ r, v = .map r ∧ SetIs wr (.map r) n (bset f n) ∧ r.isNone = setNil nl n ∧ ∀ b, r = some b → W.heap.size + 2 ≤ b

structure Built (W wr : World) (qb qs : Nat) (mb ms : Nat → Value) (n : Nat → Nat) (nl : Nat → Bool) (f : Nat → Nat → ByteArray) : Prop where
  arrB : wr.heap[W.heap.size]? = some (.cells (three mb) 41 (0, 0))
  arrS : wr.heap[W.heap.size + 1]? = some (.cells (three ms) 42 (0, 0))
  setB : ∀ j, j < qb → CellOk W wr (mb j) (n j) (nl j) (f j)
  setS : ∀ j, j < qs → CellOk W wr (ms j) (n j) (nl j) (f j)
  restB : ∀ j, qb ≤ j → mb j = .map none
  restS : ∀ j, qs ≤ j → ms j = .map none
  apart1 : ∀ i j b, mb i = .map (some b) → ms j ≠ .map (some b)
  apart2 : ∀ i j b, i ≠ j → ms i = .map (some b) → ms j ≠ .map (some b)
  below : Below W.heap.size W wr

theorem Built.start (W : World) (n : Nat → Nat) (nl : Nat → Bool) (f : Nat → Nat → ByteArray) :
    Built W ((W.alloc (.cells #[.map none, .map none, .map none] 41)).alloc (.cells #[.map none, .map none, .map none] 42)) 0 0 (fun _ => .map none) (fun _ => .map none) n nl f := by
  refine ⟨?_, ?_, fun j hj => by omega, fun j hj => by omega, fun _ _ => rfl, fun _ _ => rfl, ?_, ?_, ?_⟩
  · rw [Below.heap_alloc _ _ _ (by simp)]; exact heap_new_at _ _ rfl
  · exact heap_new_at _ _ (by simp)
  · intro i j b h; simp at h
  · intro i j b _ h; simp at h
  · exact ((Below.refl _ _).alloc (Nat.le_refl _) _).alloc (by simp) _

theorem CellOk.step {W wr w1 : World} {v : Value} {n : Nat} {nl : Bool} {f : Nat → ByteArray} (h : CellOk W wr v n nl f) (hb : Below wr.heap.size wr w1) {x : Addr} (hx : x.block < W.heap.size + 2) (u : Value) : CellOk W (w1.setCell x u) v n nl f := by
  obtain ⟨r, h1, h2, h3, h4⟩ := h
  exact ⟨r, h1, (h2.later hb).setCell (fun b e => by cases e; have := h4 b rfl; omega) u, h3, h4⟩

theorem Built.lt {W wr : World} {qb qs : Nat} {mb ms : Nat → Value} {n : Nat → Nat} {nl : Nat → Bool} {f : Nat → Nat → ByteArray} (h : Built W wr qb qs mb ms n nl f) : W.heap.size + 1 < wr.heap.size := lt_of_block h.arrS
theorem Built.ltB {W wr : World} {qb qs : Nat} {mb ms : Nat → Value} {n : Nat → Nat} {nl : Nat → Bool} {f : Nat → Nat → ByteArray} (h : Built W wr qb qs mb ms n nl f) : ∀ j b, mb j = .map (some b) → b < wr.heap.size := by
  intro j b hb
  by_cases hj : j < qb
  · obtain ⟨r, h1, h2, _, _⟩ := h.setB j hj
    rw [hb] at h1; cases h1; exact h2.lt b rfl
  · rw [h.restB j (by omega)] at hb; cases hb
theorem Built.ltS {W wr : World} {qb qs : Nat} {mb ms : Nat → Value} {n : Nat → Nat} {nl : Nat → Bool} {f : Nat → Nat → ByteArray} (h : Built W wr qb qs mb ms n nl f) : ∀ j b, ms j = .map (some b) → b < wr.heap.size := by
  intro j b hb
  by_cases hj : j < qs
  · obtain ⟨r, h1, h2, _, _⟩ := h.setS j hj
    rw [hb] at h1; cases h1; exact h2.lt b rfl
  · rw [h.restS j (by omega)] at hb; cases hb

theorem Built.stepB {W wr w1 : World} {qb qs : Nat} {mb ms : Nat → Value} {n : Nat → Nat} {nl : Nat → Bool} {f : Nat → Nat → ByteArray} (h : Built W wr qb qs mb ms n nl f) (hq : qb < 3) {r : Option Nat} (hb : Below wr.heap.size wr w1) (hr : BuiltAs wr w1 r (n qb) (f qb) (nl qb)) :
    Built W (w1.setCell ⟨W.heap.size, qb, none⟩ (.map r)) (qb + 1) qs (fun i => if i = qb then .map r else mb i) ms n nl f := by
  have hlt := h.lt
  obtain ⟨r1, r2, r3⟩ := hr
  refine ⟨?_, ?_, fun j hj => ?_, fun j hj => (h.setS j hj).step hb (by simp) _, fun j hj => ?_, h.restS, fun i j b h1 => ?_, h.apart2, ?_⟩
  · rw [← three_set mb qb hq]; exact heap_setCell_same _ _ _ _ _ _ ((hb.block _ (by omega)).trans h.arrB)
  · rw [heap_setCell_other _ _ _ _ (by simp)]; exact (hb.block _ (by omega)).trans h.arrS
  · show CellOk W _ (if j = qb then .map r else mb j) (n j) (nl j) (f j)
    by_cases e : j = qb
    · rw [if_pos e, e]
      exact ⟨r, rfl, r1.setCell (fun b e => by cases e; have := r3 b rfl; simp; omega) _, r2, fun b e => by have := r3 b e; omega⟩
    · rw [if_neg e]; exact (h.setB j (by omega)).step hb (by simp) _
  · show (if j = qb then Value.map r else mb j) = .map none
    rw [if_neg (by omega)]; exact h.restB j (by omega)
  · replace h1 : (if i = qb then Value.map r else mb i) = .map (some b) := h1
    by_cases e : i = qb
    · rw [if_pos e] at h1; cases h1
      intro h2
      have := h.ltS j b h2
      have := r3 b rfl
      omega
    · rw [if_neg e] at h1; exact h.apart1 i j b h1
  · exact (h.below.trans (hb.mono (by omega))).setCell (by simp) _

theorem Built.stepS {W wr w1 : World} {qb qs : Nat} {mb ms : Nat → Value} {n : Nat → Nat} {nl : Nat → Bool} {f : Nat → Nat → ByteArray} (h : Built W wr qb qs mb ms n nl f) (hq : qs < 3) {r : Option Nat} (hb : Below wr.heap.size wr w1) (hr : BuiltAs wr w1 r (n qs) (f qs) (nl qs)) :
    Built W (w1.setCell ⟨W.heap.size + 1, qs, none⟩ (.map r)) qb (qs + 1) mb (fun i => if i = qs then .map r else ms i) n nl f := by
  have hlt := h.lt
  obtain ⟨r1, r2, r3⟩ := hr
  refine ⟨?_, ?_, fun j hj => (h.setB j hj).step hb (by simp) _, fun j hj => ?_, h.restB, fun j hj => ?_, fun i j b h1 h2 => ?_, fun i j b hij h1 h2 => ?_, ?_⟩
  · rw [heap_setCell_other _ _ _ _ (by simp)]; exact (hb.block _ (by omega)).trans h.arrB
  · rw [← three_set ms qs hq]; exact heap_setCell_same _ _ _ _ _ _ ((hb.block _ (by omega)).trans h.arrS)
  · show CellOk W _ (if j = qs then .map r else ms j) (n j) (nl j) (f j)
    by_cases e : j = qs
    · rw [if_pos e, e]
      exact ⟨r, rfl, r1.setCell (fun b e => by cases e; have := r3 b rfl; simp; omega) _, r2, fun b e => by have := r3 b e; omega⟩
    · rw [if_neg e]; exact (h.setS j (by omega)).step hb (by simp) _
  · show (if j = qs then Value.map r else ms j) = .map none
    rw [if_neg (by omega)]; exact h.restS j (by omega)
  · replace h2 : (if j = qs then Value.map r else ms j) = .map (some b) := h2
    by_cases e : j = qs
    · rw [if_pos e] at h2; cases h2
      have := h.ltB i b h1
      have := r3 b rfl
      omega
    · rw [if_neg e] at h2; exact h.apart1 i j b h1 h2
  · replace h1 : (if i = qs then Value.map r else ms i) = .map (some b) := h1
    replace h2 : (if j = qs then Value.map r else ms j) = .map (some b) := h2
    by_cases ei : i = qs
    · have ej : ¬ j = qs := fun e => hij (ei.trans e.symm)
      rw [if_pos ei] at h1; rw [if_neg ej] at h2; cases h1
      have := h.ltS j b h2
      have := r3 b rfl
      omega
    · rw [if_neg ei] at h1
      by_cases ej : j = qs
      · rw [if_pos ej] at h2; cases h2
        have := h.ltS i b h1
        have := r3 b rfl
        omega
      · rw [if_neg ej] at h2; exact h.apart2 i j b hij h1 h2
  · exact (h.below.trans (hb.mono (by omega))).setCell (by simp) _

theorem Built.later {W wr w' : World} {qb qs : Nat} {mb ms : Nat → Value} {n : Nat → Nat} {nl : Nat → Bool} {f : Nat → Nat → ByteArray} (h : Built W wr qb qs mb ms n nl f) (hb : Below wr.heap.size wr w') : Built W w' qb qs mb ms n nl f := by
  have hlt := h.lt
  refine ⟨(hb.block _ (by omega)).trans h.arrB, (hb.block _ (by omega)).trans h.arrS, fun j hj => ?_, fun j hj => ?_, h.restB, h.restS, h.apart1, h.apart2, h.below.trans (hb.mono (by omega))⟩
  · obtain ⟨r, h1, h2, h3, h4⟩ := h.setB j hj; exact ⟨r, h1, h2.later hb, h3, h4⟩
  · obtain ⟨r, h1, h2, h3, h4⟩ := h.setS j hj; exact ⟨r, h1, h2.later hb, h3, h4⟩

theorem isNil_map (r : Option Nat) : isNil (.map r) = r.isNone := by cases r <;> rfl

/-- WHAT THE SECOND LOOP IS TOLD: the array 'before' as it was built; the array s as the confirmations have left it -/
structure Done (W wx : World) (mb ms' : Nat → Value) (n : Nat → Nat) (nl : Nat → Bool) (f : Nat → Nat → ByteArray) (Dn : Nat → DataW Unit) (nn : Nat → Bool) : Prop where
  arrB : wx.heap[W.heap.size]? = some (.cells (three mb) 41 (0, 0))
  setB : ∀ j, j < 3 → ∃ r, mb j = .map r ∧ SetIs wx (.map r) 1048576 (bset (f j) (n j)) ∧ r.isNone = setNil (nl j) (n j)
  arrS : wx.heap[W.heap.size + 1]? = some (.cells (three ms') 42 (0, 0))
  setS : ∀ j, j < 3 → ∃ r, ms' j = .map r ∧ SetIs wx (.map r) 1048578 (Dn j) ∧ r.isNone = nn j
  below : Below W.heap.size W wx

theorem Done.later {W wx w' : World} {mb ms' : Nat → Value} {n : Nat → Nat} {nl : Nat → Bool} {f : Nat → Nat → ByteArray} {Dn : Nat → DataW Unit} {nn : Nat → Bool} (h : Done W wx mb ms' n nl f Dn nn) (hb : Below wx.heap.size wx w') : Done W w' mb ms' n nl f Dn nn := by
  have hlt : W.heap.size + 1 < wx.heap.size := lt_of_block h.arrS
  refine ⟨(hb.block _ (by omega)).trans h.arrB, fun j hj => ?_, (hb.block _ (by omega)).trans h.arrS, fun j hj => ?_, h.below.trans (hb.mono (by omega))⟩
  · obtain ⟨r, h1, h2, h3⟩ := h.setB j hj; exact ⟨r, h1, h2.later hb, h3⟩
  · obtain ⟨r, h1, h2, h3⟩ := h.setS j hj; exact ⟨r, h1, h2.later hb, h3⟩

/-- no confirmation: nothing has turned -/
theorem Built.done {W wr : World} {mb ms : Nat → Value} {n : Nat → Nat} {nl : Nat → Bool} {f : Nat → Nat → ByteArray} (h : Built W wr 3 3 mb ms n nl f) (hn : ∀ j, j < 3 → n j ≤ 1048576) :
    Done W wr mb ms n nl f (fun j => bset (f j) (n j)) (fun j => setNil (nl j) (n j)) := by
  refine ⟨h.arrB, fun j hj => ?_, h.arrS, fun j hj => ?_, h.below⟩
  · obtain ⟨r, h1, h2, h3, h4⟩ := h.setB j hj; exact ⟨r, h1, h2.mono (hn j hj), h3⟩
  · obtain ⟨r, h1, h2, h3, h4⟩ := h.setS j hj; exact ⟨r, h1, h2.mono (by have := hn j hj; omega), h3⟩

/-- a confirmation -/
theorem Built.after {W wr w' : World} {mb ms : Nat → Value} {n : Nat → Nat} {nl : Nat → Bool} {f : Nat → Nat → ByteArray} (h : Built W wr 3 3 mb ms n nl f) (hn : ∀ j, j < 3 → n j ≤ 1048576) {F : Nat} {ev : Int} {x : ByteArray}
    (ha : After wr w' (W.heap.size + 1) ms 1048576 (fun j => bset (f j) (n j)) F ev x) :
    ∃ ms', Done W w' mb ms' n nl f (fun j => if j = F then nextD ev x (bset (f j) (n j)) else bset (f j) (n j)) (fun j => setNil (nl j) (n j) && !(decide (ev = 1) && decide (j = F))) := by
  obtain ⟨ms', hs, hnil, hk, hnew⟩ := ha
  have hlt := h.lt
  have hge : ∀ j b, j < 3 → ms j = .map (some b) → W.heap.size + 2 ≤ b := by
    intro j b hj hb
    obtain ⟨r, h1, _, _, h4⟩ := h.setS j hj
    rw [hb] at h1; cases h1; exact h4 b rfl
  refine ⟨ms', ?_, fun j hj => ?_, hs.arr, fun j hj => ?_, ?_⟩
  · rw [hk.block _ (by omega) (by
      rintro (e | ⟨j, hj, e⟩)
      · omega
      · have := hge j _ hj e; omega)]
    exact h.arrB
  · obtain ⟨r, h1, h2, h3, h4⟩ := h.setB j hj
    refine ⟨r, h1, (h2.keep hk (fun b e => ?_)).mono (hn j hj), h3⟩
    rintro (e2 | ⟨i, hi, e2⟩)
    · exact h2.ne_arr h.arrS b e e2
    · exact h.apart1 j i b (by rw [h1, e]) e2
  · have h1 := hs.set j hj
    obtain ⟨r, hr⟩ := h1.isMap
    rw [hr] at h1
    refine ⟨r, hr, h1.mono (by omega), ?_⟩
    have h2 := hnil j hj
    rw [hr, isNil_map] at h2
    rw [h2]
    obtain ⟨r', h1', _, h3', _⟩ := h.setS j hj
    rw [h1', isNil_map, h3']
  · refine h.below.trans (hk.below (by omega) ?_)
    intro b hb
    rintro (e | ⟨j, hj, e⟩)
    · omega
    · have := hge j _ hj e; omega

/-- once all are built: the second array, as follow wants it -/
theorem Built.sets {W wr : World} {mb ms : Nat → Value} {n : Nat → Nat} {nl : Nat → Bool} {f : Nat → Nat → ByteArray} (h : Built W wr 3 3 mb ms n nl f) {N : Nat} (hN : ∀ j, j < 3 → n j ≤ N) : Sets wr (W.heap.size + 1) ms N (fun j => bset (f j) (n j)) := by
  refine ⟨h.arrS, fun j hj => ?_, fun i j b _ _ hij h1 => h.apart2 i j b hij h1⟩
  obtain ⟨r, h1, h2, _, _⟩ := h.setS j hj
  rw [h1]; exact h2.mono (hN j hj)

end Go.Proofs.Qxb6603301a
