/-
  THE PLAIN LAWS of this seat: what follow does to a set is what the laws' own set algebra says; and buildSet's one contract.
-/
import Derived.Test.Qxb6603301aSets
import Derived.Test.Qxb6603301aBuild
import Derived.Test.Qxb6603301aZFollow
namespace Go.Proofs.Qxb6603301a
open Go.RowKit Go.Maps
set_option linter.unusedVariables false

theorem keyLit (s : ByteArray) : WideAt.IsKeyLit (key s) := trivial
theorem key_ne {s t : ByteArray} (h : s ≠ t) : key s ≠ key t := fun e => h (key_inj e)

/-- an addition -/
theorem put_size (D : DataW Unit) (hD : Tidy D) (x : ByteArray) : (Maps.size (D.put (key x) (.agg [])) : Int) = wantSize D x true false := by
  rw [size_put hD, wantSize]
  cases h : Maps.has D (key x) <;> simp
theorem put_has (D : DataW Unit) (hD : Tidy D) (x s : ByteArray) : Maps.has (D.put (key x) (.agg [])) (key s) = want D s x true false := by
  by_cases e : s = x
  · subst e; rw [has_put_same hD.isMap (keyLit s)]; simp [want]
  · rw [has_put_other (key_ne e)]; simp [want, e]

/-- a removal -/
theorem del_size (D : DataW Unit) (hD : Tidy D) (x : ByteArray) : (Maps.size (D.del (key x)) : Int) = wantSize D x false true := by
  have := size_del (k := key x) hD
  rw [wantSize]
  cases h : Maps.has D (key x)
  · rw [h] at this; simp at this ⊢; omega
  · rw [h] at this; simp at this ⊢; omega
theorem del_has (D : DataW Unit) (x s : ByteArray) : Maps.has (D.del (key x)) (key s) = want D s x false true := by
  by_cases e : s = x
  · subst e; rw [has_del_same]; simp [want]
  · rw [has_del_other (key_ne e)]; simp [want, e]

/-- nothing -/
theorem id_size (D : DataW Unit) (x : ByteArray) : (Maps.size D : Int) = wantSize D x false false := by simp [wantSize]
theorem id_has (D : DataW Unit) (x s : ByteArray) : Maps.has D (key s) = want D s x false false := by simp [want]

/-- an addition, then a removal -/
theorem both_size (D : DataW Unit) (hD : Tidy D) (x : ByteArray) : (Maps.size ((D.put (key x) (.agg [])).del (key x)) : Int) = wantSize D x false true := by
  have h1 := size_del (k := key x) (hD.put (keyLit x) (.agg []))
  rw [has_put_same hD.isMap (keyLit x), size_put hD] at h1
  rw [wantSize]
  cases h : Maps.has D (key x)
  · rw [h] at h1; simp at h1 ⊢; omega
  · rw [h] at h1; simp at h1 ⊢; omega
theorem both_has (D : DataW Unit) (hD : Tidy D) (x s : ByteArray) : Maps.has ((D.put (key x) (.agg [])).del (key x)) (key s) = want D s x false true := by
  by_cases e : s = x
  · subst e; rw [has_del_same]; simp [want]
  · rw [has_del_other (key_ne e), has_put_other (key_ne e)]; simp [want, e]

/-- THE LAW OF ONE CONFIRMATION: 'on': the confirmation is of this family, and names one -/
def onD (on : Bool) (ev : Int) (x : ByteArray) (D : DataW Unit) : DataW Unit := if on then nextD ev x D else D
theorem on_size (on : Bool) (ev : Int) (x : ByteArray) (D : DataW Unit) (hD : Tidy D) : (Maps.size (onD on ev x D) : Int) = wantSize D x (on && decide (ev = 1)) (on && decide (ev = 2)) := by
  cases on
  · exact id_size D x
  · by_cases h1 : ev = 1
    · subst h1; exact put_size D hD x
    · by_cases h2 : ev = 2
      · subst h2; exact del_size D hD x
      · simp only [onD, nextD, h1, h2]; exact id_size D x
theorem on_has (on : Bool) (ev : Int) (x : ByteArray) (D : DataW Unit) (hD : Tidy D) (s : ByteArray) : Maps.has (onD on ev x D) (key s) = want D s x (on && decide (ev = 1)) (on && decide (ev = 2)) := by
  cases on
  · exact id_has D x s
  · by_cases h1 : ev = 1
    · subst h1; exact put_has D hD x s
    · by_cases h2 : ev = 2
      · subst h2; exact del_has D x s
      · simp only [onD, nextD, h1, h2]; exact id_has D x s

/-- buildSet: ONE contract -/
def BuiltAs (w w' : World) (r : Option Nat) (n : Nat) (ss : Nat → ByteArray) (isNil' : Bool) : Prop :=
  SetIs w' (.map r) n (bset ss n) ∧ r.isNone = setNil isNil' n ∧ (∀ b, r = some b → w.heap.size ≤ b)

theorem buildSet_any {w W : World} {a : Option Addr} {n c : Nat} {ss : Nat → ByteArray} {isNil' : Bool} (hB : Below w.heap.size w W) (hn : n ≤ 1048576) (hs : StrsAt w a n ss) (hsz : ∀ i, i < n → (ss i).size ≤ maxLen) :
    Calls Try.prog 12 #[.slice a n c, .bool isNil'] W fun e w' => ∃ r, e = .returned (.map r) ∧ BuiltAs w w' r n ss isNil' ∧ Below w.heap.size w w' := by
  cases h : setNil isNil' n with
  | true =>
    refine (buildSet_nil W a n c isNil' h).mono ?_
    rintro e w' ⟨rfl, hb⟩
    have h0 : n = 0 := by have := h; simp [setNil] at this; exact this.2
    exact ⟨none, rfl, ⟨.inl ⟨rfl, by rw [h0]; rfl⟩, by simp [h], fun b e => by cases e⟩, below_step hB (Nat.le_refl _) hb⟩
  | false =>
    refine (buildSet_some W a n c ss isNil' h hn (hs.later hB) hsz).mono ?_
    rintro e w' ⟨rfl, hown, hb⟩
    exact ⟨some W.heap.size, rfl, ⟨.inr ⟨_, rfl, hown⟩, by simp [h], fun b e => by cases e; exact hB.size⟩, below_step hB (Nat.le_refl _) hb⟩

end Go.Proofs.Qxb6603301a
