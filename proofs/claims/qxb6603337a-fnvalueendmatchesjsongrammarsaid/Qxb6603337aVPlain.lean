/-
  THE PLAIN LAW of the ends of JSON values: what a parser has accepted, the scan finds again. No Go in sight.
-/
import GoSem.Core.Utf8
namespace Go.Proofs.Qxb6603337a

/-- stringEnd's road from j comes out at e -/
inductive SE (F : Nat → Nat) (n : Nat) : Nat → Nat → Prop
  | quote {j : Nat} : j < n → F j = 34 → SE F n j (j + 1)
  | esc {j e : Nat} : j < n → F j = 92 → SE F n (j + 2) e → SE F n j e
  | other {j e : Nat} : j < n → F j ≠ 34 → F j ≠ 92 → SE F n (j + 1) e → SE F n j e

theorem SE.lt {F : Nat → Nat} {n j e : Nat} (h : SE F n j e) : j < e ∧ e ≤ n := by
  induction h with
  | quote h1 _ => omega
  | esc h1 _ _ ih => omega
  | other h1 _ _ _ ih => omega
theorem SE.at_quote {F : Nat → Nat} {n j e : Nat} (h : SE F n j e) (hq : F j = 34) : e = j + 1 := by
  cases h with
  | quote _ _ => rfl
  | esc _ h2 _ => omega
  | other _ h2 _ _ => exact absurd hq h2
theorem SE.at_esc {F : Nat → Nat} {n j e : Nat} (h : SE F n j e) (hq : F j = 92) : SE F n (j + 2) e := by
  cases h with
  | quote _ h2 => omega
  | esc _ _ h3 => exact h3
  | other _ _ h2 _ => exact absurd hq h2
theorem SE.at_other {F : Nat → Nat} {n j e : Nat} (h : SE F n j e) (h1 : F j ≠ 34) (h2 : F j ≠ 92) : SE F n (j + 1) e := by
  cases h with
  | quote _ h3 => exact absurd h3 h1
  | esc _ h3 _ => exact absurd h3 h2
  | other _ _ _ h3 => exact h3
/-- over k bytes that are neither quote nor backslash -/
theorem SE.over {F : Nat → Nat} {n e : Nat} : ∀ k j, (∀ m, m < k → F (j + m) ≠ 34 ∧ F (j + m) ≠ 92) → j + k ≤ n → SE F n (j + k) e → SE F n j e := by
  intro k
  induction k with
  | zero => intro j _ _ h; exact h
  | succ k ih =>
    intro j h hn hs
    have h0 := h 0 (by omega)
    rw [Nat.add_zero] at h0
    refine .other (by omega) h0.1 h0.2 (ih (j + 1) (fun m hm => ?_) (by omega) ?_)
    · have := h (m + 1) (by omega)
      rwa [show j + (m + 1) = j + 1 + m by omega] at this
    · rwa [show j + 1 + k = j + (k + 1) by omega]

def opens (c : Nat) : Prop := c = 91 ∨ c = 123
def closes (c : Nat) : Prop := c = 93 ∨ c = 125
def plainB (c : Nat) : Prop := c ≠ 34 ∧ c ≠ 91 ∧ c ≠ 123 ∧ c ≠ 93 ∧ c ≠ 125

/-- one turn of valueEnd's loop that does not return -/
inductive Step (F : Nat → Nat) (n : Nat) : Nat → Nat → Nat → Nat → Prop
  | str {i d e : Nat} : i < n → F i = 34 → SE F n (i + 1) e → Step F n i d e d
  | opn {i d : Nat} : i < n → opens (F i) → Step F n i d (i + 1) (d + 1)
  | cls {i d : Nat} : i < n → closes (F i) → 1 ≤ d → Step F n i (d + 1) (i + 1) d
  | other {i d : Nat} : i < n → plainB (F i) → Step F n i d (i + 1) d

inductive Road (F : Nat → Nat) (n : Nat) : Nat → Nat → Nat → Nat → Prop
  | here {i d : Nat} : Road F n i d i d
  | step {i d i1 d1 i2 d2 : Nat} : Step F n i d i1 d1 → Road F n i1 d1 i2 d2 → Road F n i d i2 d2

theorem Step.lt {F : Nat → Nat} {n i d i1 d1 : Nat} (h : Step F n i d i1 d1) : i < i1 ∧ i1 ≤ n ∧ i < n := by
  cases h with
  | str h1 _ h3 => have := h3.lt; omega
  | opn h1 _ => omega
  | cls h1 _ _ => omega
  | other h1 _ => omega
theorem Road.le {F : Nat → Nat} {n i d i1 d1 : Nat} (h : Road F n i d i1 d1) : i ≤ i1 := by
  induction h with
  | here => exact Nat.le_refl _
  | step h _ ih => have := h.lt; omega
theorem Road.trans {F : Nat → Nat} {n i d i1 d1 i2 d2 : Nat} (h : Road F n i d i1 d1) (h2 : Road F n i1 d1 i2 d2) : Road F n i d i2 d2 := by
  induction h with
  | here => exact h2
  | step h _ ih => exact .step h (ih h2)
theorem Road.one {F : Nat → Nat} {n i d i1 d1 : Nat} (h : Step F n i d i1 d1) : Road F n i d i1 d1 := .step h .here
/-- over plain bytes -/
theorem Road.plain {F : Nat → Nat} {n d : Nat} : ∀ k i, (∀ m, m < k → plainB (F (i + m))) → i + k ≤ n → Road F n i d (i + k) d := by
  intro k
  induction k with
  | zero => intro i _ _; exact .here
  | succ k ih =>
    intro i h hn
    refine .step (.other (by omega) (by simpa using h 0 (by omega))) ?_
    have := ih (i + 1) (fun m hm => by have := h (m + 1) (by omega); rwa [show i + (m + 1) = i + 1 + m by omega] at this) (by omega)
    rwa [show i + 1 + k = i + (k + 1) by omega] at this

/-- what a whole value is good for: the scan runs over it and keeps its depth -/
def Over (F : Nat → Nat) (n i e : Nat) : Prop := i < e ∧ e ≤ n ∧ ∀ d, 1 ≤ d → Road F n i d e d
/-- the inside of a composite, from behind its opening byte to j -/
def Inside (F : Nat → Nat) (n i j : Nat) : Prop := ∀ d, 1 ≤ d → Road F n (i + 1) d j d
/-- a whole composite -/
def Comp (F : Nat → Nat) (n t e : Nat) : Prop := t + 2 ≤ e ∧ e ≤ n ∧ opens (F t) ∧ closes (F (e - 1)) ∧ ∀ d, 1 ≤ d → Road F n (t + 1) d (e - 1) d

theorem Inside.start {F : Nat → Nat} {n i : Nat} : Inside F n i (i + 1) := fun _ _ => .here
theorem Inside.over {F : Nat → Nat} {n i j e : Nat} (h : Inside F n i j) (hv : Over F n j e) : Inside F n i e := fun d hd => (h d hd).trans (hv.2.2 d hd)
theorem Inside.plain {F : Nat → Nat} {n i j e : Nat} (h : Inside F n i j) (hje : j ≤ e) (he : e ≤ n) (hp : ∀ m, j ≤ m → m < e → plainB (F m)) : Inside F n i e := fun d hd => by
  have := Road.plain (F := F) (n := n) (d := d) (e - j) j (fun m hm => hp _ (by omega) (by omega)) (by omega)
  rw [show j + (e - j) = e by omega] at this
  exact (h d hd).trans this
theorem Inside.closed {F : Nat → Nat} {n i j : Nat} (h : Inside F n i j) (ho : opens (F i)) (hij : i + 1 ≤ j) (hj : j < n) (hc : closes (F j)) : Comp F n i (j + 1) ∧ Over F n i (j + 1) := by
  refine ⟨⟨by omega, by omega, ho, by simpa using hc, fun d hd => by simpa using h d hd⟩, by omega, by omega, fun d hd => ?_⟩
  exact .step (.opn (by omega) ho) ((h (d + 1) (by omega)).trans (.one (.cls hj hc hd)))
theorem Over.str {F : Nat → Nat} {n i e : Nat} (hi : i < n) (hq : F i = 34) (h : SE F n (i + 1) e) : Over F n i e := by
  have := h.lt
  exact ⟨by omega, by omega, fun d _ => .one (.str hi hq h)⟩
theorem Over.plain {F : Nat → Nat} {n i e : Nat} (hie : i < e) (he : e ≤ n) (hp : ∀ m, i ≤ m → m < e → plainB (F m)) : Over F n i e :=
  ⟨hie, he, fun d hd => by
    have := Road.plain (F := F) (n := n) (d := d) (e - i) i (fun m hm => hp _ (by omega) (by omega)) (by omega)
    rwa [show i + (e - i) = e by omega] at this⟩

def numB (c : Nat) : Prop := c = 45 ∨ c = 43 ∨ c = 46 ∨ c = 101 ∨ c = 69 ∨ (48 ≤ c ∧ c ≤ 57)
def isSp (c : Nat) : Prop := c = 32 ∨ c = 9 ∨ c = 10 ∨ c = 13
/-- bytes t to e - 1 are a number's; what valueEnd's switch has for its other arms does not stand at t -/
def NumAt (F : Nat → Nat) (n t e : Nat) : Prop := t < e ∧ e ≤ n ∧ (F t = 45 ∨ (48 ≤ F t ∧ F t ≤ 57)) ∧ ∀ m, t ≤ m → m < e → numB (F m)
/-- what valueEnd will find at t -/
inductive Ok (F : Nat → Nat) (n t e : Nat) : Prop
  | str : t < n → F t = 34 → SE F n (t + 1) e → Ok F n t e
  | four : t < n → (F t = 116 ∨ F t = 110) → e = t + 4 → Ok F n t e
  | five : t < n → F t = 102 → e = t + 5 → Ok F n t e
  | comp : Comp F n t e → Ok F n t e
  | num : NumAt F n t e → (e < n → ¬ numB (F e)) → Ok F n t e
/-- what has been noted when a value has just ended at e -/
def Told (F : Nat → Nat) (n : Nat) (fd : Bool) (t en e : Nat) : Prop := fd = true → Ok F n t en ∨ (en = e ∧ NumAt F n t e)
def Good (F : Nat → Nat) (n : Nat) (fd : Bool) (t en : Nat) : Prop := fd = true → Ok F n t en
theorem Told.good {F : Nat → Nat} {n : Nat} {fd : Bool} {t en e : Nat} (h : Told F n fd t en e) (hx : e < n → ¬ numB (F e)) : Good F n fd t en := fun hf => by
  rcases h hf with h1 | ⟨rfl, h2⟩
  · exact h1
  · exact .num h2 hx
theorem Good.told {F : Nat → Nat} {n : Nat} {fd : Bool} {t en e : Nat} (h : Good F n fd t en) : Told F n fd t en e := fun hf => .inl (h hf)
theorem NumAt.over {F : Nat → Nat} {n t e : Nat} (h : NumAt F n t e) : Over F n t e := Over.plain h.1 h.2.1 fun m h1 h2 => by
  have := h.2.2.2 m h1 h2
  unfold numB at this
  unfold plainB
  omega
theorem isSp.not_num {c : Nat} (h : isSp c) : ¬ numB c := by unfold isSp at h; unfold numB; omega
theorem isSp.plain {c : Nat} (h : isSp c) : plainB c := by unfold isSp at h; unfold plainB; omega
end Go.Proofs.Qxb6603337a
