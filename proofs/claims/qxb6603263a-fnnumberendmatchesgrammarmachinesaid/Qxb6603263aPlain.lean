/-
  THE PLAIN LAW of the seat's two statements: what numberEnd and the automaton compute, as plain functions of a text (a function from places to bytes, and a length). No Go in sight.
-/
namespace Go.Proofs.Qxb6603263a.Plain

/-- is the byte a digit? -/
def dig (c : Int) : Bool := decide (48 ≤ c) && decide (c ≤ 57)

theorem dig_iff (c : Int) : dig c = true ↔ (48 ≤ c ∧ c ≤ 57) := by simp [dig]

/-- does the byte c stand at place i of the text? -/
def isAt (f : Nat → Int) (n i : Nat) (c : Int) : Bool := decide (i < n) && (f i == c)

theorem isAt_in (f : Nat → Int) (n i : Nat) (c : Int) (h : i < n) : isAt f n i c = (f i == c) := by simp [isAt, h]
theorem isAt_out (f : Nat → Int) (n i : Nat) (c : Int) (h : ¬ i < n) : isAt f n i c = false := by simp [isAt, h]
theorem isAt_yes (f : Nat → Int) (n i : Nat) (c : Int) (h : isAt f n i c = true) : i < n ∧ f i = c := by simpa [isAt] using h
theorem isAt_no (f : Nat → Int) (n i : Nat) (c : Int) (h : isAt f n i c = false) : ¬ (i < n ∧ f i = c) := by
  intro hc; rw [isAt_in f n i c hc.1] at h; simp [hc.2] at h

/-- one of two bytes -/
def isAt2 (f : Nat → Int) (n i : Nat) (c d : Int) : Bool := decide (i < n) && ((f i == c) || (f i == d))

theorem isAt2_out (f : Nat → Int) (n i : Nat) (c d : Int) (h : ¬ i < n) : isAt2 f n i c d = false := by simp [isAt2, h]
theorem isAt2_fst (f : Nat → Int) (n i : Nat) (c d : Int) (h : i < n) (hc : (f i == c) = true) : isAt2 f n i c d = true := by simp [isAt2, h, hc]
theorem isAt2_snd (f : Nat → Int) (n i : Nat) (c d : Int) (h : i < n) (hc : (f i == c) = false) : isAt2 f n i c d = (f i == d) := by simp [isAt2, h, hc]
theorem isAt2_yes (f : Nat → Int) (n i : Nat) (c d : Int) (h : isAt2 f n i c d = true) : i < n ∧ (f i = c ∨ f i = d) := by simpa [isAt2] using h
theorem isAt2_no (f : Nat → Int) (n i : Nat) (c d : Int) (h : isAt2 f n i c d = false) : ¬ (i < n ∧ (f i = c ∨ f i = d)) := by
  intro hc; rw [isAt2] at h; simp [hc.1] at h; omega

/-- past the digits from i on, at most k of them -/
def dScan (f : Nat → Int) (n : Nat) : Nat → Nat → Nat
  | 0, i => i
  | k + 1, i => if decide (i < n) && dig (f i) then dScan f n k (i + 1) else i

def dTo (f : Nat → Int) (n i : Nat) : Nat := dScan f n (n - i) i

theorem dTo_yes (f : Nat → Int) (n i : Nat) (h : i < n) (hd : dig (f i) = true) : dTo f n i = dTo f n (i + 1) := by
  unfold dTo
  have e : n - i = (n - (i + 1)) + 1 := by omega
  rw [e, dScan]
  simp [h, hd]

theorem dTo_no (f : Nat → Int) (n i : Nat) (h : i < n → dig (f i) = false) : dTo f n i = i := by
  unfold dTo
  cases e : n - i with
  | zero => rfl
  | succ m => rw [dScan]; simp [h (by omega)]

theorem dTo_ge (f : Nat → Int) (n i : Nat) : i ≤ dTo f n i := by
  unfold dTo
  generalize n - i = k
  induction k generalizing i with
  | zero => exact Nat.le_refl _
  | succ k ih =>
    rw [dScan]; split
    · exact Nat.le_trans (Nat.le_succ _) (ih (i + 1))
    · exact Nat.le_refl _

theorem dTo_le (f : Nat → Int) (n i : Nat) (h : i ≤ n) : dTo f n i ≤ n := by
  unfold dTo
  generalize n - i = k
  induction k generalizing i with
  | zero => exact h
  | succ k ih =>
    rw [dScan]; split
    · rename_i hc; simp at hc; exact ih (i + 1) hc.1
    · exact h

/-- digitsEnd -/
def dEnd (f : Nat → Int) (n i : Nat) : Int := if dTo f n i = i then -1 else (dTo f n i : Int)

/-- past an optional minus -/
def sgn (f : Nat → Int) (i : Nat) : Nat := if f i = 45 then i + 1 else i

def intP (f : Nat → Int) (n i : Nat) : Int :=
  if i < n ∧ f i = 48 then (i : Int) + 1 else if i < n ∧ dig (f i) = true then dEnd f n i else -1

def fracP (f : Nat → Int) (n i : Nat) : Int := if i < n ∧ f i = 46 then dEnd f n (i + 1) else i

def esgn (f : Nat → Int) (n i : Nat) : Nat := if i < n ∧ (f i = 43 ∨ f i = 45) then i + 1 else i

def expP (f : Nat → Int) (n i : Nat) : Int := if i < n ∧ (f i = 101 ∨ f i = 69) then dEnd f n (esgn f n (i + 1)) else i

/-- numberEnd -/
def nEnd (f : Nat → Int) (n i : Nat) : Int :=
  if intP f n (sgn f i) < 0 then -1
  else if fracP f n (intP f n (sgn f i)).toNat < 0 then -1
  else expP f n (fracP f n (intP f n (sgn f i)).toNat).toNat

/-! ### the automaton -/
def step (s : Int) (c : Int) : Int :=
  if s = 0 then (if c = 45 then 1 else if c = 48 then 2 else if dig c then 3 else -1)
  else if s = 1 then (if c = 48 then 2 else if dig c then 3 else -1)
  else if s = 2 then (if c = 46 then 4 else if c = 101 ∨ c = 69 then 6 else -1)
  else if s = 3 then (if dig c then 3 else if c = 46 then 4 else if c = 101 ∨ c = 69 then 6 else -1)
  else if s = 4 then (if dig c then 5 else -1)
  else if s = 5 then (if dig c then 5 else if c = 101 ∨ c = 69 then 6 else -1)
  else if s = 6 then (if c = 43 ∨ c = 45 then 7 else if dig c then 8 else -1)
  else if s = 7 then (if dig c then 8 else -1)
  else if s = 8 then (if dig c then 8 else -1)
  else -1

def acc (s : Int) : Bool := decide (s = 2) || decide (s = 3) || decide (s = 5) || decide (s = 8)

def machK (f : Nat → Int) (n : Nat) : Nat → Int → Nat → Int
  | 0, s, j => if acc s then j else -1
  | k + 1, s, j => if j < n then (if step s (f j) < 0 then (if acc s then (j : Int) else -1) else machK f n k (step s (f j)) (j + 1)) else (if acc s then (j : Int) else -1)

def mach (f : Nat → Int) (n : Nat) (s : Int) (j : Nat) : Int := machK f n (n - j) s j

theorem mach_end (f : Nat → Int) (n : Nat) (s : Int) (j : Nat) (h : n ≤ j) : mach f n s j = if acc s then (j : Int) else -1 := by
  unfold mach
  rw [show n - j = 0 by omega]; rfl

theorem mach_stop (f : Nat → Int) (n : Nat) (s : Int) (j : Nat) (h : j < n) (hs : step s (f j) < 0) : mach f n s j = if acc s then (j : Int) else -1 := by
  unfold mach
  rw [show n - j = (n - (j + 1)) + 1 by omega, machK, if_pos h, if_pos hs]

theorem mach_go (f : Nat → Int) (n : Nat) (s : Int) (j : Nat) (h : j < n) (hs : ¬ step s (f j) < 0) : mach f n s j = mach f n (step s (f j)) (j + 1) := by
  unfold mach
  rw [show n - j = (n - (j + 1)) + 1 by omega, machK, if_pos h, if_neg hs]

theorem mach8 (f : Nat → Int) (n j : Nat) : mach f n 8 j = (dTo f n j : Int) := by
  generalize hk : n - j = k
  induction k generalizing j with
  | zero => rw [mach_end f n 8 j (by omega), dTo_no f n j (by omega)]; rfl
  | succ k ih =>
    have hj : j < n := by omega
    cases hd : dig (f j) with
    | true =>
      have hs : step 8 (f j) = 8 := by simp [step, hd]
      rw [mach_go f n 8 j hj (by rw [hs]; omega), hs, ih (j + 1) (by omega), dTo_yes f n j hj hd]
    | false =>
      have hs : step 8 (f j) = -1 := by simp [step, hd]
      rw [mach_stop f n 8 j hj (by rw [hs]; omega), dTo_no f n j (fun _ => hd)]; rfl

/-- a state that wants a first digit (7; 6 behind the sign's test) -/
theorem dEnd_yes (f : Nat → Int) (n i : Nat) (h : i < n) (hd : dig (f i) = true) : dEnd f n i = (dTo f n (i + 1) : Int) := by
  unfold dEnd
  rw [dTo_yes f n i h hd, if_neg]
  have := dTo_ge f n (i + 1); omega

theorem dEnd_no (f : Nat → Int) (n i : Nat) (h : i < n → dig (f i) = false) : dEnd f n i = -1 := by
  unfold dEnd
  rw [dTo_no f n i h, if_pos rfl]

theorem mach7 (f : Nat → Int) (n j : Nat) : mach f n 7 j = dEnd f n j := by
  by_cases hj : j < n
  · cases hd : dig (f j) with
    | true =>
      have hs : step 7 (f j) = 8 := by simp [step, hd]
      rw [mach_go f n 7 j hj (by rw [hs]; omega), hs, mach8, dEnd_yes f n j hj hd]
    | false =>
      have hs : step 7 (f j) = -1 := by simp [step, hd]
      rw [mach_stop f n 7 j hj (by rw [hs]; omega), dEnd_no f n j (fun _ => hd)]; rfl
  · rw [mach_end f n 7 j (by omega), dEnd_no f n j (fun h => absurd h hj)]; rfl

theorem mach6 (f : Nat → Int) (n j : Nat) : mach f n 6 j = dEnd f n (esgn f n j) := by
  by_cases hj : j < n
  · by_cases hc : f j = 43 ∨ f j = 45
    · have hs : step 6 (f j) = 7 := by simp [step, hc]
      rw [mach_go f n 6 j hj (by rw [hs]; omega), hs, mach7]
      simp [esgn, hj, hc]
    · have he : esgn f n j = j := by simp [esgn, hc]
      rw [he]
      cases hd : dig (f j) with
      | true =>
        have hs : step 6 (f j) = 8 := by simp [step, hd, hc]
        rw [mach_go f n 6 j hj (by rw [hs]; omega), hs, mach8, dEnd_yes f n j hj hd]
      | false =>
        have hs : step 6 (f j) = -1 := by simp [step, hd, hc]
        rw [mach_stop f n 6 j hj (by rw [hs]; omega), dEnd_no f n j (fun _ => hd)]; rfl
  · rw [mach_end f n 6 j (by omega), dEnd_no f n _ (fun h => by simp [esgn, hj] at h)]; rfl

/-- a place from which an exponent may follow: 'e' or the end -/
theorem dig_not_e (c : Int) (h : dig c = true) : ¬ (c = 101 ∨ c = 69) := by
  rw [dig_iff] at h; omega

theorem mach5 (f : Nat → Int) (n j : Nat) : mach f n 5 j = expP f n (dTo f n j) := by
  generalize hk : n - j = k
  induction k generalizing j with
  | zero =>
    rw [mach_end f n 5 j (by omega), dTo_no f n j (by omega)]
    simp [acc, expP, show ¬ j < n by omega]
  | succ k ih =>
    have hj : j < n := by omega
    cases hd : dig (f j) with
    | true =>
      have hs : step 5 (f j) = 5 := by simp [step, hd]
      rw [mach_go f n 5 j hj (by rw [hs]; omega), hs, ih (j + 1) (by omega), dTo_yes f n j hj hd]
    | false =>
      rw [dTo_no f n j (fun _ => hd)]
      by_cases he : f j = 101 ∨ f j = 69
      · have hs : step 5 (f j) = 6 := by simp [step, hd, he]
        rw [mach_go f n 5 j hj (by rw [hs]; omega), hs, mach6]
        simp [expP, hj, he]
      · have hs : step 5 (f j) = -1 := by simp [step, hd, he]
        rw [mach_stop f n 5 j hj (by rw [hs]; omega)]
        simp [expP, he, acc]

/-- from the point on -/
theorem mach4 (f : Nat → Int) (n j : Nat) : mach f n 4 j = if dEnd f n j < 0 then -1 else expP f n (dEnd f n j).toNat := by
  by_cases hj : j < n
  · cases hd : dig (f j) with
    | true =>
      have hs : step 4 (f j) = 5 := by simp [step, hd]
      rw [mach_go f n 4 j hj (by rw [hs]; omega), hs, mach5, dEnd_yes f n j hj hd, if_neg (by omega), Int.toNat_natCast]
    | false =>
      have hs : step 4 (f j) = -1 := by simp [step, hd]
      rw [mach_stop f n 4 j hj (by rw [hs]; omega), dEnd_no f n j (fun _ => hd)]; rfl
  · rw [mach_end f n 4 j (by omega), dEnd_no f n j (fun h => absurd h hj)]; rfl

/-- what follows the integer digits -/
def rest (f : Nat → Int) (n j : Nat) : Int := if fracP f n j < 0 then -1 else expP f n (fracP f n j).toNat

theorem rest_dot (f : Nat → Int) (n j : Nat) (hj : j < n) (h : f j = 46) : rest f n j = if dEnd f n (j + 1) < 0 then -1 else expP f n (dEnd f n (j + 1)).toNat := by
  simp [rest, fracP, hj, h]

theorem rest_e (f : Nat → Int) (n j : Nat) (h : ¬ (j < n ∧ f j = 46)) : rest f n j = expP f n j := by
  simp only [rest, fracP, if_neg h]
  rw [if_neg (by omega), Int.toNat_natCast]

theorem mach2 (f : Nat → Int) (n j : Nat) : mach f n 2 j = rest f n j := by
  by_cases hj : j < n
  · by_cases hp : f j = 46
    · have hs : step 2 (f j) = 4 := by simp [step, hp]
      rw [mach_go f n 2 j hj (by rw [hs]; omega), hs, mach4, rest_dot f n j hj hp]
    · rw [rest_e f n j (fun h => hp h.2)]
      by_cases he : f j = 101 ∨ f j = 69
      · have hs : step 2 (f j) = 6 := by simp [step, hp, he]
        rw [mach_go f n 2 j hj (by rw [hs]; omega), hs, mach6]
        simp [expP, hj, he]
      · have hs : step 2 (f j) = -1 := by simp [step, hp, he]
        rw [mach_stop f n 2 j hj (by rw [hs]; omega)]
        simp [expP, he, acc]
  · rw [mach_end f n 2 j (by omega), rest_e f n j (fun h => hj h.1)]
    simp [expP, hj, acc]

theorem dig_not_dot (c : Int) (h : dig c = true) : c ≠ 46 := by
  rw [dig_iff] at h; omega

theorem mach3 (f : Nat → Int) (n j : Nat) : mach f n 3 j = rest f n (dTo f n j) := by
  generalize hk : n - j = k
  induction k generalizing j with
  | zero =>
    rw [mach_end f n 3 j (by omega), dTo_no f n j (by omega), rest_e f n j (fun h => by omega)]
    simp [acc, expP, show ¬ j < n by omega]
  | succ k ih =>
    have hj : j < n := by omega
    cases hd : dig (f j) with
    | true =>
      have hs : step 3 (f j) = 3 := by simp [step, hd]
      rw [mach_go f n 3 j hj (by rw [hs]; omega), hs, ih (j + 1) (by omega), dTo_yes f n j hj hd]
    | false =>
      rw [dTo_no f n j (fun _ => hd)]
      by_cases hp : f j = 46
      · have hs : step 3 (f j) = 4 := by rw [hp]; rfl
        rw [mach_go f n 3 j hj (by rw [hs]; omega), hs, mach4, rest_dot f n j hj hp]
      · rw [rest_e f n j (fun h => hp h.2)]
        by_cases he : f j = 101 ∨ f j = 69
        · have hs : step 3 (f j) = 6 := by simp [step, hd, hp, he]
          rw [mach_go f n 3 j hj (by rw [hs]; omega), hs, mach6]
          simp [expP, hj, he]
        · have hs : step 3 (f j) = -1 := by simp [step, hd, hp, he]
          rw [mach_stop f n 3 j hj (by rw [hs]; omega)]
          simp [expP, he, acc]

/-- behind the optional minus -/
def body (f : Nat → Int) (n i : Nat) : Int := if intP f n i < 0 then -1 else rest f n (intP f n i).toNat

theorem body_zero (f : Nat → Int) (n i : Nat) (hi : i < n) (h : f i = 48) : body f n i = rest f n (i + 1) := by
  have e : intP f n i = (i : Int) + 1 := by simp [intP, hi, h]
  rw [body, e, if_neg (by omega)]
  congr 1

theorem body_dig (f : Nat → Int) (n i : Nat) (hi : i < n) (h : f i ≠ 48) (hd : dig (f i) = true) : body f n i = rest f n (dTo f n (i + 1)) := by
  have e : intP f n i = (dTo f n (i + 1) : Int) := by simp [intP, hi, h, hd, dEnd_yes f n i hi hd]
  rw [body, e, if_neg (by omega), Int.toNat_natCast]

theorem body_none (f : Nat → Int) (n i : Nat) (h : i < n → f i ≠ 48 ∧ dig (f i) = false) : body f n i = -1 := by
  have e : intP f n i = -1 := by
    unfold intP
    rw [if_neg (fun c => (h c.1).1 c.2), if_neg (fun c => by have := (h c.1).2; rw [this] at c; simp at c)]
  rw [body, e]; rfl

theorem mach1 (f : Nat → Int) (n j : Nat) : mach f n 1 j = body f n j := by
  by_cases hj : j < n
  · by_cases h0 : f j = 48
    · have hs : step 1 (f j) = 2 := by simp [step, h0]
      rw [mach_go f n 1 j hj (by rw [hs]; omega), hs, mach2, body_zero f n j hj h0]
    · cases hd : dig (f j) with
      | true =>
        have hs : step 1 (f j) = 3 := by simp [step, h0, hd]
        rw [mach_go f n 1 j hj (by rw [hs]; omega), hs, mach3, body_dig f n j hj h0 hd]
      | false =>
        have hs : step 1 (f j) = -1 := by simp [step, h0, hd]
        rw [mach_stop f n 1 j hj (by rw [hs]; omega), body_none f n j (fun _ => ⟨h0, hd⟩)]; rfl
  · rw [mach_end f n 1 j (by omega), body_none f n j (fun h => absurd h hj)]; rfl

theorem nEnd_body (f : Nat → Int) (n i : Nat) : nEnd f n i = body f n (sgn f i) := rfl

/-- THE PLAIN LAW OF THE FIRST STATEMENT: numberEnd gives what the automaton gives. -/
theorem mach_eq (f : Nat → Int) (n i : Nat) (hi : i < n) : nEnd f n i = mach f n 0 i := by
  rw [nEnd_body]
  by_cases hm : f i = 45
  · have hs : step 0 (f i) = 1 := by simp [step, hm]
    rw [mach_go f n 0 i hi (by rw [hs]; omega), hs, mach1]
    simp [sgn, hm]
  · have e : sgn f i = i := by simp [sgn, hm]
    rw [e, ← mach1]
    by_cases h0 : step 1 (f i) < 0
    · have h1 : step 0 (f i) = step 1 (f i) := by simp [step, hm]
      rw [mach_stop f n 1 i hi h0, mach_stop f n 0 i hi (by rw [h1]; exact h0)]; rfl
    · have h1 : step 0 (f i) = step 1 (f i) := by simp [step, hm]
      rw [mach_go f n 1 i hi h0, mach_go f n 0 i hi (by rw [h1]; exact h0), h1]

/-! ### cutting the text just behind the number -/
theorem dTo_cut (f : Nat → Int) (n i : Nat) : ∀ m, dTo f n i ≤ m → m ≤ n → dTo f m i = dTo f n i := by
  generalize hk : n - i = k
  induction k generalizing i with
  | zero =>
    intro m _ h2
    rw [dTo_no f n i (by omega), dTo_no f m i (by omega)]
  | succ k ih =>
    intro m h1 h2
    have hj : i < n := by omega
    cases hd : dig (f i) with
    | true =>
      rw [dTo_yes f n i hj hd] at h1 ⊢
      have := dTo_ge f n (i + 1)
      rw [dTo_yes f m i (by omega) hd]
      exact ih (i + 1) (by omega) m h1 h2
    | false => rw [dTo_no f n i (fun _ => hd), dTo_no f m i (fun _ => hd)]

theorem dEnd_cut (f : Nat → Int) (n i m : Nat) (h1 : dEnd f n i ≠ -1) (h2 : dEnd f n i ≤ m) (h3 : m ≤ n) : dEnd f m i = dEnd f n i := by
  unfold dEnd at h1 h2 ⊢
  split at h1
  · exact absurd rfl h1
  · rename_i hne
    rw [if_neg hne] at h2 ⊢
    have e := dTo_cut f n i m (by omega) h3
    rw [e, if_neg hne]

theorem dEnd_range (f : Nat → Int) (n i : Nat) (h : dEnd f n i ≠ -1) : (i : Int) < dEnd f n i ∧ dEnd f n i ≤ n := by
  unfold dEnd at h ⊢
  split at h
  · exact absurd rfl h
  · rename_i hne
    rw [if_neg hne]
    have a := dTo_ge f n i
    have hi : i < n := by
      apply Classical.byContradiction
      intro hc
      exact hne (dTo_no f n i (fun h => absurd h hc))
    have b := dTo_le f n i (by omega)
    omega

theorem dEnd_neg (f : Nat → Int) (n i : Nat) (h : dEnd f n i < 0) : dEnd f n i = -1 := by
  unfold dEnd at h ⊢
  split at h
  · rename_i e; rw [if_pos e]
  · omega

/-- the exponent's part: its end lies at i or behind; cut there it is the same -/
theorem expP_range (f : Nat → Int) (n i : Nat) (hi : i ≤ n) (h : expP f n i ≠ -1) : (i : Int) ≤ expP f n i ∧ expP f n i ≤ n := by
  unfold expP at h ⊢
  split at h
  · rename_i hc
    rw [if_pos hc]
    have := dEnd_range f n _ h
    have : i + 1 ≤ esgn f n (i + 1) := by unfold esgn; split <;> omega
    omega
  · rename_i hc; rw [if_neg hc]; omega

theorem expP_cut (f : Nat → Int) (n i m : Nat) (h1 : expP f n i ≠ -1) (h2 : expP f n i ≤ m) (hle : m ≤ n) (hm : expP f n i = m) : expP f m i = expP f n i := by
  by_cases hc : i < n ∧ (f i = 101 ∨ f i = 69)
  · have e : expP f n i = dEnd f n (esgn f n (i + 1)) := by unfold expP; rw [if_pos hc]
    rw [e] at h1 h2 hm ⊢
    have hr := dEnd_range f n _ h1
    have hge : i + 1 ≤ esgn f n (i + 1) := by unfold esgn; split <;> omega
    have hes : esgn f m (i + 1) = esgn f n (i + 1) := by
      unfold esgn
      by_cases hs : i + 1 < n ∧ (f (i + 1) = 43 ∨ f (i + 1) = 45)
      · have : esgn f n (i + 1) = i + 2 := by unfold esgn; rw [if_pos hs]
        rw [if_pos hs, if_pos ⟨by omega, hs.2⟩]
      · rw [if_neg hs, if_neg (fun c => hs ⟨by omega, c.2⟩)]
    have : expP f m i = dEnd f m (esgn f m (i + 1)) := by unfold expP; rw [if_pos ⟨by omega, hc.2⟩]
    rw [this, hes]
    exact dEnd_cut f n _ m h1 h2 hle
  · have e : expP f n i = i := by unfold expP; rw [if_neg hc]
    have : i = m := by omega
    subst this
    rw [e]
    unfold expP
    rw [if_neg (by omega)]

theorem rest_range (f : Nat → Int) (n i : Nat) (hi : i ≤ n) (h : rest f n i ≠ -1) : (i : Int) ≤ rest f n i ∧ rest f n i ≤ n := by
  by_cases hc : i < n ∧ f i = 46
  · rw [rest_dot f n i hc.1 hc.2] at h ⊢
    split at h
    · exact absurd rfl h
    · rename_i hn
      rw [if_neg hn]
      have hd := dEnd_range f n (i + 1) (by omega)
      have := expP_range f n (dEnd f n (i + 1)).toNat (by omega) h
      omega
  · rw [rest_e f n i hc] at h ⊢
    exact expP_range f n i hi h

theorem rest_cut (f : Nat → Int) (n i m : Nat) (hi : i ≤ n) (h : rest f n i ≠ -1) (hm : rest f n i = m) : rest f m i = rest f n i := by
  have hr := rest_range f n i hi h
  by_cases hc : i < n ∧ f i = 46
  · rw [rest_dot f n i hc.1 hc.2] at h hm hr ⊢
    split at h
    · exact absurd rfl h
    · rename_i hn
      rw [if_neg hn] at hm hr ⊢
      have hd := dEnd_range f n (i + 1) (by omega)
      have hx := expP_range f n (dEnd f n (i + 1)).toNat (by omega) h
      have hdc : dEnd f m (i + 1) = dEnd f n (i + 1) := dEnd_cut f n (i + 1) m (by omega) (by omega) (by omega)
      rw [rest_dot f m i (by omega) hc.2, hdc, if_neg hn]
      exact expP_cut f n _ m h (by omega) (by omega) hm
  · rw [rest_e f n i hc] at h hm hr ⊢
    rw [rest_e f m i (fun c => hc ⟨by omega, c.2⟩)]
    exact expP_cut f n i m h (by omega) (by omega) hm

theorem body_cut (f : Nat → Int) (n i m : Nat) (h : body f n i ≠ -1) (hm : body f n i = m) : body f m i = body f n i ∧ (i : Int) < body f n i ∧ body f n i ≤ n := by
  by_cases hi : i < n
  · by_cases h0 : f i = 48
    · rw [body_zero f n i hi h0] at h hm ⊢
      have hr := rest_range f n (i + 1) (by omega) h
      rw [body_zero f m i (by omega) h0, rest_cut f n (i + 1) m (by omega) h hm]
      exact ⟨rfl, by omega, by omega⟩
    · cases hd : dig (f i) with
      | true =>
        rw [body_dig f n i hi h0 hd] at h hm ⊢
        have hge := dTo_ge f n (i + 1)
        have hle := dTo_le f n (i + 1) (by omega)
        have hr := rest_range f n (dTo f n (i + 1)) hle h
        rw [body_dig f m i (by omega) h0 hd, dTo_cut f n (i + 1) m (by omega) (by omega), rest_cut f n _ m hle h hm]
        exact ⟨rfl, by omega, by omega⟩
      | false => exact absurd (body_none f n i (fun _ => ⟨h0, hd⟩)) h
  · exact absurd (body_none f n i (fun h => absurd h hi)) h

/-- THE PLAIN LAW OF THE SECOND STATEMENT: where there is a number from i to r, it is not empty, it lies in the text, and it ends at r in the text that is cut there too. -/
theorem nEnd_cut (f : Nat → Int) (n i m : Nat) (h : nEnd f n i ≠ -1) (hm : nEnd f n i = m) : nEnd f m i = nEnd f n i ∧ (i : Int) < nEnd f n i ∧ nEnd f n i ≤ n := by
  rw [nEnd_body] at h hm ⊢
  obtain ⟨a, b, c⟩ := body_cut f n (sgn f i) m h hm
  rw [nEnd_body]
  refine ⟨a, ?_, c⟩
  have : i ≤ sgn f i := by unfold sgn; split <;> omega
  omega

theorem nEnd_lo (f : Nat → Int) (n i : Nat) (hi : i < n) : nEnd f n i = -1 ∨ (0 ≤ nEnd f n i ∧ nEnd f n i ≤ n) := by
  by_cases h : nEnd f n i = -1
  · exact .inl h
  · right
    rw [nEnd_body] at h ⊢
    have hs : sgn f i ≤ n := by unfold sgn; split <;> omega
    by_cases hb : sgn f i < n
    · by_cases h0 : f (sgn f i) = 48
      · rw [body_zero f n _ hb h0] at h ⊢
        have := rest_range f n (sgn f i + 1) (by omega) h
        omega
      · cases hd : dig (f (sgn f i)) with
        | true =>
          rw [body_dig f n _ hb h0 hd] at h ⊢
          have := rest_range f n _ (dTo_le f n (sgn f i + 1) (by omega)) h
          omega
        | false => exact absurd (body_none f n _ (fun _ => ⟨h0, hd⟩)) h
    · exact absurd (body_none f n _ (fun c => absurd c hb)) h

end Go.Proofs.Qxb6603263a.Plain
