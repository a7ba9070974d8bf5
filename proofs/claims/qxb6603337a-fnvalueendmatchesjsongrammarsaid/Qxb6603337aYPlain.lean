/-
  THE PLAIN LAW of the lines of a YAML text: what the runes say is what the bytes say. No Go in sight, but for the model's reading of a rune.
-/
import GoSem.Core.Utf8
namespace Go.Proofs.Qxb6603337a

/-- byte k of s -/
def bt (s : ByteArray) (k : Nat) : Nat := (s.get! k).toNat
theorem bt_lt (s : ByteArray) (k : Nat) : bt s k < 256 := (s.get! k).toNat_lt

/-- a break other than the line feed begins at byte i -/
def brk (F : Nat → Nat) (n i : Nat) : Bool :=
  if F i = 13 then decide (n ≤ i + 1) || decide (F (i + 1) ≠ 10)
  else if F i = 194 then decide (i + 1 < n) && decide (F (i + 1) = 133)
  else if F i = 226 then decide (i + 2 < n) && decide (F (i + 1) = 128) && (decide (F (i + 2) = 168) || decide (F (i + 2) = 169))
  else false

def endsTo (F : Nat → Nat) : Nat → List Int
  | 0 => []
  | k + 1 => endsTo F k ++ if F k = 10 then [((k + 1 : Nat) : Int)] else []
def lfTo (F : Nat → Nat) : Nat → Nat
  | 0 => 0
  | k + 1 => lfTo F k + if F k = 10 then 1 else 0
def partTo (F : Nat → Nat) (n : Nat) : Nat → List Int
  | 0 => []
  | k + 1 => partTo F n k ++ if brk F n k then [((2 + lfTo F k + (partTo F n k).length : Nat) : Int)] else []
def lastEnd (F : Nat → Nat) (n : Nat) : List Int := if n = 0 ∨ F (n - 1) ≠ 10 then [(n : Int)] else []
def endsAll (F : Nat → Nat) (n : Nat) : List Int := endsTo F n ++ lastEnd F n

/-- what the reading of one rune tells -/
structure Rune (F : Nat → Nat) (n p c wd : Nat) : Prop where
  pos : 1 ≤ wd
  le : p + wd ≤ n
  cont : ∀ j, 1 ≤ j → j < wd → 128 ≤ F (p + j) ∧ F (p + j) < 192
  lf : c = 10 ↔ F p = 10
  cr : c = 13 ↔ F p = 13
  nel : c = 133 ↔ F p = 194 ∧ p + 1 < n ∧ F (p + 1) = 133
  ls : (c = 8232 ↔ F p = 226 ∧ p + 2 < n ∧ F (p + 1) = 128 ∧ F (p + 2) = 168)
  ps : (c = 8233 ↔ F p = 226 ∧ p + 2 < n ∧ F (p + 1) = 128 ∧ F (p + 2) = 169)
  small : c ≤ 1114111

theorem rune_of (s : ByteArray) (p : Nat) (hp : p < s.size) : Rune (bt s) s.size p (Utf8.decode s p).1 (Utf8.decode s p).2 := by
  have l0 := bt_lt s p
  have l1 := bt_lt s (p + 1)
  have l2 := bt_lt s (p + 2)
  have l3 := bt_lt s (p + 3)
  have e0 : (s.get! (p + 0)).toNat = bt s p := rfl
  have e1 : (s.get! (p + 1)).toNat = bt s (p + 1) := rfl
  have e2 : (s.get! (p + 2)).toNat = bt s (p + 2) := rfl
  have e3 : (s.get! (p + 3)).toNat = bt s (p + 3) := rfl
  unfold Utf8.decode
  simp only [e0, e1, e2, e3, Utf8.runeError]
  split
  · rename_i h
    refine ⟨by simp, by simp; omega, fun j h1 h2 => by simp at h2; omega, by simp, by simp, ?_, ?_, ?_, ?_⟩ <;> simp <;> omega
  · rename_i h
    split
    · rename_i h2
      simp only [Bool.and_eq_true, beq_iff_eq, decide_eq_true_eq] at h2
      obtain ⟨h21, h22, h23⟩ := h2
      split
      · rename_i h3
        refine ⟨by simp, by simp; omega, fun j j1 j2 => ?_, ?_, ?_, ?_, ?_, ?_, ?_⟩
        · obtain rfl : j = 1 := by simp at j2; omega
          omega
        all_goals (simp only; omega)
      · rename_i h3
        refine ⟨by simp, by simp; omega, fun j h1 h2 => by simp at h2; omega, ?_, ?_, ?_, ?_, ?_, ?_⟩
        all_goals (simp only; omega)
    · rename_i h2
      simp only [Bool.and_eq_true, beq_iff_eq, decide_eq_true_eq, not_and] at h2
      split
      · rename_i h3
        simp only [Bool.and_eq_true, beq_iff_eq, decide_eq_true_eq] at h3
        obtain ⟨⟨h31, h32, h33⟩, h34, h35⟩ := h3
        split
        · rename_i h4
          simp only [Bool.and_eq_true, decide_eq_true_eq, Utf8.valid, Bool.or_eq_true] at h4
          refine ⟨by simp, by simp; omega, fun j j1 j2 => ?_, ?_, ?_, ?_, ?_, ?_, ?_⟩
          · simp at j2
            rcases (show j = 1 ∨ j = 2 by omega) with rfl | rfl <;> omega
          all_goals (simp only; omega)
        · rename_i h4
          simp only [Bool.and_eq_true, decide_eq_true_eq, Utf8.valid, Bool.or_eq_true, not_and, not_or] at h4
          refine ⟨by simp, by simp; omega, fun j h1 h2 => by simp at h2; omega, ?_, ?_, ?_, ?_, ?_, ?_⟩
          all_goals (simp only; omega)
      · rename_i h3
        simp only [Bool.and_eq_true, beq_iff_eq, decide_eq_true_eq, not_and] at h3
        split
        · rename_i h4
          simp only [Bool.and_eq_true, beq_iff_eq, decide_eq_true_eq] at h4
          obtain ⟨⟨⟨h41, h42, h43⟩, h44, h45⟩, h46, h47⟩ := h4
          split
          · rename_i h5
            simp only [Bool.and_eq_true, decide_eq_true_eq, Utf8.valid, Bool.or_eq_true] at h5
            refine ⟨by simp, by simp; omega, fun j j1 j2 => ?_, ?_, ?_, ?_, ?_, ?_, ?_⟩
            · simp at j2
              rcases (show j = 1 ∨ j = 2 ∨ j = 3 by omega) with rfl | rfl | rfl <;> omega
            all_goals (simp only; omega)
          · refine ⟨by simp, by simp; omega, fun j h1 h2 => by simp at h2; omega, ?_, ?_, ?_, ?_, ?_, ?_⟩
            all_goals (simp only; omega)
        · refine ⟨by simp, by simp; omega, fun j h1 h2 => by simp at h2; omega, ?_, ?_, ?_, ?_, ?_, ?_⟩
          all_goals (simp only; omega)

theorem cont_none {F : Nat → Nat} {n i : Nat} (h : 128 ≤ F i ∧ F i < 192) : F i ≠ 10 ∧ brk F n i = false := by
  refine ⟨by omega, ?_⟩
  unfold brk
  rw [if_neg (by omega), if_neg (by omega), if_neg (by omega)]

theorem endsTo_succ (F : Nat → Nat) (k : Nat) : endsTo F (k + 1) = endsTo F k ++ if F k = 10 then [((k + 1 : Nat) : Int)] else [] := rfl
theorem lfTo_succ (F : Nat → Nat) (k : Nat) : lfTo F (k + 1) = lfTo F k + if F k = 10 then 1 else 0 := rfl
theorem partTo_succ (F : Nat → Nat) (n k : Nat) : partTo F n (k + 1) = partTo F n k ++ if brk F n k then [((2 + lfTo F k + (partTo F n k).length : Nat) : Int)] else [] := rfl
theorem skip {F : Nat → Nat} {n q : Nat} : ∀ j, (∀ m, m < j → 128 ≤ F (q + m) ∧ F (q + m) < 192) → endsTo F (q + j) = endsTo F q ∧ lfTo F (q + j) = lfTo F q ∧ partTo F n (q + j) = partTo F n q := by
  intro j
  induction j with
  | zero => intro _; exact ⟨rfl, rfl, rfl⟩
  | succ j ih =>
    intro h
    obtain ⟨i1, i2, i3⟩ := ih (fun m hm => h m (by omega))
    obtain ⟨c1, c2⟩ := cont_none (n := n) (h j (by omega))
    refine ⟨?_, ?_, ?_⟩
    · rw [show q + (j + 1) = (q + j) + 1 from rfl, endsTo_succ, if_neg c1, i1, List.append_nil]
    · rw [show q + (j + 1) = (q + j) + 1 from rfl, lfTo_succ, if_neg c1, i2, Nat.add_zero]
    · rw [show q + (j + 1) = (q + j) + 1 from rfl, partTo_succ, c2, i3]; simp

theorem brk_rune {F : Nat → Nat} {n p c wd : Nat} (R : Rune F n p c wd) : brk F n p = true ↔ (c = 13 ∧ ¬ (p + 1 < n ∧ F (p + 1) = 10)) ∨ c = 133 ∨ c = 8232 ∨ c = 8233 := by
  have h1 := R.cr
  have h2 := R.nel
  have h3 := R.ls
  have h4 := R.ps
  unfold brk
  split
  · rename_i hF
    have hc := h1.2 hF
    simp only [Bool.or_eq_true, decide_eq_true_eq]
    constructor
    · intro h; exact .inl ⟨hc, fun ⟨q1, q2⟩ => by rcases h with h | h <;> omega⟩
    · rintro (⟨_, h⟩ | h | h | h)
      · by_cases q : n ≤ p + 1
        · exact .inl q
        · exact .inr fun e => h ⟨by omega, e⟩
      · omega
      · omega
      · omega
  · rename_i hF
    split
    · rename_i hG
      simp only [Bool.and_eq_true, decide_eq_true_eq]
      constructor
      · rintro ⟨q1, q2⟩; exact .inr (.inl (h2.2 ⟨hG, q1, q2⟩))
      · rintro (⟨h, _⟩ | h | h | h)
        · exact absurd (h1.1 h) hF
        · exact (h2.1 h).2
        · have := (h3.1 h).1; omega
        · have := (h4.1 h).1; omega
    · rename_i hG
      split
      · rename_i hH
        simp only [Bool.and_eq_true, Bool.or_eq_true, decide_eq_true_eq]
        constructor
        · rintro ⟨⟨q1, q2⟩, q3 | q3⟩
          · exact .inr (.inr (.inl (h3.2 ⟨hH, q1, q2, q3⟩)))
          · exact .inr (.inr (.inr (h4.2 ⟨hH, q1, q2, q3⟩)))
        · rintro (⟨h, _⟩ | h | h | h)
          · exact absurd (h1.1 h) hF
          · exact absurd (h2.1 h).1 hG
          · obtain ⟨_, q1, q2, q3⟩ := h3.1 h; exact ⟨⟨q1, q2⟩, .inl q3⟩
          · obtain ⟨_, q1, q2, q3⟩ := h4.1 h; exact ⟨⟨q1, q2⟩, .inr q3⟩
      · rename_i hH
        constructor
        · intro h; cases h
        · rintro (⟨h, _⟩ | h | h | h)
          · exact absurd (h1.1 h) hF
          · exact absurd (h2.1 h).1 hG
          · exact absurd (h3.1 h).1 hH
          · exact absurd (h4.1 h).1 hH

/-- one rune on -/
theorem step {F : Nat → Nat} {n p c wd : Nat} (R : Rune F n p c wd) :
    endsTo F (p + wd) = endsTo F p ++ (if c = 10 then [((p + 1 : Nat) : Int)] else []) ∧ lfTo F (p + wd) = lfTo F p + (if c = 10 then 1 else 0) ∧
      partTo F n (p + wd) = partTo F n p ++ (if brk F n p then [((2 + lfTo F p + (partTo F n p).length : Nat) : Int)] else []) := by
  obtain ⟨h1, h2, h3⟩ := skip (F := F) (n := n) (q := p + 1) (wd - 1) (fun m hm => by
    have := R.cont (m + 1) (by omega) (by have := R.pos; omega)
    rwa [show p + (m + 1) = p + 1 + m by omega] at this)
  have e : p + 1 + (wd - 1) = p + wd := by have := R.pos; omega
  rw [e] at h1 h2 h3
  rw [h1, h2, h3]
  have hl := R.lf
  refine ⟨?_, ?_, rfl⟩
  · show endsTo F p ++ _ = _
    by_cases hc : c = 10
    · rw [if_pos hc, if_pos (hl.1 hc)]
    · rw [if_neg hc, if_neg (fun h => hc (hl.2 h))]
  · show lfTo F p + _ = _
    by_cases hc : c = 10
    · rw [if_pos hc, if_pos (hl.1 hc)]
    · rw [if_neg hc, if_neg (fun h => hc (hl.2 h))]

theorem endsTo_le (F : Nat → Nat) : ∀ k, ∀ x ∈ endsTo F k, x ≤ (k : Int) := by
  intro k
  induction k with
  | zero => intro x hx; cases hx
  | succ k ih =>
    intro x hx
    rcases List.mem_append.1 hx with h | h
    · have := ih x h; omega
    · split at h
      · simp only [List.mem_singleton] at h; omega
      · cases h
theorem endsTo_len (F : Nat → Nat) : ∀ k, (endsTo F k).length ≤ k := by
  intro k
  induction k with
  | zero => simp [endsTo]
  | succ k ih => simp only [endsTo, List.length_append]; split <;> simp <;> omega
theorem lfTo_le (F : Nat → Nat) : ∀ k, lfTo F k ≤ k := by
  intro k
  induction k with
  | zero => simp [lfTo]
  | succ k ih => simp only [lfTo]; split <;> omega
theorem partTo_len (F : Nat → Nat) (n : Nat) : ∀ k, (partTo F n k).length ≤ k := by
  intro k
  induction k with
  | zero => simp [partTo]
  | succ k ih => simp only [partTo, List.length_append]; split <;> simp <;> omega

/-- whether the last line still wants its end -/
theorem ends_last (F : Nat → Nat) (n : Nat) : ((endsTo F n).length = 0 ∨ (endsTo F n).getD ((endsTo F n).length - 1) 0 < (n : Int)) ↔ (n = 0 ∨ F (n - 1) ≠ 10) := by
  cases n with
  | zero => simp [endsTo]
  | succ k =>
    by_cases h : F k = 10
    · have e : endsTo F (k + 1) = endsTo F k ++ [((k + 1 : Nat) : Int)] := by simp [endsTo, h]
      rw [e]
      simp [h]
    · have e : endsTo F (k + 1) = endsTo F k := by simp [endsTo, h]
      rw [e]
      constructor
      · intro _; exact .inr (by simpa using h)
      · intro _
        rcases Nat.eq_zero_or_pos (endsTo F k).length with h0 | h0
        · exact .inl h0
        · refine .inr ?_
          have hm : (endsTo F k).getD ((endsTo F k).length - 1) 0 ∈ endsTo F k := by
            rw [List.getD_eq_getElem?_getD, List.getElem?_eq_getElem (show (endsTo F k).length - 1 < (endsTo F k).length by omega)]
            exact List.getElem_mem _
          have := endsTo_le F k _ hm
          omega
end Go.Proofs.Qxb6603337a
