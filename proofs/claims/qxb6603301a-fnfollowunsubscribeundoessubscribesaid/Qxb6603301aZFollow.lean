/-
  ZZFollow: ONE contract for all its ways.
-/
import Derived.Test.Qxb6603301aFollow2
namespace Go.Proofs.Qxb6603301a
open Go.RowKit Go.Maps
set_option linter.unusedVariables false

/-- THE ARRAY AT sb HOLDS THREE SETS, each in memory of its own -/
structure Sets (w : World) (sb : Nat) (mv : Nat → Value) (N : Nat) (D : Nat → DataW Unit) : Prop where
  arr : w.heap[sb]? = some (.cells (three mv) 42 (0, 0))
  set : ∀ j, j < 3 → SetIs w (mv j) N (D j)
  apart : ∀ i j b, i < 3 → j < 3 → i ≠ j → mv i = .map (some b) → mv j ≠ .map (some b)

theorem SetIs.keep {S : Nat → Prop} {w w' : World} {v : Value} {n : Nat} {D : DataW Unit} (h : SetIs w v n D) (hk : Keeps S w w') (hs : ∀ b, v = .map (some b) → ¬ S b) : SetIs w' v n D := by
  rcases h with h | ⟨b, rfl, hown⟩
  · exact .inl h
  · have hlt := hown.lt
    obtain ⟨es, clock, hb, r⟩ := hown
    exact .inr ⟨b, rfl, es, clock, (hk.block b hlt (hs b rfl)).trans hb, r⟩

theorem SetIs.ne_arr {w : World} {sb : Nat} {cs : Array Value} {t : TypeId} {fr : Nat × Nat} {v : Value} {n : Nat} {D : DataW Unit} (h : SetIs w v n D) (ha : w.heap[sb]? = some (.cells cs t fr)) : ∀ b, v = .map (some b) → b ≠ sb := by
  intro b hv e
  rcases h with ⟨h1, _⟩ | ⟨b', h1, hown⟩
  · rw [hv] at h1; cases h1
  · rw [hv] at h1; cases h1
    obtain ⟨es, clock, hb, _⟩ := hown
    rw [e, ha] at hb; cases hb

theorem SetIs.isMap {w : World} {v : Value} {n : Nat} {D : DataW Unit} (h : SetIs w v n D) : ∃ r, v = .map r := by
  rcases h with ⟨h1, _⟩ | ⟨b', h1, hown⟩
  · exact ⟨_, h1⟩
  · exact ⟨_, h1⟩

theorem Sets.later {w w' : World} {sb : Nat} {mv : Nat → Value} {N : Nat} {D : Nat → DataW Unit} (h : Sets w sb mv N D) (hb : Below w.heap.size w w') : Sets w' sb mv N D :=
  ⟨(hb.block _ (lt_of_block h.arr)).trans h.arr, fun j hj => (h.set j hj).later hb, h.apart⟩

/-- what an event does to a set -/
def nextD (ev : Int) (x : ByteArray) (D : DataW Unit) : DataW Unit := if ev = 1 then D.put (key x) (.agg []) else if ev = 2 then D.del (key x) else D

def isNil (v : Value) : Bool := match v with | .map none => true | _ => false

/-- what comes of a confirmation -/
def After (w w' : World) (sb : Nat) (mv : Nat → Value) (N : Nat) (D : Nat → DataW Unit) (F : Nat) (ev : Int) (x : ByteArray) : Prop :=
  ∃ mv', Sets w' sb mv' (N + 1) (fun j => if j = F then nextD ev x (D j) else D j) ∧ (∀ j, j < 3 → isNil (mv' j) = (isNil (mv j) && !(decide (ev = 1) && decide (j = F)))) ∧
    Keeps (fun b => b = sb ∨ ∃ j, j < 3 ∧ mv j = .map (some b)) w w' ∧ ∀ j b, j < 3 → mv' j = .map (some b) → mv j = .map (some b) ∨ w.heap.size ≤ b

theorem After.same {w w' : World} {sb : Nat} {mv : Nat → Value} {N : Nat} {D : Nat → DataW Unit} {F : Nat} {ev : Int} {x : ByteArray} (h : Sets w sb mv N D) (hb : Below w.heap.size w w') (hD : nextD ev x (D F) = D F)
    (hn : ev = 1 → isNil (mv F) = false) : After w w' sb mv N D F ev x := by
  refine ⟨mv, ⟨(h.later hb).arr, fun j hj => ?_, h.apart⟩, fun j hj => ?_, Keeps.of_below hb, fun j b _ h => .inl h⟩
  · have h1 := ((h.later hb).set j hj).mono (Nat.le_succ N)
    show SetIs w' (mv j) (N + 1) (if j = F then nextD ev x (D j) else D j)
    by_cases e : j = F
    · rw [if_pos e, e, hD, ← e]; exact h1
    · rw [if_neg e]; exact h1
  · by_cases e1 : ev = 1
    · by_cases e : j = F
      · subst e; rw [hn e1]; rfl
      · simp [e]
    · simp [e1]

/-- the way on which the family's own map is turned -/
theorem After.turned {w w' : World} {sb : Nat} {mv : Nat → Value} {N : Nat} {D : Nat → DataW Unit} {F b : Nat} {ev : Int} {x : ByteArray} (h : Sets w sb mv N D) (hF : F < 3) (hm : mv F = .map (some b)) (ha : w'.heap[sb]? = some (.cells (three mv) 42 (0, 0)))
    (hown : w'.ownsMap Try.prog 9 unitElem b (N + 1) (nextD ev x (D F))) (hk : Keeps (fun y => y = b) w w') : After w w' sb mv N D F ev x := by
  refine ⟨mv, ⟨ha, fun j hj => ?_, h.apart⟩, fun j hj => ?_, hk.mono (fun y _ hy => .inr ⟨F, hF, by rw [hy]; exact hm⟩), fun j b _ h => .inl h⟩
  · show SetIs w' (mv j) (N + 1) (if j = F then nextD ev x (D j) else D j)
    by_cases e : j = F
    · rw [if_pos e, e, hm]; exact .inr ⟨b, rfl, hown⟩
    · rw [if_neg e]
      exact ((h.set j hj).keep hk (fun c hc hcb => h.apart F j b hF hj (fun e' => e e'.symm) hm (by rw [hc, hcb]))).mono (Nat.le_succ N)
  · by_cases e : j = F
    · subst e; rw [hm]; simp [isNil]
    · simp [e]

/-- the way on which the family's map is made -/
theorem After.made {w w' : World} {sb : Nat} {mv : Nat → Value} {N : Nat} {D : Nat → DataW Unit} {F b : Nat} {x : ByteArray} (h : Sets w sb mv N D) (hF : F < 3) (hm : mv F = .map none) (hbw : w.heap.size ≤ b)
    (ha : w'.heap[sb]? = some (.cells (three (fun i => if i = F then .map (some b) else mv i)) 42 (0, 0))) (hown : w'.ownsMap Try.prog 9 unitElem b (N + 1) (nextD 1 x (D F))) (hk : Keeps (fun y => y = sb) w w') : After w w' sb mv N D F 1 x := by
  have hold : ∀ j c, j < 3 → mv j = .map (some c) → c < w.heap.size := by
    intro j c hj hc
    rcases h.set j hj with ⟨h1, _⟩ | ⟨b', h1, ho⟩
    · rw [hc] at h1; cases h1
    · rw [hc] at h1; cases h1; exact ho.lt
  refine ⟨fun i => if i = F then .map (some b) else mv i, ⟨ha, fun j hj => ?_, ?_⟩, fun j hj => ?_, hk.mono (fun y _ hy => .inl hy), ?_⟩
  · show SetIs w' (if j = F then .map (some b) else mv j) (N + 1) (if j = F then nextD 1 x (D j) else D j)
    by_cases e : j = F
    · rw [if_pos e, if_pos e, e]; exact .inr ⟨b, rfl, hown⟩
    · rw [if_neg e, if_neg e]
      exact ((h.set j hj).keep hk (fun c hc => (h.set j hj).ne_arr h.arr c hc)).mono (Nat.le_succ N)
  · intro i j c hi hj hij h1 h2
    replace h1 : (if i = F then Value.map (some b) else mv i) = .map (some c) := h1
    replace h2 : (if j = F then Value.map (some b) else mv j) = .map (some c) := h2
    by_cases ei : i = F
    · have ej : ¬ j = F := fun e => hij (ei.trans e.symm)
      rw [if_pos ei] at h1; rw [if_neg ej] at h2
      cases h1
      have := hold j _ hj h2; omega
    · rw [if_neg ei] at h1
      by_cases ej : j = F
      · rw [if_pos ej] at h2; cases h2
        have := hold i _ hi h1; omega
      · rw [if_neg ej] at h2; exact h.apart i j c hi hj hij h1 h2
  · by_cases e : j = F
    · simp [e, isNil]
    · simp [e]
  · intro j c hj h1
    replace h1 : (if j = F then Value.map (some b) else mv j) = .map (some c) := h1
    by_cases e : j = F
    · rw [if_pos e] at h1; cases h1; exact .inr hbw
    · rw [if_neg e] at h1; exact .inl h1

/-- 'follow' at a kind and two elements or more -/
theorem follow_act (w : World) (sb kb F N : Nat) (D : Nat → DataW Unit) (ev : Int) (nm : ByteArray) (mv : Nat → Value) (k m : Int) (sa : Option Addr) (sn sc : Nat) (va : Option Addr) (en vc : Nat) (E : Nat → El) (hen : 2 ≤ en) (hF : F < 3)
    (hS : Sets w sb mv N D) (hN : N ≤ 4194304) (hkb : w.heap[kb]? = some (.cells #[.string nm, .int .u8 F, .int .u8 ev] 67 (0, 0))) (hV : VsAt 0 w va en E) (hE : ElOk (E 1)) :
    Calls Try.prog 25 #[.pointer (some ⟨sb, 0, none⟩), .pointer (some ⟨kb, 0, none⟩), .agg #[.int .u8 k, .slice sa sn sc, .int .i64 m, .slice va en vc]] w fun e w' => e = .returned (.tuple #[]) ∧ After w w' sb mv N D F ev (elName (E 1)) := by
  by_cases e1 : ev = 1
  · subst e1
    rcases hS.set F hF with ⟨hm, hD⟩ | ⟨b, hm, hown⟩
    · refine (follow_sub_nil w sb kb F nm mv k m sa sn sc va en vc E hen hF hS.arr hkb hV hE hm (fun j hj => (hS.set j hj).isMap)).mono ?_
      rintro e w' ⟨rfl, b, hb, ha, hown, hk⟩
      exact ⟨rfl, After.made hS hF hm hb ha (by rw [hD]; exact hown.mono (by omega)) hk⟩
    · refine (follow_sub_some w sb kb F b N (D F) nm mv k m sa sn sc va en vc E hen hF hS.arr hkb hV hE hm hown hN).mono ?_
      rintro e w' ⟨rfl, ha, hown, hk⟩
      exact ⟨rfl, After.turned hS hF hm ha hown hk⟩
  · by_cases e2 : ev = 2
    · subst e2
      rcases hS.set F hF with ⟨hm, hD⟩ | ⟨b, hm, hown⟩
      · refine (follow_unsub_nil w sb kb F nm mv k m sa sn sc va en vc E hen hF hS.arr hkb hV hE hm).mono ?_
        rintro e w' ⟨rfl, hb⟩
        exact ⟨rfl, After.same hS hb (by rw [hD]; rfl) (fun h => by omega)⟩
      · refine (follow_unsub_some w sb kb F b N (D F) nm mv k m sa sn sc va en vc E hen hF hS.arr hkb hV hE hm hown hN).mono ?_
        rintro e w' ⟨rfl, ha, hown, hk⟩
        exact ⟨rfl, After.turned hS hF hm ha (hown.mono (Nat.le_succ N)) hk⟩
    · refine (follow_other w sb kb F ev nm mv k m sa sn sc va en vc hen hF e1 e2 hS.arr hkb).mono ?_
      rintro e w' ⟨rfl, hb⟩
      exact ⟨rfl, After.same hS hb (by simp [nextD, e1, e2]) (fun h => absurd h e1)⟩

/-- 'ZZFollow' at a kind and two elements or more -/
theorem zzfollow_act (w : World) (sb kb F N : Nat) (D : Nat → DataW Unit) (ev : Int) (nm : ByteArray) (mv : Nat → Value) (k m : Int) (sa : Option Addr) (sn sc : Nat) (va : Option Addr) (en vc : Nat) (E : Nat → El) (hen : 2 ≤ en) (hF : F < 3)
    (hS : Sets w sb mv N D) (hN : N ≤ 4194304) (hkb : w.heap[kb]? = some (.cells #[.string nm, .int .u8 F, .int .u8 ev] 67 (0, 0))) (hV : VsAt 0 w va en E) (hE : ElOk (E 1)) :
    Calls Try.prog 14 #[.pointer (some ⟨sb, 0, none⟩), .pointer (some ⟨kb, 0, none⟩), .agg #[.int .u8 k, .slice sa sn sc, .int .i64 m, .slice va en vc]] w fun e w' => e = .returned (.tuple #[]) ∧ After w w' sb mv N D F ev (elName (E 1)) := by
  have hb : ∀ o, Below w.heap.size w (w.alloc o) := fun o => (Below.refl _ _).alloc (Nat.le_refl _) _
  have H1 : Hid (Sets w sb mv N D) := hS
  have H2 : Hid (w.heap[kb]? = some (.cells #[.string nm, .int .u8 F, .int .u8 ev] 67 (0, 0))) := hkb
  have H3 : Hid (VsAt 0 w va en E) := hV
  clear hS hkb hV
  go_enter Try.func14, Try.ntmps14
  go_wp2_with fail
  refine (follow_act _ sb kb F N D ev nm mv k m sa sn sc va en vc E hen hF (H1.out.later (hb _)) hN (((hb _).block _ (lt_of_block H2.out)).trans H2.out) (H3.out.later (hb _)) hE).mono ?_
  rintro e w' ⟨rfl, mv', h1, h2, h3, h4⟩
  go_wp2_with fail
  go_end0
  refine ⟨rfl, mv', h1, h2, (Keeps.of_below (hb _)).trans h3, fun j b hj hx => ?_⟩
  rcases h4 j b hj hx with h | h
  · exact .inl h
  · exact .inr (by simp at h; omega)

theorem zzfollow_nil (w : World) (sp : Value) (k m : Int) (sa : Option Addr) (sn sc : Nat) (va : Option Addr) (en vc : Nat) :
    Calls Try.prog 14 #[sp, .pointer none, .agg #[.int .u8 k, .slice sa sn sc, .int .i64 m, .slice va en vc]] w fun e w' => e = .returned (.tuple #[]) ∧ Below w.heap.size w w' := by
  go_enter Try.func14, Try.ntmps14
  go_wp2_with fail
  refine (follow_nil _ _ _ _ _ _ _ _ _ _).mono ?_
  rintro e w' ⟨rfl, hb⟩
  go_wp2_with fail
  go_end0
  exact ⟨rfl, ((Below.refl _ _).alloc (Nat.le_refl _) _).trans (hb.mono (by simp))⟩

theorem zzfollow_few (w : World) (sp : Value) (p : Addr) (k m : Int) (sa : Option Addr) (sn sc : Nat) (va : Option Addr) (en vc : Nat) (hen : en < 2) :
    Calls Try.prog 14 #[sp, .pointer (some p), .agg #[.int .u8 k, .slice sa sn sc, .int .i64 m, .slice va en vc]] w fun e w' => e = .returned (.tuple #[]) ∧ Below w.heap.size w w' := by
  go_enter Try.func14, Try.ntmps14
  go_wp2_with fail
  refine (follow_few _ _ _ _ _ _ _ _ _ _ _ hen).mono ?_
  rintro e w' ⟨rfl, hb⟩
  go_wp2_with fail
  go_end0
  exact ⟨rfl, ((Below.refl _ _).alloc (Nat.le_refl _) _).trans (hb.mono (by simp))⟩
end Go.Proofs.Qxb6603301a
