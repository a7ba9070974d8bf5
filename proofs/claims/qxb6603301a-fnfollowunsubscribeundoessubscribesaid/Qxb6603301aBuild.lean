/-
  THE WALK of buildSet.
-/
import Derived.Test.Qxb6603301aBase
namespace Go.Proofs.Qxb6603301a
open Go.RowKit Go.Maps
set_option linter.unusedVariables false

/-- the set of the first k names -/
def bset (ss : Nat → ByteArray) (k : Nat) : DataW Unit := setOf (.agg []) ((List.range k).map fun i => key (ss i))

theorem bset_succ (ss : Nat → ByteArray) (k : Nat) : bset ss (k + 1) = (bset ss k).put (key (ss k)) (.agg []) := by
  unfold bset
  rw [List.range_succ, List.map_append]
  exact setOf_snoc _ _ _

def setNil (isNil : Bool) (n : Nat) : Bool := isNil && decide (n = 0)

theorem buildSet_nil (w : World) (a : Option Addr) (n c : Nat) (isNil : Bool) (h : setNil isNil n = true) :
    Calls Try.prog 12 #[.slice a n c, .bool isNil] w fun e w' => e = .returned (.map none) ∧ Below w.heap.size w w' := by
  have h' : isNil = true ∧ n = 0 := by simpa [setNil] using h
  obtain ⟨rfl, rfl⟩ := h'
  clear h
  go_enter Try.func12, Try.ntmps12
  go_wp2
  go_ret
  exact ⟨rfl, Below.refl _ _⟩

set_option maxHeartbeats 1000000 in
theorem buildSet_some (w : World) (a : Option Addr) (n c : Nat) (ss : Nat → ByteArray) (isNil : Bool) (h : setNil isNil n = false) (hn : n ≤ 1048576) (hs : StrsAt w a n ss) (hsz : ∀ i, i < n → (ss i).size ≤ maxLen) :
    Calls Try.prog 12 #[.slice a n c, .bool isNil] w fun e w' => e = .returned (.map (some w.heap.size)) ∧ w'.ownsMap Try.prog 9 unitElem w.heap.size n (bset ss n) ∧ Below w.heap.size w w' := by
  have hg : isNil = false ∨ (isNil = true ∧ ((n : Int) == 0) = false) := by
    cases isNil with
    | false => exact .inl rfl
    | true => exact .inr ⟨rfl, by simp [setNil] at h; simp; omega⟩
  have hmm := @run_makeMap Try.prog
  rcases hg with rfl | ⟨rfl, hne⟩ <;>
  · go_enter Try.func12, Try.ntmps12
    go_wp2
    go_loopw [6] (fun t wr => ∃ k : Nat, k ≤ n ∧ t = .int .i64 k ∧ wr.ownsMap Try.prog 9 unitElem w.heap.size k (bset ss k) ∧ Below w.heap.size w wr) (fun t _ => n - (intOf t).toNat)
    case atStart => exact ⟨0, Nat.zero_le _, rfl, World.ownsMap_made _ _ _ _, (Below.refl _ _).alloc (Nat.le_refl _) _⟩
    case round =>
      obtain ⟨k, hk, rfl, hown, hbl⟩ := hrel
      by_cases hlt : k < n
      · obtain ⟨sb, so, rfl, hcs⟩ := hs (by omega)
        have hck := cellLater hbl (hcs k hlt)
        have hkey := key_of (ss k) (hsz k hlt)
        have HB : Hid (bset ss (k + 1) = (bset ss k).put (key (ss k)) (.agg [])) := bset_succ ss k
        go_wp2_with (at_mapUpdate; refine wpList_mapUpdate_own _ rfl _ _ _ 40 rfl 9 63 law Try.underlying40 _ w.heap.size k _ rfl hown (by unfold maxLen; omega) _ _ _ rfl rfl hkey _ [] unitElem_mk ?_; intro w1 hown1 hgrow1)
        go_roundw
        case rel => exact ⟨k + 1, by omega, by go_num, by rw [HB.out]; exact hown1, hbl.grown hgrow1 hbl.size (fun j hj => by cases hj; exact Nat.le_refl _)⟩
        case measure => simp [intOf]; omega
      · have hkn : k = n := by omega
        subst hkn
        go_wp2
        go_ret
        exact ⟨rfl, hown, hbl⟩
end Go.Proofs.Qxb6603301a
