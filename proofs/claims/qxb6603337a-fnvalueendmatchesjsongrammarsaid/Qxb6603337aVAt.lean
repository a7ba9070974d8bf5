/-
  THE WALK of vjEndAtB1.
-/
import Derived.Test.Qxb6603337aVValue
namespace Go.Proofs.Qxb6603337a
open Go.RowKit
set_option linter.unusedVariables false

/-- vjEndAtB1's answer -/
def EPost (F : Nat → Nat) (n t : Nat) (w : World) (e : Ending) (w' : World) : Prop :=
  ((∃ r : Nat, e = .returned (.tuple #[.int .i64 r, .bool true]) ∧ Ok F n t r) ∨ e = .returned (.tuple #[.int .i64 0, .bool false])) ∧ Below w.heap.size w w'

theorem alloc_new' (w : World) (o : Obj) {g : Nat} (h : g = w.heap.size) : (w.alloc o).heap[g]? = some o := by
  subst h
  exact heap_alloc_new w o

set_option maxRecDepth 100000 in
set_option maxHeartbeats 4000000 in
theorem endAt_any (w : World) (a : Option Addr) (n c t : Nat) (F : Nat → Nat) (hn : n ≤ 1048576) (htn : t < n) (hf : TextAt w a n F) :
    Calls Try.prog 16 #[.slice a n c, .int .i64 t] w (EPost F n t w) := by
  have HF := Lib.hid hf
  clear hf
  go_enter Try.func16, Try.ntmps16
  go_wp2_with fail
  obtain ⟨W, hW⟩ : ∃ W, W = w.alloc (.cells #[.slice a n c, .int .i64 t, .bool false, .int .i64 0] 39) := ⟨_, rfl⟩
  rw [← hW]
  have HSC : Hid (Sc W w.heap.size a n c F (t : Int) false (((0 : Nat) : Int))) := ⟨by rw [hW]; exact alloc_new' _ _ rfl, by rw [hW]; exact HF.out.later (below_alloc _ _), hn⟩
  have HB : Hid (Below w.heap.size w W) := by rw [hW]; exact below_alloc _ _
  clear hW
  refine (space_any W _ a n c 0 F t false 0 HSC.out (Nat.zero_le _)).mono ?_
  rintro e w1 ⟨j, rfl, hw1, hij, hjn, hsp, hns⟩
  obtain rfl := hw1.symm
  clear hsp hns hij
  go_wp2_with fail
  refine (value_any w.heap.size a n c F t (n - j + 1) j hjn (by omega) W false 0 HSC.out (fun h => by cases h)).mono ?_
  rintro e w2 (⟨r, rfl, hov, fd2, en2, hsc2, hb2, ht2⟩ | ⟨rfl, fd2, en2, hsc2, hb2, -⟩)
  case inr =>
    have HB2 := Lib.hid (HB.out.trans hb2)
    clear hsc2 hb2
    go_wp2_with fail
    go_ret2
    exact ⟨.inr rfl, HB2.out⟩
  obtain ⟨_, _, s2, s3, _, _⟩ := hsc2.cells
  have HSC2 := Lib.hid hsc2
  have HB2 := Lib.hid (HB.out.trans hb2)
  have HT2 := Lib.hid ht2
  have hr2 := hov.2.1
  clear hsc2 hb2 ht2 hov HSC HB
  go_wp2_with fail
  refine (space_any w2 _ a n c r F t fd2 en2 HSC2.out hr2).mono ?_
  rintro e w3 ⟨q, rfl, hw3, hrq, hqn, hsp, hns⟩
  obtain rfl := hw3.symm
  have HSP := Lib.hid hsp
  clear hsp hns
  by_cases hq : q = n
  case neg =>
    have z1 : (((q : Nat) : Int) == (n : Int)) = false := by rw [beq_eq_false_iff_ne]; omega
    have z2 : (((q : Nat) : Int) != (n : Int)) = true := by simp [bne, z1]
    clear hq
    go_wp2_with fail
    go_ret2
    exact ⟨.inr rfl, HB2.out⟩
  subst hq
  have HG : Hid (Good F q fd2 t en2) := HT2.out.good (notNum hrq HSP.out (fun _ h => absurd h (Nat.lt_irrefl _)))
  cases fd2 with
  | false =>
    go_wp2_with fail
    go_ret2
    exact ⟨.inr rfl, HB2.out⟩
  | true =>
    go_wp2_with fail
    go_ret2
    exact ⟨.inl ⟨en2, rfl, HG.out rfl⟩, HB2.out⟩
end Go.Proofs.Qxb6603337a
