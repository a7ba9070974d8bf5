/-
  WHAT THE WALKS OF THIS SEAT SHARE: sets as the model has them ('map[string]struct{}'), slices of strings, of bytes and of elements, each as it reads in a world; what stays while a call only makes memory.
-/
import Derived.Test.Qxb6603301aRows
import Derived.WalkKit
import Derived.WalkSpells
import Derived.WalkLawsBesides
import Derived.Maps.OwnSet
import Derived.Laws.BytesArg
import Derived.Deep.DeepCutAuto
import Derived.Deep.CutBlock
import Derived.Deep.RegionWith
import Derived.Deep.LoopGhost
import Derived.BigQuiet
import Derived.Deep.QuietTactic
namespace Go.Proofs.Qxb6603301a
open Go.RowKit Go.Maps

theorem law : Keyed Try.prog 9 := string_keyed Try.underlying9
theorem zeroU (w : World) : (zeroValue 63).run Try.prog w = .ok (.agg #[]) w := by kernel_rfl

/-- what a string reads as, as a key -/
def key (s : ByteArray) : Lit := .string s.data.toList
theorem key_of (s : ByteArray) (h : s.size ≤ maxLen) : keyOf Try.prog 9 (.string s) = some (key s) := WideMaps.keyOf_string_mk Try.underlying9 h
theorem key_inj {s t : ByteArray} (h : key s = key t) : s = t := by
  have : s.data.toList = t.data.toList := by simpa [key] using h
  cases s; cases t; simp at this; rw [this]

theorem ret_int {k : IntKind} {a b : Int} (h : a = b) : Ending.returned (.int k a) = .returned (.int k b) := by rw [h]
theorem ret_bool {a b : Bool} (h : a = b) : Ending.returned (.bool a) = .returned (.bool b) := by rw [h]

/-- THE VALUE v IS A SET THAT READS AS D, of at most n keys: nil (and D is empty), or a map's block. -/
def SetIs (w : World) (v : Value) (n : Nat) (D : DataW Unit) : Prop :=
  (v = .map none ∧ D = .map []) ∨ ∃ b, v = .map (some b) ∧ w.ownsMap Try.prog 9 unitElem b n D

theorem grown_of_below {w w' : World} (h : Below w.heap.size w w') : w.grownBy w' none :=
  ⟨h.os, h.tape, h.output, h.size, fun k hk _ => h.block k hk⟩

theorem SetIs.later {w w' : World} {v : Value} {n : Nat} {D : DataW Unit} (h : SetIs w v n D) (hb : Below w.heap.size w w') : SetIs w' v n D := by
  rcases h with h | ⟨b, rfl, h⟩
  · exact .inl h
  · exact .inr ⟨b, rfl, h.kept (grown_of_below hb) (by simp)⟩

theorem SetIs.mono {w : World} {v : Value} {n n' : Nat} {D : DataW Unit} (h : SetIs w v n D) (hn : n ≤ n') : SetIs w v n' D := by
  rcases h with h | ⟨b, rfl, h⟩
  · exact .inl h
  · exact .inr ⟨b, rfl, h.mono hn⟩

theorem SetIs.tidy {w : World} {v : Value} {n : Nat} {D : DataW Unit} (h : SetIs w v n D) : Tidy D := by
  rcases h with ⟨_, rfl⟩ | ⟨b, rfl, h⟩
  · exact tidy_empty
  · exact h.tidy law

theorem SetIs.size_le {w : World} {v : Value} {n : Nat} {D : DataW Unit} (h : SetIs w v n D) : Maps.size D ≤ n := by
  rcases h with ⟨_, rfl⟩ | ⟨b, rfl, h⟩
  · exact Nat.zero_le _
  · exact h.size_le

theorem below_step {B : Nat} {w w1 w2 : World} (h : Below B w w1) (hB : B ≤ w.heap.size) (h2 : Below w1.heap.size w1 w2) : Below B w w2 :=
  h.trans (h2.mono (Nat.le_trans hB h.size))

theorem cellLater {w w' : World} {a : Addr} {v : Value} (hb : Below w.heap.size w w') (h : w.cell? a = some v) : w'.cell? a = some v :=
  (hb.cell (World.block_lt_of_cell? _ _ h)).trans h

theorem bytes_ne {c x : ByteArray} (h : c ≠ x) : (c.toList == x.toList) = false := by
  simp only [ByteArray.toList_eq, beq_eq_false_iff_ne]
  intro hh; exact h (by cases c; cases x; simp at hh; rw [hh])

/-- THE SLICE AT a HOLDS THE STRINGS ss, n of them. -/
def StrsAt (w : World) (a : Option Addr) (n : Nat) (ss : Nat → ByteArray) : Prop :=
  0 < n → ∃ b off, a = some ⟨b, off, none⟩ ∧ ∀ i, i < n → w.cell? ⟨b, off + i, none⟩ = some (.string (ss i))

theorem StrsAt.later {w w' : World} {a : Option Addr} {n : Nat} {ss : Nat → ByteArray} (h : StrsAt w a n ss) (hb : Below w.heap.size w w') : StrsAt w' a n ss := by
  intro h0
  obtain ⟨b, off, e, hc⟩ := h h0
  exact ⟨b, off, e, fun i hi => cellLater hb (hc i hi)⟩

theorem SetIs.len {w : World} {v : Value} {n : Nat} {D : DataW Unit} (h : SetIs w v n D) (ty : TypeId) : (Builtin.len_ #[40] ty #[v]).run Try.prog w = .ok (.int .i64 (Maps.size D)) w := by
  rcases h with ⟨rfl, rfl⟩ | ⟨b, rfl, h⟩
  · exact Maps.len_nil (w := w) (k := 9) Try.underlying40 ty
  · exact h.len Try.underlying40 ty

/-- 'len(m)' at the operation -/
theorem wpList_len_set (w : World) {ops : Array Oper} {rest : List Oper} {o : Oper} {a : Act} {Q : Exit → Act → World → Prop} (hg : o.guard = none) (m : Operand) (hop : o.op = Op.call { callee := Callee.builtin Builtin.len, args := #[m], argTypes := #[40] })
    (v : Value) (n : Nat) (D : DataW Unit) (hm : a.eval m = v) (hset : SetIs w v n D) (hK : wpList Try.prog ops Q rest (a.put o.dst (.int .i64 (Maps.size D))) w) : wpList Try.prog ops Q (o :: rest) a w := by
  refine wpList_plain hg fun K' hK' => ?_
  unfold Oper.wp
  simp [execOp, hop, resolve, invoke, builtin, hm, hset.len o.type, Result.andThen]
  exact hK' _ _ hK

theorem heap_new_at (w : World) (o : Obj) {g : Nat} (h : g = w.heap.size) : (w.alloc o).heap[g]? = some o := by subst h; exact heap_alloc_new w o

theorem bcell {W w1 : World} (hb : Below W.heap.size W w1) : (∀ b o, b < W.heap.size → w1.cell? ⟨b, o, none⟩ = W.cell? ⟨b, o, none⟩) ∧ (∀ b o, b < W.heap.size → w1.frozen? ⟨b, o, none⟩ = W.frozen? ⟨b, o, none⟩) :=
  ⟨fun b o h => hb.cell (p := ⟨b, o, none⟩) h, fun b o h => hb.frozen (p := ⟨b, o, none⟩) h⟩

/-- 'has(m, c)' -/
theorem has_any (w : World) (m : Value) (n : Nat) (D : DataW Unit) (s : ByteArray) (hm : SetIs w m n D) (hs : s.size ≤ maxLen) :
    Calls Try.prog 21 #[m, .string s] w fun e w' => e = .returned (.bool (Maps.has D (key s))) ∧ Below w.heap.size w w' := by
  rcases hm with ⟨rfl, rfl⟩ | ⟨b, rfl, hown⟩
  · have hl := Maps.look_nil (w := w) true law Try.underlying40 (zeroU w) (key_of s hs)
    have HB : Hid (Maps.has (.map [] : DataW Unit) (key s) = false) := rfl
    go_enter Try.func21, Try.ntmps21
    go_wp2
    go_ret
    exact ⟨ret_bool HB.out.symm, (Below.refl _ _).alloc (Nat.le_refl _) _⟩
  · have hk := key_of s hs
    go_enter Try.func21, Try.ntmps21
    go_wp2_with (at_lookup; refine wpList_lookup_own_unit _ rfl _ _ 40 rfl 9 63 law Try.underlying40 (zeroU _) b n D rfl hown _ _ rfl hk ?_)
    go_ret
    exact ⟨rfl, (Below.refl _ _).alloc (Nat.le_refl _) _⟩

/-- .. in a later world -/
theorem has_at {w W : World} {m : Value} {n : Nat} {D : DataW Unit} {s : ByteArray} (hB : Below w.heap.size w W) (hm : SetIs w m n D) (hs : s.size ≤ maxLen) :
    Calls Try.prog 21 #[m, .string s] W fun e w' => e = .returned (.bool (Maps.has D (key s))) ∧ Below w.heap.size w w' :=
  (has_any W m n D s (hm.later hB) hs).mono fun _ _ ⟨h1, h2⟩ => ⟨h1, below_step hB (Nat.le_refl _) h2⟩

end Go.Proofs.Qxb6603301a
