/-
  THE WALKS of cloneStrings and cloneSubs.
-/
import Derived.Test.Qxb6603301aVals
namespace Go.Proofs.Qxb6603301a
open Go.RowKit Go.Maps
set_option linter.unusedVariables false

/-- the row behind k rounds of cloneStrings -/
def cs (f : Nat → ByteArray) (n k : Nat) : List Value := (List.range n).map fun j => if j < k then .string (f j) else .string ⟨#[]⟩

theorem cs_zero (f : Nat → ByteArray) (n : Nat) : cs f n 0 = List.replicate n (.string ⟨#[]⟩) := by
  apply List.ext_getElem?
  intro j
  simp [cs, List.getElem?_replicate]
  by_cases h : j < n <;> simp [h]

theorem cs_set (f : Nat → ByteArray) (n k : Nat) (h : k < n) : (cs f n k).set k (.string (f k)) = cs f n (k + 1) := by
  apply List.ext_getElem?
  intro j
  by_cases hj : j < n
  · by_cases hk : k = j
    · subst hk; simp [cs, h]
    · simp [cs, hj, hk]
      by_cases h1 : j < k
      · simp [h1, show j < k + 1 by omega]
      · simp [h1, show ¬ j < k + 1 by omega]
  · have h1 : (cs f n (k + 1))[j]? = none := by simp [cs]; omega
    have h2 : ((cs f n k).set k (.string (f k)))[j]? = none := by simp [cs]; omega
    rw [h1, h2]

theorem cs_get (f : Nat → ByteArray) (n k : Nat) (h : k < n) : (cs f n n)[k]? = some (.string (f k)) := by simp [cs, h]

theorem Try.info9 : (Try.prog.info? 9).map (fun i => (i.zero, i.size, i.bytes)) = some (some (.string ⟨#[]⟩), 1, 16) := by kernel_rfl

theorem cloneStrings_nil (w : World) : Calls Try.prog 23 #[.slice none 0 0] w fun e w' => e = .returned (.slice none 0 0) ∧ Below w.heap.size w w' := by
  have hnil := fun (wx : World) => Lib.run_eql_slice_nil (P := Try.prog) wx 22 9 none 0 0 0 0 Try.underlying22
  go_enter Try.func23, Try.ntmps23
  go_wp2
  go_ret
  exact ⟨rfl, Below.refl _ _⟩

set_option maxHeartbeats 400000 in
theorem cloneStrings_some (f : Nat → ByteArray) (x : Addr) (n c : Nat) (w : World) (hn : n ≤ 1048576) (hf : StrsAt w (some x) n f) :
    Calls Try.prog 23 #[.slice (some x) n c] w fun e w' => e = .returned (.slice (some ⟨w.heap.size, 0, none⟩) n n) ∧
      w'.ownsRow w.heap.size 9 1 (.slice (some ⟨w.heap.size, 0, none⟩) n n) n (cs f n n) ∧ Below w.heap.size w w' := by
  obtain ⟨i0, hi, hz0, hz1, hz2⟩ := info_parts Try.info9
  have hnil := fun (wx : World) => Lib.run_eql_slice_nil (P := Try.prog) wx 22 9 (some x) n c 0 0 Try.underlying22
  go_enter Try.func23, Try.ntmps23
  go_wp2_with (at_make; refine wpList_make_full _ rfl (.tmp 8) (.tmp 8) 22 rfl w.heap.size 9 i0 (.string ⟨#[]⟩) 1 Try.underlying22 hi hz0 hz1 .i64 .i64 n n n rfl rfl rfl rfl (by rw [hz2]; omega) (by unfold maxLen; omega) (Nat.le_refl _) ?_; intro w1 hown hgrow)
  have hbel : Below w.heap.size w w1 := (Below.refl _ _).grown hgrow (Nat.le_refl _) (by intro k h; cases h)
  have hown0 : w1.ownsRow w.heap.size 9 1 (.slice (some ⟨w.heap.size, 0, none⟩) n n) n (cs f n 0) := by
    rw [cs_zero, ← toList_madeCells_one]; simpa [Value.cells] using hown
  clear hown hgrow
  go_loopw [4] (fun t wr => ∃ k : Nat, k ≤ n ∧ t = .int .i64 k ∧ wr.ownsRow w.heap.size 9 1 (.slice (some ⟨w.heap.size, 0, none⟩) n n) n (cs f n k) ∧ Below w.heap.size w wr) (fun t _ => n - (intOf t).toNat)
  case atStart => exact ⟨0, Nat.zero_le _, rfl, hown0, hbel⟩
  case round =>
    obtain ⟨k, hk, rfl, hown, hbl⟩ := hrel
    by_cases hlt : k < n
    · obtain ⟨b, off, ex, hcs⟩ := hf (by omega)
      obtain rfl : x = ⟨b, off, none⟩ := by simpa using ex
      have hc1 := cellLater hbl (hcs k hlt)
      have hc2 : wr.cell? ⟨w.heap.size, k, none⟩ = some (.string ⟨#[]⟩) := (hown.cellAt k (by omega)).trans (by simp [cs, hlt])
      have hfr := hown.frozenAt k
      have hst := hown.stored k (.string (f k))
      have H1 : Hid ((wr.setCell ⟨w.heap.size, k, none⟩ (.string (f k))).ownsRow w.heap.size 9 1 (.slice (some ⟨w.heap.size, 0, none⟩) n n) n (cs f n (k + 1))) := by
        rw [← cs_set f n k hlt]; exact hst.1
      have H2 : Hid (Below w.heap.size w (wr.setCell ⟨w.heap.size, k, none⟩ (.string (f k)))) := hbl.setCell (Nat.le_refl _) _
      clear hst hown hbl hcs hf ex
      go_wp2
      go_roundw
      case rel => exact ⟨k + 1, by omega, by go_num, H1.out, H2.out⟩
      case measure => simp [intOf]; omega
    · have hkn : k = n := by omega
      subst hkn
      go_wp2
      go_ret
      exact ⟨rfl, hown, hbl⟩

/-- .. from block B on -/
def StrsFrom (B : Nat) (w : World) (a : Option Addr) (n : Nat) (ss : Nat → ByteArray) : Prop :=
  0 < n → ∃ b off, B ≤ b ∧ a = some ⟨b, off, none⟩ ∧ ∀ i, i < n → w.cell? ⟨b, off + i, none⟩ = some (.string (ss i))

theorem StrsFrom.at {B : Nat} {w : World} {a : Option Addr} {n : Nat} {ss : Nat → ByteArray} (h : StrsFrom B w a n ss) : StrsAt w a n ss := fun h0 => by
  obtain ⟨b, off, _, e, hc⟩ := h h0; exact ⟨b, off, e, hc⟩

theorem StrsFrom.mono {B B' : Nat} {w : World} {a : Option Addr} {n : Nat} {ss : Nat → ByteArray} (h : StrsFrom B w a n ss) (hB : B' ≤ B) : StrsFrom B' w a n ss := fun h0 => by
  obtain ⟨b, off, h1, e, hc⟩ := h h0; exact ⟨b, off, by omega, e, hc⟩

theorem StrsFrom.later {B : Nat} {w w' : World} {a : Option Addr} {n : Nat} {ss : Nat → ByteArray} (h : StrsFrom B w a n ss) (hb : Below w.heap.size w w') : StrsFrom B w' a n ss := fun h0 => by
  obtain ⟨b, off, h1, e, hc⟩ := h h0
  exact ⟨b, off, h1, e, fun i hi => cellLater hb (hc i hi)⟩

theorem StrsFrom.setCell {B : Nat} {w : World} {a : Option Addr} {n : Nat} {ss : Nat → ByteArray} (h : StrsFrom B w a n ss) {x : Addr} (hx : x.block < B) (u : Value) : StrsFrom B (w.setCell x u) a n ss := fun h0 => by
  obtain ⟨b, off, h1, e, hc⟩ := h h0
  refine ⟨b, off, h1, e, fun i hi => ?_⟩
  rw [World.cell?_setCell_other _ _ _ _ (by intro e'; rw [e'] at hx; simp at hx; omega)]
  exact hc i hi

theorem cloneStrings_any (f : Nat → ByteArray) (a : Option Addr) (n c : Nat) (w : World) (ha : a = none → n = 0 ∧ c = 0) (hn : n ≤ 1048576) (hf : StrsAt w a n f) :
    Calls Try.prog 23 #[.slice a n c] w fun e w' => ∃ a', e = .returned (.slice a' n n) ∧ StrsFrom w.heap.size w' a' n f ∧ Below w.heap.size w w' := by
  cases a with
  | none =>
    obtain ⟨rfl, rfl⟩ := ha rfl
    exact (cloneStrings_nil w).mono fun e w' ⟨h1, h2⟩ => ⟨none, h1, fun h => absurd h (by omega), h2⟩
  | some x =>
    exact (cloneStrings_some f x n c w hn hf).mono fun e w' ⟨h1, h2, h3⟩ => ⟨_, h1, fun _ => ⟨_, _, Nat.le_refl _, rfl, fun i hi => by rw [Nat.zero_add, h2.cellAt i (by omega)]; exact cs_get f n i hi⟩, h3⟩

/-- the six cells of a ZSubs -/
def six (o p : Nat → Value) : Array Value := #[o 0, o 1, o 2, p 0, p 1, p 2]
theorem six_lo (o p : Nat → Value) (j : Nat) (h : j < 3) : (six o p)[j]? = some (o j) := by
  obtain rfl | rfl | rfl : j = 0 ∨ j = 1 ∨ j = 2 := by omega
  all_goals rfl
theorem six_hi (o p : Nat → Value) (j : Nat) (h : j < 3) : (six o p)[3 + j]? = some (p j) := by
  obtain rfl | rfl | rfl : j = 0 ∨ j = 1 ∨ j = 2 := by omega
  all_goals rfl
theorem six_set_lo (o p : Nat → Value) (j : Nat) (h : j < 3) (v : Value) : (six o p).setIfInBounds j v = six (fun i => if i = j then v else o i) p := by
  obtain rfl | rfl | rfl : j = 0 ∨ j = 1 ∨ j = 2 := by omega
  all_goals rfl
theorem six_set_hi (o p : Nat → Value) (j : Nat) (h : j < 3) (v : Value) : (six o p).setIfInBounds (3 + j) v = six o (fun i => if i = j then v else p i) := by
  obtain rfl | rfl | rfl : j = 0 ∨ j = 1 ∨ j = 2 := by omega
  all_goals rfl

set_option maxHeartbeats 1000000 in
theorem cloneSubs_any (w : World) (a : Nat → Option Addr) (n c : Nat → Nat) (nl : Nat → Bool) (f : Nat → Nat → ByteArray) (ha : ∀ j, j < 3 → a j = none → n j = 0 ∧ c j = 0) (hn : ∀ j, j < 3 → n j ≤ 1048576) (hf : ∀ j, j < 3 → StrsAt w (a j) (n j) (f j)) :
    Calls Try.prog 10 #[.agg #[.slice (a 0) (n 0) (c 0), .slice (a 1) (n 1) (c 1), .slice (a 2) (n 2) (c 2), .bool (nl 0), .bool (nl 1), .bool (nl 2)]] w fun e w' =>
      ∃ a' : Nat → Option Addr, e = .returned (.agg #[.slice (a' 0) (n 0) (n 0), .slice (a' 1) (n 1) (n 1), .slice (a' 2) (n 2) (n 2), .bool (nl 0), .bool (nl 1), .bool (nl 2)]) ∧ (∀ j, j < 3 → StrsFrom w.heap.size w' (a' j) (n j) (f j)) ∧ Below w.heap.size w w' := by
  go_enter Try.func10, Try.ntmps10
  go_wp2_with fail
  go_loopg [4] 3 (fun g t wr => ∃ (k : Nat) (o p : Nat → Value), k ≤ 3 ∧ g = 3 - k ∧ t = .int .i64 k ∧
    wr.heap[w.heap.size]? = some (.cells (six (fun j => .slice (a j) (n j) (c j)) (fun j => .bool (nl j))) 26 (0, 0)) ∧
    wr.heap[w.heap.size + 1]? = some (.cells (six (fun _ => .slice none 0 0) (fun _ => .bool false)) 26 (0, 0)) ∧
    wr.heap[w.heap.size + 1 + 1]? = some (.cells (six o p) 26 (0, 0)) ∧
    (∀ j, j < k → ∃ a', o j = .slice a' (n j) (n j) ∧ StrsFrom (w.heap.size + 3) wr a' (n j) (f j)) ∧ (∀ j, j < k → p j = .bool (nl j)) ∧ Below w.heap.size w wr)
  case atStart =>
    refine ⟨0, fun _ => .slice none 0 0, fun _ => .bool false, by omega, rfl, rfl, ?_, ?_, ?_, fun j hj => by omega, fun j hj => by omega, ?_⟩
    · rw [Below.heap_alloc _ _ _ (by simp; omega), Below.heap_alloc _ _ _ (by simp), heap_alloc_new]; rfl
    · rw [Below.heap_alloc _ _ _ (by simp)]
      exact heap_new_at _ _ (by simp)
    · exact heap_new_at _ _ (by simp)
    · exact (((Below.refl _ _).alloc (Nat.le_refl _) _).alloc (by simp) _).alloc (by simp; omega) _
  case round =>
    obtain ⟨k, o, p, hk, hg, rfl, hS, hR, hO, ho, hp, hbl⟩ := hrel
    have hsz3 : w.heap.size + 1 + 1 < wr.heap.size := lt_of_block hO
    by_cases hlt : k < 3
    · have cS := (cell_of_row wr w.heap.size k _ _ _ hS).trans (six_lo _ _ k hlt)
      have HS : Hid (wr.heap[w.heap.size]? = some (.cells (six (fun j => .slice (a j) (n j) (c j)) (fun j => .bool (nl j))) 26 (0, 0))) := hS
      have HR : Hid (wr.heap[w.heap.size + 1]? = some (.cells (six (fun _ => .slice none 0 0) (fun _ => .bool false)) 26 (0, 0))) := hR
      have HO : Hid (wr.heap[w.heap.size + 1 + 1]? = some (.cells (six o p) 26 (0, 0))) := hO
      clear hS hR hO
      have Ho : Hid (∀ j, j < k → ∃ a', o j = .slice a' (n j) (n j) ∧ StrsFrom (w.heap.size + 3) wr a' (n j) (f j)) := ho
      have Hp : Hid (∀ j, j < k → p j = .bool (nl j)) := hp
      clear ho hp
      go_wp2_with fail
      refine (cloneStrings_any (f k) (a k) (n k) (c k) wr (ha k hlt) (hn k hlt) ((hf k hlt).later hbl)).mono ?_
      rintro e w1 ⟨x, rfl, hx, hb1⟩
      have HS1 : Hid (w1.heap[w.heap.size]? = some (.cells (six (fun j => .slice (a j) (n j) (c j)) (fun j => .bool (nl j))) 26 (0, 0))) := (hb1.block _ (by omega)).trans HS.out
      have HR1 : Hid (w1.heap[w.heap.size + 1]? = some (.cells (six (fun _ => .slice none 0 0) (fun _ => .bool false)) 26 (0, 0))) := (hb1.block _ (by omega)).trans HR.out
      have HO1 : Hid (w1.heap[w.heap.size + 1 + 1]? = some (.cells (six o p) 26 (0, 0))) := (hb1.block _ (by omega)).trans HO.out
      have c1 := (cell_of_row w1 w.heap.size (3 + k) _ _ _ HS1.out).trans (six_hi _ _ k hlt)
      have c2 := (cell_of_row w1 (w.heap.size + 1 + 1) k _ _ _ HO1.out).trans (six_lo _ _ k hlt)
      have c3 := (cell_of_row w1 (w.heap.size + 1 + 1) (3 + k) _ _ _ HO1.out).trans (six_hi _ _ k hlt)
      have z2 := frozen_of_row w1 (w.heap.size + 1 + 1) k _ _ HO1.out
      have z3 := frozen_of_row w1 (w.heap.size + 1 + 1) (3 + k) _ _ HO1.out
      have hbl1 : Below w.heap.size w w1 := below_step hbl (Nat.le_refl _) hb1
      have Ho1 : Hid (∀ j, j < k → ∃ a', o j = .slice a' (n j) (n j) ∧ StrsFrom (w.heap.size + 3) w1 a' (n j) (f j)) := fun j hj => by
        obtain ⟨y, h1, h2⟩ := Ho.out j hj; exact ⟨y, h1, h2.later hb1⟩
      have Hx : Hid (StrsFrom (w.heap.size + 3) w1 x (n k) (f k)) := hx.mono (by omega)
      clear hb1 HS HR HO Ho hx hbl cS
      go_wp2_with fail
      go_roundg (3 - (k + 1))
      case measure => omega
      case rel =>
        refine ⟨k + 1, fun i => if i = k then .slice x (n k) (n k) else o i, fun i => if i = k then .bool (nl k) else p i, by omega, rfl, by go_num, ?_, ?_, ?_, ?_, ?_, ?_⟩
        · rw [heap_setCell_other _ _ _ _ (by simp; omega), heap_setCell_other _ _ _ _ (by simp; omega)]; exact HS1.out
        · rw [heap_setCell_other _ _ _ _ (by simp), heap_setCell_other _ _ _ _ (by simp)]; exact HR1.out
        · have h1 := heap_setCell_same w1 (w.heap.size + 1 + 1) k _ 26 (.slice x (n k) (n k)) HO1.out
          rw [six_set_lo _ _ k hlt] at h1
          have h2 := heap_setCell_same _ (w.heap.size + 1 + 1) (3 + k) _ 26 (.bool (nl k)) h1
          rw [six_set_hi _ _ k hlt] at h2
          exact h2
        · intro j hj
          by_cases hjk : j = k
          · subst hjk
            exact ⟨x, by simp, (Hx.out.setCell (by simp) _).setCell (by simp) _⟩
          · obtain ⟨y, h1, h2⟩ := Ho1.out j (by omega)
            exact ⟨y, by simp [hjk, h1], (h2.setCell (by simp) _).setCell (by simp) _⟩
        · intro j hj
          by_cases hjk : j = k
          · subst hjk; simp
          · simp [hjk, Hp.out j (by omega)]
        · exact (hbl1.setCell (by simp; omega) _).setCell (by simp; omega) _
    · obtain rfl : k = 3 := by omega
      obtain ⟨x0, e0, h0⟩ := ho 0 (by omega)
      obtain ⟨x1, e1, h1⟩ := ho 1 (by omega)
      obtain ⟨x2, e2, h2⟩ := ho 2 (by omega)
      have p0 := hp 0 (by omega)
      have p1 := hp 1 (by omega)
      have p2 := hp 2 (by omega)
      have HO : wr.heap[w.heap.size + 1 + 1]? = some (.cells #[.slice x0 (n 0) (n 0), .slice x1 (n 1) (n 1), .slice x2 (n 2) (n 2), .bool (nl 0), .bool (nl 1), .bool (nl 2)] 26 (0, 0)) := by
        rw [hO, six, e0, e1, e2, p0, p1, p2]
      have HR : wr.heap[w.heap.size + 1]? = some (.cells #[.slice none 0 0, .slice none 0 0, .slice none 0 0, .bool false, .bool false, .bool false] 26 (0, 0)) := hR
      clear hS hR hO ho hp e0 e1 e2 p0 p1 p2 ha hn hf
      have q0 : wr.cell? ⟨w.heap.size + 1 + 1, 0, none⟩ = some (.slice x0 (n 0) (n 0)) := cell_of_row wr _ 0 _ _ _ HO
      have q1 : wr.cell? ⟨w.heap.size + 1 + 1, 1, none⟩ = some (.slice x1 (n 1) (n 1)) := cell_of_row wr _ 1 _ _ _ HO
      have q2 : wr.cell? ⟨w.heap.size + 1 + 1, 2, none⟩ = some (.slice x2 (n 2) (n 2)) := cell_of_row wr _ 2 _ _ _ HO
      have q3 : wr.cell? ⟨w.heap.size + 1 + 1, 3, none⟩ = some (.bool (nl 0)) := cell_of_row wr _ 3 _ _ _ HO
      have q4 : wr.cell? ⟨w.heap.size + 1 + 1, 4, none⟩ = some (.bool (nl 1)) := cell_of_row wr _ 4 _ _ _ HO
      have q5 : wr.cell? ⟨w.heap.size + 1 + 1, 5, none⟩ = some (.bool (nl 2)) := cell_of_row wr _ 5 _ _ _ HO
      have r0 : wr.cell? ⟨w.heap.size + 1, 0, none⟩ = some (.slice none 0 0) := cell_of_row wr _ 0 _ _ _ HR
      have z0 : wr.frozen? ⟨w.heap.size + 1, 0, none⟩ = false := frozen_of_row wr _ 0 _ _ HR
      have r1 : wr.cell? ⟨w.heap.size + 1, 1, none⟩ = some (.slice none 0 0) := cell_of_row wr _ 1 _ _ _ HR
      have z1 : wr.frozen? ⟨w.heap.size + 1, 1, none⟩ = false := frozen_of_row wr _ 1 _ _ HR
      have r2 : wr.cell? ⟨w.heap.size + 1, 2, none⟩ = some (.slice none 0 0) := cell_of_row wr _ 2 _ _ _ HR
      have z2 : wr.frozen? ⟨w.heap.size + 1, 2, none⟩ = false := frozen_of_row wr _ 2 _ _ HR
      have r3 : wr.cell? ⟨w.heap.size + 1, 3, none⟩ = some (.bool false) := cell_of_row wr _ 3 _ _ _ HR
      have z3 : wr.frozen? ⟨w.heap.size + 1, 3, none⟩ = false := frozen_of_row wr _ 3 _ _ HR
      have r4 : wr.cell? ⟨w.heap.size + 1, 4, none⟩ = some (.bool false) := cell_of_row wr _ 4 _ _ _ HR
      have z4 : wr.frozen? ⟨w.heap.size + 1, 4, none⟩ = false := frozen_of_row wr _ 4 _ _ HR
      have r5 : wr.cell? ⟨w.heap.size + 1, 5, none⟩ = some (.bool false) := cell_of_row wr _ 5 _ _ _ HR
      have z5 : wr.frozen? ⟨w.heap.size + 1, 5, none⟩ = false := frozen_of_row wr _ 5 _ _ HR
      clear HO HR
      go_wp2_with fail
      refine bodyPost_ret (v := .agg #[.slice x0 (n 0) (n 0), .slice x1 (n 1) (n 1), .slice x2 (n 2) (n 2), .bool (nl 0), .bool (nl 1), .bool (nl 2)]) ?_ rfl ?_
      · simp [results, Try.results10, go_sem, r0, r1, r2, r3, r4, r5]
      · refine ⟨fun | 0 => x0 | 1 => x1 | _ => x2, rfl, ?_, ?_⟩
        · intro j hj
          obtain rfl | rfl | rfl : j = 0 ∨ j = 1 ∨ j = 2 := by omega
          · refine StrsFrom.mono (B := w.heap.size + 3) ?_ (by omega)
            iterate 6 refine StrsFrom.setCell ?_ (by simp) _
            exact h0
          · refine StrsFrom.mono (B := w.heap.size + 3) ?_ (by omega)
            iterate 6 refine StrsFrom.setCell ?_ (by simp) _
            exact h1
          · refine StrsFrom.mono (B := w.heap.size + 3) ?_ (by omega)
            iterate 6 refine StrsFrom.setCell ?_ (by simp) _
            exact h2
        · iterate 6 refine Below.setCell ?_ (by simp) _
          exact hbl
end Go.Proofs.Qxb6603301a
