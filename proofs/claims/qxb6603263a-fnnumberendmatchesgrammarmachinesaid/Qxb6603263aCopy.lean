/-
  THE WALK of zzB1CopyBytes: a fresh row that holds the same bytes.
-/
import Derived.Test.Qxb6603263aSteps
namespace Go.Proofs.Qxb6603263a
open Go.RowKit

/-- the row behind k rounds: the first k bytes are copied, the rest are zero -/
def cp (f : Nat → Int) (n k : Nat) : List Value := (List.range n).map fun j => if j < k then .int .u8 (f j) else .int .u8 0

theorem cp_zero (f : Nat → Int) (n : Nat) : cp f n 0 = List.replicate n (.int .u8 0) := by
  apply List.ext_getElem?
  intro j
  simp [cp, List.getElem?_replicate]
  by_cases h : j < n <;> simp [h]

theorem cp_set (f : Nat → Int) (n k : Nat) (h : k < n) : (cp f n k).set k (.int .u8 (f k)) = cp f n (k + 1) := by
  apply List.ext_getElem?
  intro j
  by_cases hj : j < n
  · by_cases hk : k = j
    · subst hk; simp [cp, h]
    · simp [cp, hj, hk]
      by_cases h1 : j < k
      · simp [h1, show j < k + 1 by omega]
      · simp [h1, show ¬ j < k + 1 by omega]
  · have h1 : (cp f n (k + 1))[j]? = none := by simp [cp]; omega
    have h2 : ((cp f n k).set k (.int .u8 (f k)))[j]? = none := by simp [cp]; omega
    rw [h1, h2]

theorem cp_get (f : Nat → Int) (n k : Nat) (h : k < n) : (cp f n n)[k]? = some (.int .u8 (f k)) := by simp [cp, h]

theorem Try.info5 : (Try.prog.info? 5).map (fun i => (i.zero, i.size, i.bytes)) = some (some (.int .u8 0), 1, 1) := by kernel_rfl

set_option maxHeartbeats 400000 in
theorem copy_any (f : Nat → Int) (b off n c : Nat) (w : World) (h0 : 0 < n) (hn : n ≤ 1048576) (hf : ∀ k, k < n → w.cell? ⟨b, off + k, none⟩ = some (.int .u8 (f k))) :
    Calls Try.prog 7 #[.slice (some ⟨b, off, none⟩) n c] w fun e w' => e = .returned (.slice (some ⟨w.heap.size, 0, none⟩) n n) ∧
      w'.ownsRow w.heap.size 5 1 (.slice (some ⟨w.heap.size, 0, none⟩) n n) n (cp f n n) ∧ Below w.heap.size w w' := by
  have hb : b < w.heap.size := block_lt_of_cell (hf 0 h0)
  obtain ⟨i0, hi, hz0, hz1, hz2⟩ := info_parts Try.info5
  have hnil := fun (wx : World) => Lib.run_eql_slice_nil (P := Try.prog) wx 22 5 (some ⟨b, off, none⟩) n c 0 0 Try.underlying22
  go_enter Try.func7, Try.ntmps7
  go_wp2_with (at_make; refine wpList_make_full _ rfl (.tmp 8) (.tmp 8) 22 rfl w.heap.size 5 i0 (.int .u8 0) 1 Try.underlying22 hi hz0 hz1 .i64 .i64 n n n rfl rfl rfl rfl (by rw [hz2]; omega) (by unfold maxLen; omega) (Nat.le_refl _) ?_; intro w1 hown hgrow)
  have hbel : Below w.heap.size w w1 := (Below.refl _ _).grown hgrow (Nat.le_refl _) (by intro k h; cases h)
  have hown0 : w1.ownsRow w.heap.size 5 1 (.slice (some ⟨w.heap.size, 0, none⟩) n n) n (cp f n 0) := by
    rw [cp_zero, ← toList_madeCells_one]; simpa [Value.cells] using hown
  clear hown hgrow
  go_loopw [4] (fun t wr => ∃ k : Nat, k ≤ n ∧ t = .int .i64 k ∧ wr.ownsRow w.heap.size 5 1 (.slice (some ⟨w.heap.size, 0, none⟩) n n) n (cp f n k) ∧ Below w.heap.size w wr) (fun t _ => n - (intOf t).toNat)
  case atStart => exact ⟨0, Nat.zero_le _, rfl, hown0, hbel⟩
  case round =>
    obtain ⟨k, hk, rfl, hown, hbl⟩ := hrel
    by_cases hlt : k < n
    · have hc1 : wr.cell? ⟨b, off + k, none⟩ = some (.int .u8 (f k)) := (hbl.cell hb).trans (hf k hlt)
      have hc2 : wr.cell? ⟨w.heap.size, k, none⟩ = some (.int .u8 0) := (hown.cellAt k (by omega)).trans (by simp [cp, hlt])
      have hfr := hown.frozenAt k
      have hst := hown.stored k (.int .u8 (f k))
      have H1 : Hid ((wr.setCell ⟨w.heap.size, k, none⟩ (.int .u8 (f k))).ownsRow w.heap.size 5 1 (.slice (some ⟨w.heap.size, 0, none⟩) n n) n (cp f n (k + 1))) := by
        rw [← cp_set f n k hlt]; exact hst.1
      have H2 : Hid (Below w.heap.size w (wr.setCell ⟨w.heap.size, k, none⟩ (.int .u8 (f k)))) := hbl.setCell (Nat.le_refl _) _
      clear hst hown hbl
      go_wp2
      go_roundw
      case rel => exact ⟨k + 1, by omega, by go_num, H1.out, H2.out⟩
      case measure => simp [intOf]; omega
    · have hkn : k = n := by omega
      subst hkn
      go_wp2
      go_ret
      exact ⟨rfl, hown, hbl⟩
end Go.Proofs.Qxb6603263a
