/-
  THE WALKS of cloneBytes, elemBytes, Bytes, Elems, ZZValue, ZZNewPubsubKind.
-/
import Derived.Test.Qxb6603301aBase
namespace Go.Proofs.Qxb6603301a
open Go.RowKit Go.Maps
set_option linter.unusedVariables false

/-- THE SLICE AT a HOLDS THE BYTES f, n of them. -/
def BytesAt (w : World) (a : Option Addr) (n : Nat) (f : Nat → Int) : Prop :=
  0 < n → ∃ b off, a = some ⟨b, off, none⟩ ∧ ∀ i, i < n → w.cell? ⟨b, off + i, none⟩ = some (.int .u8 (f i))

theorem BytesAt.later {w w' : World} {a : Option Addr} {n : Nat} {f : Nat → Int} (h : BytesAt w a n f) (hb : Below w.heap.size w w') : BytesAt w' a n f := by
  intro h0
  obtain ⟨b, off, e, hc⟩ := h h0
  exact ⟨b, off, e, fun i hi => cellLater hb (hc i hi)⟩

theorem addr_plain (b off j : Nat) : (⟨b, off, none⟩ : Addr).add j = ⟨b, off + j, none⟩ := by unfold Addr.add; split <;> simp_all

/-- what string(b) gives -/
def bstr (f : Nat → Int) (n : Nat) : ByteArray := strOfNums ((List.range n).map f)

theorem bstr_size (f : Nat → Int) (n : Nat) : (bstr f n).size = n := by simp [bstr, strOfNums_size]

theorem conv_any {w : World} {a : Option Addr} {n : Nat} {f : Nat → Int} (h : BytesAt w a n f) (c : Nat) : (convert 28 9 (.slice a n c)).run Try.prog w = .ok (.string (bstr f n)) w := by
  by_cases h0 : 0 < n
  · obtain ⟨b, off, rfl, hc⟩ := h h0
    exact run_convert_bytes_arg (P := Try.prog) w 28 5 Try.underlying28 Try.underlying5 b off n c ((List.range n).map f) (by simp) (fun i hi => by rw [hc i hi]; simp [hi]) 9 Try.underlying9
  · obtain rfl : n = 0 := by omega
    cases a with
    | none => exact run_convert_bytes_nil (P := Try.prog) w 28 5 Try.underlying28 Try.underlying5 0 c 9 Try.underlying9
    | some x =>
      rw [run_convert_bytes_string (P := Try.prog) w 28 9 5 _ 0 c Try.underlying28 Try.underlying5 Try.underlying9]
      have hl : (loadCells x 0).run Try.prog w = .ok (([] : List Int).map (Value.int .u8)).toArray w := by
        simpa using run_loadCells_list (P := Try.prog) w x [] (by simp)
      exact run_bytesToString (P := Try.prog) w x 0 c [] hl

/-- where a value's bytes lie: a verbatim string's data stand behind its format and colon -/
def subO (k m : Int) : Nat := if k = 13 then (m + 1).toNat else 0
def subA (k : Int) (a : Option Addr) (c : Nat) (m : Int) : Option Addr := if k = 13 then (if c = (m + 1).toNat then a else a.map (fun x => x.add (m + 1).toNat)) else a

theorem sub_bytes {w : World} {k m : Int} {a : Option Addr} {n c : Nat} {f : Nat → Int} (h : BytesAt w a n f) (hc : n ≤ c) : BytesAt w (subA k a c m) (n - subO k m) (fun i => f (i + subO k m)) := by
  intro h0
  obtain ⟨b, off, rfl, hcs⟩ := h (by omega)
  by_cases hk : k = 13
  · have e : subO k m = (m + 1).toNat := by simp [subO, hk]
    rw [e] at h0 ⊢
    refine ⟨b, off + (m + 1).toNat, ?_, fun i hi => ?_⟩
    · unfold subA
      rw [if_pos hk, if_neg (by omega)]
      simp [addr_plain]
    · have := hcs (i + (m + 1).toNat) (by omega)
      rw [← this]; congr 2; omega
  · have e : subO k m = 0 := by simp [subO, hk]
    rw [e] at h0 ⊢
    exact ⟨b, off, by simp [subA, hk], fun i hi => hcs i (by omega)⟩

theorem elemBytes_any (w : World) (k : Int) (a : Option Addr) (n c : Nat) (m : Int) (hw : k = 13 → 0 ≤ m ∧ m < n) (hn : n ≤ 1048576) :
    Calls Try.prog 16 #[.agg #[.int .u8 k, .slice a n c, .int .i64 m]] w fun e w' => e = .returned (.slice (subA k a c m) (n - subO k m) (c - subO k m)) ∧ Below w.heap.size w w' := by
  by_cases hk : k = 13
  · obtain ⟨h0, h1⟩ := hw hk
    subst hk
    by_cases hc : c = (m + 1).toNat
    · subst hc
      have E : Hid (subA 13 a (m + 1).toNat m = a ∧ subO 13 m = (m + 1).toNat) := by simp [Hid, subA, subO]
      go_enter Try.func16, Try.ntmps16
      go_wp2
      go_ret
      rw [E.out.1, E.out.2, Nat.sub_self]
      exact ⟨rfl, (Below.refl _ _).alloc (Nat.le_refl _) _⟩
    · have E : Hid (subA 13 a c m = a.map (fun x => x.add (m + 1).toNat) ∧ subO 13 m = (m + 1).toNat) := by simp [Hid, subA, subO, hc]
      go_enter Try.func16, Try.ntmps16
      go_wp2
      go_ret
      rw [E.out.1, E.out.2]
      exact ⟨rfl, (Below.refl _ _).alloc (Nat.le_refl _) _⟩
  · have E : Hid (subA k a c m = a ∧ subO k m = 0) := by simp [Hid, subA, subO, hk]
    have hb : (k == 13) = false := by simp [hk]
    clear hw hk
    go_enter Try.func16, Try.ntmps16
    go_wp2
    go_ret
    rw [E.out.1, E.out.2]
    exact ⟨rfl, (Below.refl _ _).alloc (Nat.le_refl _) _⟩

theorem vBytes_any (w : World) (k : Int) (a : Option Addr) (n c : Nat) (m : Int) (v3 : Value) (hw : k = 13 → 0 ≤ m ∧ m < n) (hn : n ≤ 1048576) :
    Calls Try.prog 29 #[.agg #[.int .u8 k, .slice a n c, .int .i64 m, v3]] w fun e w' => e = .returned (.slice (subA k a c m) (n - subO k m) (c - subO k m)) ∧ Below w.heap.size w w' := by
  by_cases hk : k = 13
  · obtain ⟨h0, h1⟩ := hw hk
    subst hk
    by_cases hc : c = (m + 1).toNat
    · subst hc
      have E : Hid (subA 13 a (m + 1).toNat m = a ∧ subO 13 m = (m + 1).toNat) := by simp [Hid, subA, subO]
      go_enter Try.func29, Try.ntmps29
      go_wp2
      go_ret
      rw [E.out.1, E.out.2, Nat.sub_self]
      exact ⟨rfl, (Below.refl _ _).alloc (Nat.le_refl _) _⟩
    · have E : Hid (subA 13 a c m = a.map (fun x => x.add (m + 1).toNat) ∧ subO 13 m = (m + 1).toNat) := by simp [Hid, subA, subO, hc]
      go_enter Try.func29, Try.ntmps29
      go_wp2
      go_ret
      rw [E.out.1, E.out.2]
      exact ⟨rfl, (Below.refl _ _).alloc (Nat.le_refl _) _⟩
  · have E : Hid (subA k a c m = a ∧ subO k m = 0) := by simp [Hid, subA, subO, hk]
    have hb : (k == 13) = false := by simp [hk]
    clear hw hk
    go_enter Try.func29, Try.ntmps29
    go_wp2
    go_ret
    rw [E.out.1, E.out.2]
    exact ⟨rfl, (Below.refl _ _).alloc (Nat.le_refl _) _⟩

theorem vElems_any (w : World) (v0 v1 v2 : Value) (a : Option Addr) (n c : Nat) :
    Calls Try.prog 28 #[.agg #[v0, v1, v2, .slice a n c]] w fun e w' => e = .returned (.slice a n c) ∧ Below w.heap.size w w' := by
  go_enter Try.func28, Try.ntmps28
  go_wp2
  go_ret
  exact ⟨rfl, (Below.refl _ _).alloc (Nat.le_refl _) _⟩

theorem newKind_any (w : World) (s : ByteArray) (f e : Int) :
    Calls Try.prog 13 #[.string s, .int .u8 f, .int .u8 e] w fun en w' => en = .returned (.pointer (some ⟨w.heap.size, 0, none⟩)) ∧ w' = w.alloc (.cells #[.string s, .int .u8 f, .int .u8 e] 67) := by
  go_enter Try.func13, Try.ntmps13
  go_wp2
  go_ret
  exact ⟨rfl, rfl⟩

theorem zzvalue_any (w : World) (k : Int) (a b : Option Addr) (n c n' c' : Nat) (m : Int) :
    Calls Try.prog 26 #[.int .u8 k, .slice a n c, .int .i64 m, .slice b n' c'] w fun e w' => e = .returned (.agg #[.int .u8 k, .slice a n c, .int .i64 m, .slice b n' c']) ∧ Below w.heap.size w w' := by
  go_enter Try.func26, Try.ntmps26
  go_wp2
  exact bodyPost_ret (v := .agg #[.int .u8 k, .slice a n c, .int .i64 m, .slice b n' c']) (by simp [results, Try.results26, go_sem]) rfl ⟨rfl, (Below.refl _ _).alloc (Nat.le_refl _) _⟩

/-- the row behind k rounds of cloneBytes -/
def cp (f : Nat → Int) (n k : Nat) : List Value := (List.range n).map fun j => if j < k then .int .u8 (f j) else .int .u8 0

theorem cp_zero (f : Nat → Int) (n : Nat) : cp f n 0 = List.replicate n (.int .u8 0) := by
  apply List.ext_getElem?
  intro j
  simp [cp, List.getElem?_replicate]
  by_cases h : j < n <;> simp [h]

theorem cp_set (f : Nat → Int) (n k : Nat) (h : k < n) : (cp f n k).set k (.int .u8 (f k)) = cp f n (k + 1) := by
  apply List.ext_getElem?
  intro j
  by_cases hj : j < n
  · by_cases hk : k = j
    · subst hk; simp [cp, h]
    · simp [cp, hj, hk]
      by_cases h1 : j < k
      · simp [h1, show j < k + 1 by omega]
      · simp [h1, show ¬ j < k + 1 by omega]
  · have h1 : (cp f n (k + 1))[j]? = none := by simp [cp]; omega
    have h2 : ((cp f n k).set k (.int .u8 (f k)))[j]? = none := by simp [cp]; omega
    rw [h1, h2]

theorem cp_get (f : Nat → Int) (n k : Nat) (h : k < n) : (cp f n n)[k]? = some (.int .u8 (f k)) := by simp [cp, h]

theorem Try.info5 : (Try.prog.info? 5).map (fun i => (i.zero, i.size, i.bytes)) = some (some (.int .u8 0), 1, 1) := by kernel_rfl

theorem cloneBytes_nil (w : World) : Calls Try.prog 24 #[.slice none 0 0] w fun e w' => e = .returned (.slice none 0 0) ∧ Below w.heap.size w w' := by
  have hnil := fun (wx : World) => Lib.run_eql_slice_nil (P := Try.prog) wx 28 5 none 0 0 0 0 Try.underlying28
  go_enter Try.func24, Try.ntmps24
  go_wp2
  go_ret
  exact ⟨rfl, Below.refl _ _⟩

set_option maxHeartbeats 400000 in
theorem cloneBytes_some (f : Nat → Int) (x : Addr) (n c : Nat) (w : World) (hn : n ≤ 1048576) (hf : BytesAt w (some x) n f) :
    Calls Try.prog 24 #[.slice (some x) n c] w fun e w' => e = .returned (.slice (some ⟨w.heap.size, 0, none⟩) n n) ∧
      w'.ownsRow w.heap.size 5 1 (.slice (some ⟨w.heap.size, 0, none⟩) n n) n (cp f n n) ∧ Below w.heap.size w w' := by
  obtain ⟨i0, hi, hz0, hz1, hz2⟩ := info_parts Try.info5
  have hnil := fun (wx : World) => Lib.run_eql_slice_nil (P := Try.prog) wx 28 5 (some x) n c 0 0 Try.underlying28
  go_enter Try.func24, Try.ntmps24
  go_wp2_with (at_make; refine wpList_make_full _ rfl (.tmp 8) (.tmp 8) 28 rfl w.heap.size 5 i0 (.int .u8 0) 1 Try.underlying28 hi hz0 hz1 .i64 .i64 n n n rfl rfl rfl rfl (by rw [hz2]; omega) (by unfold maxLen; omega) (Nat.le_refl _) ?_; intro w1 hown hgrow)
  have hbel : Below w.heap.size w w1 := (Below.refl _ _).grown hgrow (Nat.le_refl _) (by intro k h; cases h)
  have hown0 : w1.ownsRow w.heap.size 5 1 (.slice (some ⟨w.heap.size, 0, none⟩) n n) n (cp f n 0) := by
    rw [cp_zero, ← toList_madeCells_one]; simpa [Value.cells] using hown
  clear hown hgrow
  go_loopw [4] (fun t wr => ∃ k : Nat, k ≤ n ∧ t = .int .i64 k ∧ wr.ownsRow w.heap.size 5 1 (.slice (some ⟨w.heap.size, 0, none⟩) n n) n (cp f n k) ∧ Below w.heap.size w wr) (fun t _ => n - (intOf t).toNat)
  case atStart => exact ⟨0, Nat.zero_le _, rfl, hown0, hbel⟩
  case round =>
    obtain ⟨k, hk, rfl, hown, hbl⟩ := hrel
    by_cases hlt : k < n
    · obtain ⟨b, off, ex, hcs⟩ := hf (by omega)
      obtain rfl : x = ⟨b, off, none⟩ := by simpa using ex
      have hc1 := cellLater hbl (hcs k hlt)
      have hc2 : wr.cell? ⟨w.heap.size, k, none⟩ = some (.int .u8 0) := (hown.cellAt k (by omega)).trans (by simp [cp, hlt])
      have hfr := hown.frozenAt k
      have hst := hown.stored k (.int .u8 (f k))
      have H1 : Hid ((wr.setCell ⟨w.heap.size, k, none⟩ (.int .u8 (f k))).ownsRow w.heap.size 5 1 (.slice (some ⟨w.heap.size, 0, none⟩) n n) n (cp f n (k + 1))) := by
        rw [← cp_set f n k hlt]; exact hst.1
      have H2 : Hid (Below w.heap.size w (wr.setCell ⟨w.heap.size, k, none⟩ (.int .u8 (f k)))) := hbl.setCell (Nat.le_refl _) _
      clear hst hown hbl hcs hf ex
      go_wp2
      go_roundw
      case rel => exact ⟨k + 1, by omega, by go_num, H1.out, H2.out⟩
      case measure => simp [intOf]; omega
    · have hkn : k = n := by omega
      subst hkn
      go_wp2
      go_ret
      exact ⟨rfl, hown, hbl⟩

/-- 'cloneBytes(b)': the same bytes in memory of the call's own; nil stays nil -/
theorem cloneBytes_any (f : Nat → Int) (a : Option Addr) (n c : Nat) (w : World) (ha : a = none → n = 0 ∧ c = 0) (hn : n ≤ 1048576) (hf : BytesAt w a n f) :
    Calls Try.prog 24 #[.slice a n c] w fun e w' => ∃ a', e = .returned (.slice a' n n) ∧ BytesAt w' a' n f ∧ Below w.heap.size w w' := by
  cases a with
  | none =>
    obtain ⟨rfl, rfl⟩ := ha rfl
    exact (cloneBytes_nil w).mono fun e w' ⟨h1, h2⟩ => ⟨none, h1, fun h => absurd h (by omega), h2⟩
  | some x =>
    exact (cloneBytes_some f x n c w hn hf).mono fun e w' ⟨h1, h2, h3⟩ => ⟨_, h1, fun _ => ⟨_, _, rfl, fun i hi => by rw [Nat.zero_add, h2.cellAt i (by omega)]; exact cp_get f n i hi⟩, h3⟩
end Go.Proofs.Qxb6603301a
