/-
  THE WALKS of ZZNewYAMLLines and of the law FnYAMLLinesMatchByteModel.
-/
import Derived.Test.Qxb6603337aYNew
import Derived.Laws.CopyOwn
namespace Go.Proofs.Qxb6603337a
open Go.RowKit
set_option linter.unusedVariables false

/-- what ZZNewYAMLLines leaves -/
def ZPost (w : World) (s : ByteArray) (e : Ending) (w' : World) : Prop :=
  ∃ v1 v2 B, e = .returned (.tuple #[v1, v2]) ∧ Own w' B v1 (endsAll (bt s) s.size) ∧ Own w' B v2 (partTo (bt s) s.size s.size) ∧ Below w.heap.size w w'

set_option maxHeartbeats 1000000 in
theorem zzNew_any (w : World) (a : Option Addr) (c : Nat) (s : ByteArray) (hn : s.size ≤ 1048576) (hf : TextAt w a s.size (bt s)) :
    Calls Try.prog 20 #[.slice a s.size c] w (ZPost w s) := by
  have HC := Lib.hid (newLines_any w a c s hn hf)
  clear hf
  go_enter Try.func20, Try.ntmps20
  go_wp2_with fail
  refine HC.out.mono ?_
  rintro e w1 ⟨v1, v2, B, rfl, ho1, ho2, hb⟩
  obtain ⟨E1, hE1⟩ : ∃ E1, E1 = endsAll (bt s) s.size := ⟨_, rfl⟩
  obtain ⟨E2, hE2⟩ : ∃ E2, E2 = partTo (bt s) s.size s.size := ⟨_, rfl⟩
  rw [← hE1] at ho1
  rw [← hE2] at ho2
  have HE1 := Lib.hid hE1
  have HE2 := Lib.hid hE2
  obtain ⟨a1, c1, rfl, _, _⟩ := ho1.ints
  obtain ⟨a2, c2, rfl, _, _⟩ := ho2.ints
  have HO1 := Lib.hid ho1
  have HO2 := Lib.hid ho2
  have HB := Lib.hid hb
  clear ho1 ho2 hb HC hE1 hE2
  go_upto_region 2 with fail
  obtain ⟨w2, hw2⟩ : ∃ w2, w2 = w1.alloc (.cells #[.slice a1 E1.length c1, .slice a2 E2.length c2] 43) := ⟨_, rfl⟩
  rw [← hw2]
  have hl : w2.heap[w1.heap.size]? = some (.cells #[.slice a1 E1.length c1, .slice a2 E2.length c2] 43 (0, 0)) := by rw [hw2]; exact heap_alloc_new' _ _ rfl
  have HB2 : Hid (Below w1.heap.size w1 w2) := by rw [hw2]; exact below_alloc _ _
  obtain ⟨q0, q1, q2, q3⟩ := two_cells hl
  clear hw2 hl
  go_quiet (fail)
  go_wp2_with fail
  go_ret2
  have hbb : Below w1.heap.size w1 (w2.drewN nq) := below_drewN HB2.out _
  exact ⟨_, _, B, rfl, (by rw [← HE1.out]; exact HO1.out.later hbb), (by rw [← HE2.out]; exact HO2.out.later hbb), below_step HB.out (Nat.le_refl _) hbb⟩

theorem Try.info5 : (Try.prog.info? 5).map (fun i => (i.zero, i.size, i.bytes)) = some (some (.int .u8 0), 1, 1) := by kernel_rfl

/-- behind the copy: ends and parted, as the model has them -/
def bcells (s : ByteArray) : List Value := (List.range s.size).map fun k => Value.int .u8 ((bt s k : Nat) : Int)

set_option maxRecDepth 100000 in
set_option maxHeartbeats 2000000 in
theorem law_yaml (w : World) (a : Option Addr) (c : Nat) (s : ByteArray) (ha : a = none → s.size = 0 ∧ c = 0) (hn : s.size ≤ 9223372036854775807) (hf : TextAt w a s.size (bt s)) :
    Calls Try.prog 8 #[.slice a s.size c] w fun e w' => e = .returned (.bool true) ∧ Below w.heap.size w w' := by
  obtain ⟨i0, hi, hz0, hz1, hz2⟩ := info_parts Try.info5
  have hi1 : Hid ((Try.prog.info? 5).map (·.size) = some 1) := by show _ = _; rw [hi]; simp [hz1]
  have HF := Lib.hid hf
  clear hf
  have hnil := fun (wx : World) => Lib.run_eql_slice_nil (P := Try.prog) wx 24 5 a s.size c 0 0 Try.underlying24
  go_enter Try.func8, Try.ntmps8
  go_wp2_with fail
  refine (bound19 w a s.size c hn).mono ?_
  rintro e w1 ⟨rfl, hw1⟩
  obtain rfl := hw1.symm
  by_cases hs : s.size ≤ 1048576
  case neg =>
    have hd : decide (s.size ≤ 1048576) = false := by simp [hs]
    go_wp2_with fail
    go_ret
    exact ⟨rfl, Below.refl _ _⟩
  have hd : decide (s.size ≤ 1048576) = true := by simp [hs]
  go_upto_if 13 with fail
  go_cut [0, 3] (fun t0 _ wx => ∃ a2 c2, t0 = .slice a2 s.size c2 ∧ Hid (TextAt wx a2 s.size (bt s)) ∧ Below w.heap.size w wx)
  case first =>
    cases a with
    | none =>
      obtain ⟨hs0, hc0⟩ := ha rfl
      have HS0 := Lib.hid hs0
      subst hc0
      clear hs0
      go_wp2_with fail
      go_meet
      exact ⟨none, 0, by first | rfl | rw [HS0.out], HF, Below.refl _ _⟩
    | some x =>
      have hnil2 : ∀ (wx : World), (binOp .eql 24 (.slice (some x) s.size c) (.slice none 0 0)).run Try.prog wx = .ok (.bool false) wx := hnil
      go_upto_region 7 with (at_make; refine wpList_make_full _ rfl (.tmp 15) (.tmp 15) 24 rfl w.heap.size 5 i0 (.int .u8 0) 1 Try.underlying24 hi hz0 hz1 .i64 .i64 s.size s.size s.size rfl rfl rfl rfl (by rw [hz2]; omega) (by unfold maxLen; omega) (Nat.le_refl _) ?_; intro w2 hown hgrow)
      have hb2 : Below w.heap.size w w2 := (Below.refl _ _).grown hgrow (Nat.le_refl _) (by intro k h; cases h)
      have hblk : ∃ cur : List Value, cur.length = s.size ∧ w2.heap[w.heap.size]? = some (.cells cur.toArray 5 (0, 0)) := by
        rcases hown.2 with ⟨h, _⟩ | ⟨g, cap, cur, h1, h2, h3, h4, h5, h6, h7⟩
        · cases h
        · cases h1
          exact ⟨cur.toList, by simpa using h6, by simpa using h3⟩
      obtain ⟨cur, hcl, hcur⟩ := hblk
      have HCC : Hid (w2.heap[w.heap.size]? = some (.cells cur.toArray 5 (0, 0))) := hcur
      have HCL := Lib.hid hcl
      have hlen : (bcells s).length = s.size := by simp [bcells]
      have HSRC : Hid (∀ j v, (bcells s)[j]? = some v → w2.cell? (x.add j) = some v) := by
        intro j v hj
        have hjl : j < s.size := by
          rcases Nat.lt_or_ge j s.size with h | h
          · exact h
          · rw [List.getElem?_eq_none (by rw [hlen]; exact h)] at hj; cases hj
        obtain ⟨b, off, e, hc⟩ := (HF.out.later hb2) (by omega)
        cases e
        rw [addr_plain, hc j hjl]
        simpa [bcells, hjl] using hj
      have HLEN := Lib.hid hlen
      clear hown hgrow hcl hcur hlen
      go_wp2_with (refine wpList_copy_splice rfl (.tmp 17) (.tmp 18) 24 24 rfl 5 Try.underlying24 hi1.out (some ⟨w.heap.size, 0, none⟩) (some x) s.size s.size s.size c rfl rfl w.heap.size 0 cur 5 HCC.out (bcells s) (by rw [HLEN.out]; exact (Nat.min_self _).symm) (fun _ => ⟨rfl, x, rfl, HSRC.out⟩) (by rw [HLEN.out, HCL.out]; omega) (by intro v hv; simp [bcells] at hv; obtain ⟨k, _, rfl⟩ := hv; rfl) w.heap.size w hb2 (Nat.le_refl _) ?_; intro w3 HSP hb3)
      go_meet
      refine ⟨some ⟨w.heap.size, 0, none⟩, s.size, rfl, fun _ => ⟨w.heap.size, 0, rfl, fun k hk => ?_⟩, hb3⟩
      have h := HSP.out
      have e : splice cur 0 (bcells s) = bcells s := by
        unfold splice
        rw [List.drop_of_length_le (by rw [HLEN.out, HCL.out]; omega)]
        simp
      rw [e] at h
      rw [Nat.zero_add]
      simp [World.cell?, h, bcells, hk]
  case rest =>
    obtain ⟨a2, c2, rfl, HF2, hb2⟩ := hcut
    have HB2 := Lib.hid hb2
    clear hb2 HF
    go_wp2_with fail
    refine (zzNew_any wc a2 c2 s hs HF2.out).mono ?_
    rintro e w3 ⟨v1, v2, B, rfl, ho1, ho2, hb3⟩
    obtain ⟨a1, c1, rfl, _, hi1⟩ := ho1.ints
    obtain ⟨a4, c4, rfl, _, hi2⟩ := ho2.ints
    have HI1 := Lib.hid hi1
    have HI2 := Lib.hid hi2
    have HB3 := Lib.hid (below_step HB2.out (Nat.le_refl _) hb3)
    have HF3 := Lib.hid (HF2.out.later hb3)
    have hel := endsTo_len (bt s) s.size
    have hpl := partTo_len (bt s) s.size s.size
    have hll : (endsAll (bt s) s.size).length ≤ s.size + 1 := by
      unfold endsAll lastEnd
      rw [List.length_append]
      split <;> simp <;> omega
    clear ho1 ho2 hb3 hi1 hi2 HF2 HB2
    go_wp2_with fail
    refine (modelEnds_any w3 a2 s.size c2 (bt s) hs HF3.out).mono ?_
    rintro e w4 ⟨v4, rfl, ho4, hb4⟩
    obtain ⟨a5, c5, rfl, _, hi5⟩ := ho4.ints
    have HI5 := Lib.hid hi5
    have HI14 := Lib.hid (HI1.out.later hb4)
    have HI24 := Lib.hid (HI2.out.later hb4)
    have HB4 := Lib.hid (below_step HB3.out (Nat.le_refl _) hb4)
    have HF4 := Lib.hid (HF3.out.later hb4)
    clear ho4 hb4 hi5 HI1 HI2 HB3 HF3
    go_wp2_with fail
    refine (same_true w4 a1 a5 _ c1 c5 (endsAll (bt s) s.size) rfl (by omega) HI14.out HI5.out).mono ?_
    rintro e w5 ⟨rfl, hb5⟩
    have HB5 := Lib.hid (below_step HB4.out (Nat.le_refl _) hb5)
    have HF5 := Lib.hid (HF4.out.later hb5)
    have HI25 := Lib.hid (HI24.out.later hb5)
    clear hb5
    go_wp2_with fail
    refine (modelParted_any w5 a2 s.size c2 (bt s) hs HF5.out).mono ?_
    rintro e w6 ⟨v6, rfl, ho6, hb6⟩
    obtain ⟨a6, c6, rfl, _, hi6⟩ := ho6.ints
    have HI6 := Lib.hid hi6
    have HI26 := Lib.hid (HI25.out.later hb6)
    have HB6 := Lib.hid (below_step HB5.out (Nat.le_refl _) hb6)
    clear ho6 hb6 hi6
    go_wp2_with fail
    refine (same_true w6 a4 a6 _ c4 c6 (partTo (bt s) s.size s.size) rfl (by omega) HI26.out HI6.out).mono ?_
    rintro e w7 ⟨rfl, hb7⟩
    have HB7 := Lib.hid (below_step HB6.out (Nat.le_refl _) hb7)
    clear hb7
    go_wp2_with fail
    go_ret
    exact ⟨rfl, HB7.out⟩
end Go.Proofs.Qxb6603337a
