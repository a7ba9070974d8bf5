/-
  THE WALKS of ZZValueEnd, of the bound and of the law FnValueEndMatchesJSONGrammar.
-/
import Derived.Test.Qxb6603337aVAt
import Derived.Test.Qxb6603337aVEnd
import Derived.Laws.CopyOwn
namespace Go.Proofs.Qxb6603337a
open Go.RowKit
set_option linter.unusedVariables false

theorem zzEnd_any (w : World) (a : Option Addr) (n c t e : Nat) (F : Nat → Nat) (hn : n ≤ 1048576) (hf : TextAt w a n F) (h : Ok F n t e) :
    Calls Try.prog 17 #[.slice a n c, .int .i64 t] w fun en w' => en = .returned (.int .i64 e) ∧ w' = w := by
  have HC := Lib.hid (valueEnd_any w a n c t e F hn hf h)
  clear hf h
  go_enter Try.func17, Try.ntmps17
  go_wp2_with fail
  refine HC.out.mono ?_
  rintro en w1 ⟨rfl, hw⟩
  obtain rfl := hw.symm
  go_wp2_with fail
  go_ret
  exact ⟨rfl, rfl⟩

theorem bound15 (w : World) (a : Option Addr) (n c : Nat) (x : Int) (hn : n ≤ 9223372036854775807) :
    Calls Try.prog 15 #[.slice a n c, .int .i64 x] w fun e w' => e = .returned (.bool (decide (n ≤ 1048576))) ∧ w' = w := by
  by_cases h : n ≤ 1048576
  · have HD : Hid (decide (n ≤ 1048576) = true) := by simp [Hid, h]
    go_enter Try.func15, Try.ntmps15
    go_wp2
    go_ret
    exact ⟨ret_bool HD.out.symm, rfl⟩
  · have HD : Hid (decide (n ≤ 1048576) = false) := by simp [Hid, h]
    go_enter Try.func15, Try.ntmps15
    go_wp2
    go_ret
    exact ⟨ret_bool HD.out.symm, rfl⟩

theorem Try.infoU8 : (Try.prog.info? 5).map (fun i => (i.zero, i.size, i.bytes)) = some (some (.int .u8 0), 1, 1) := by kernel_rfl
def vcells (s : ByteArray) : List Value := (List.range s.size).map fun k => Value.int .u8 ((bt s k : Nat) : Int)

set_option maxRecDepth 100000 in
set_option maxHeartbeats 2000000 in
theorem law_value (w : World) (a : Option Addr) (c : Nat) (s : ByteArray) (x : Int) (hxl : -9223372036854775808 ≤ x) (hxh : x ≤ 9223372036854775807) (hn : s.size ≤ 9223372036854775807) (hf : TextAt w a s.size (bt s)) :
    Calls Try.prog 6 #[.slice a s.size c, .int .i64 x] w fun e w' => e = .returned (.bool true) ∧ Below w.heap.size w w' := by
  obtain ⟨i0, hi, hz0, hz1, hz2⟩ := info_parts Try.infoU8
  have hi1 : Hid ((Try.prog.info? 5).map (·.size) = some 1) := by show _ = _; rw [hi]; simp [hz1]
  have HF := Lib.hid hf
  clear hf
  go_enter Try.func6, Try.ntmps6
  go_wp2_with fail
  refine (bound15 w a s.size c x hn).mono ?_
  rintro e w1 ⟨rfl, hw1⟩
  obtain rfl := hw1.symm
  by_cases hs : s.size ≤ 1048576
  case neg =>
    have hd : decide (s.size ≤ 1048576) = false := by simp [hs]
    go_wp2_with fail
    go_ret
    exact ⟨rfl, Below.refl _ _⟩
  have hd : decide (s.size ≤ 1048576) = true := by simp [hs]
  by_cases hx0 : x < 0
  · have d0 : decide (x < 0) = true := by simp [hx0]
    go_wp2_with fail
    go_ret
    exact ⟨rfl, Below.refl _ _⟩
  have d0 : decide (x < 0) = false := by simp; omega
  by_cases hxn : (s.size : Int) ≤ x
  · have d1 : decide ((s.size : Int) ≤ x) = true := by simp [hxn]
    go_wp2_with fail
    go_ret
    exact ⟨rfl, Below.refl _ _⟩
  have d1 : decide ((s.size : Int) ≤ x) = false := by simp; omega
  obtain ⟨t, rfl⟩ : ∃ t : Nat, x = t := ⟨x.toNat, by omega⟩
  have htn : t < s.size := by omega
  obtain ⟨b, off, rfl, _⟩ := HF.out (by omega)
  have hnil2 : ∀ (wx : World), (binOp .eql 24 (.slice (some ⟨b, off, none⟩) s.size c) (.slice none 0 0)).run Try.prog wx = .ok (.bool false) wx := fun wx => Lib.run_eql_slice_nil (P := Try.prog) wx 24 5 (some ⟨b, off, none⟩) s.size c 0 0 Try.underlying24
  go_upto_region 9 with (at_make; refine wpList_make_full _ rfl (.tmp 26) (.tmp 26) 24 rfl w.heap.size 5 i0 (.int .u8 0) 1 Try.underlying24 hi hz0 hz1 .i64 .i64 s.size s.size s.size rfl rfl rfl rfl (by rw [hz2]; omega) (by unfold maxLen; omega) (Nat.le_refl _) ?_; intro w2 hown hgrow)
  have hb2 : Below w.heap.size w w2 := (Below.refl _ _).grown hgrow (Nat.le_refl _) (by intro k h; cases h)
  have hblk : ∃ cur : List Value, cur.length = s.size ∧ w2.heap[w.heap.size]? = some (.cells cur.toArray 5 (0, 0)) := by
    rcases hown.2 with ⟨h, _⟩ | ⟨g, cap, cur, h1, h2, h3, h4, h5, h6, h7⟩
    · cases h
    · cases h1
      exact ⟨cur.toList, by simpa using h6, by simpa using h3⟩
  obtain ⟨cur, hcl, hcur⟩ := hblk
  have HCC : Hid (w2.heap[w.heap.size]? = some (.cells cur.toArray 5 (0, 0))) := hcur
  have HCL := Lib.hid hcl
  have hlen : (vcells s).length = s.size := by simp [vcells]
  have HSRC : Hid (∀ j v, (vcells s)[j]? = some v → w2.cell? ((⟨b, off, none⟩ : Addr).add j) = some v) := by
    intro j v hj
    have hjl : j < s.size := by
      rcases Nat.lt_or_ge j s.size with h | h
      · exact h
      · rw [List.getElem?_eq_none (by rw [hlen]; exact h)] at hj; cases hj
    obtain ⟨b', off', e, hc⟩ := (HF.out.later hb2) (by omega)
    cases e
    rw [addr_plain, hc j hjl]
    simpa [vcells, hjl] using hj
  have HLEN := Lib.hid hlen
  clear hown hgrow hcl hcur hlen
  go_upto_region 11 with (refine wpList_copy_splice rfl (.tmp 28) (.tmp 29) 24 24 rfl 5 Try.underlying24 hi1.out (some ⟨w.heap.size, 0, none⟩) (some ⟨b, off, none⟩) s.size s.size s.size c rfl rfl w.heap.size 0 cur 5 HCC.out (vcells s) (by rw [HLEN.out]; exact (Nat.min_self _).symm) (fun _ => ⟨rfl, _, rfl, HSRC.out⟩) (by rw [HLEN.out, HCL.out]; omega) (by intro v hv; simp [vcells] at hv; obtain ⟨k, _, rfl⟩ := hv; rfl) w.heap.size w hb2 (Nat.le_refl _) ?_; intro w3 HSP hb3)
  have HF3 : Hid (TextAt w3 (some ⟨w.heap.size, 0, none⟩) s.size (bt s)) := fun _ => ⟨w.heap.size, 0, rfl, fun k hk => by
    have h := HSP.out
    have e : splice cur 0 (vcells s) = vcells s := by
      unfold splice
      rw [List.drop_of_length_le (by rw [HLEN.out, HCL.out]; omega)]
      simp
    rw [e] at h
    rw [Nat.zero_add]
    simp [World.cell?, h, vcells, hk]⟩
  have HB3 := Lib.hid hb3
  clear hb3 hb2 HSP HCC HCL HSRC HLEN hnil2
  go_wp2_with fail
  refine (endAt_any w3 _ s.size s.size t (bt s) hs htn HF3.out).mono ?_
  rintro e w4 ⟨⟨r, rfl, hok⟩ | rfl, hb4⟩
  case inr =>
    have HB4 := Lib.hid (below_step HB3.out (Nat.le_refl _) hb4)
    clear hb4
    go_wp2_with fail
    go_ret
    exact ⟨rfl, HB4.out⟩
  have HB4 := Lib.hid (below_step HB3.out (Nat.le_refl _) hb4)
  have HF4 := Lib.hid (HF3.out.later hb4)
  have HOK := Lib.hid hok
  clear hb4 hok
  go_wp2_with fail
  refine (zzEnd_any w4 _ s.size s.size t r (bt s) hs HF4.out HOK.out).mono ?_
  rintro e w5 ⟨rfl, hw5⟩
  obtain rfl := hw5.symm
  go_wp2_with fail
  go_ret
  exact ⟨rfl, HB4.out⟩
end Go.Proofs.Qxb6603337a
