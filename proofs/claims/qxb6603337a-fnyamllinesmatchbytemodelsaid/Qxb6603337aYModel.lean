/-
  THE WALKS of ylModelEndsB1 and ylModelPartedB1.
-/
import Derived.Test.Qxb6603337aYBase
namespace Go.Proofs.Qxb6603337a
open Go.RowKit
set_option linter.unusedVariables false

theorem own_nil (w : World) (B : Nat) : Own w B (.slice none 0 0) [] := World.ownsRow_nil _ _ _ _
theorem grown_below {w w1 : World} {B : Nat} {v : Value} {xs : List Int} (h : Own w B v xs) (hg : w.grownBy w1 v.ownBlock) (hB : B ≤ w.heap.size) : Below B w w1 :=
  (Below.refl _ _).grown hg hB (fun k hk => (World.ownsRow.lt h k hk).1)

set_option maxHeartbeats 2000000 in
theorem modelEnds_any (w : World) (a : Option Addr) (n c : Nat) (F : Nat → Nat) (hn : n ≤ 1048576) (hf : TextAt w a n F) :
    Calls Try.prog 22 #[.slice a n c] w fun e w' => ∃ v, e = .returned v ∧ Own w' w.heap.size v (endsAll F n) ∧ Below w.heap.size w w' := by
  have HF := Lib.hid hf
  clear hf
  go_enter Try.func22, Try.ntmps22
  go_wp2_with fail
  go_loopg [3, 4] n (fun gg v t wr => ∃ k : Nat, k ≤ n ∧ gg = n - k ∧ t = .int .i64 (k + 1 : Nat) ∧ Hid (Own wr w.heap.size v (endsTo F k)) ∧ Below w.heap.size w wr)
  case atStart => exact ⟨0, Nat.zero_le _, rfl, rfl, own_nil _ _, Below.refl _ _⟩
  case round =>
    obtain ⟨k, hk, hg, rfl, hO, hbr⟩ := hrel
    have hsz := hbr.size
    have hel := endsTo_len F k
    by_cases hlt : k < n
    · obtain ⟨b, off, rfl, hc⟩ := (HF.out.later hbr) (by omega)
      have c1 := hc k hlt
      by_cases h10 : F k = 10
      · have t1 : (((F k : Nat) : Int) == 10) = true := by simp [h10]
        have HE : Hid (endsTo F (k + 1) = endsTo F k ++ [((k + 1 : Nat) : Int)]) := by simp [Hid, endsTo, h10]
        clear hc h10
        generalize F k = x at *
        go_upto_region 4 with (at_builtin; refine wpList_int _ rfl (.tmp 17) (.tmp 19) rfl w.heap.size _ (endsTo F k) rfl (hO.out.later (below_alloc _ _)) (by simp; omega) wr.heap.size ((k + 1 : Nat) : Int) rfl (by simp) (by omega) ?_; intro v2 w2 hown2 hgrow2 _)
        have hb2 : Below w.heap.size w w2 := (hbr.alloc hsz _).trans (grown_below (hO.out.later (below_alloc _ _)) hgrow2 (by simp; omega))
        rw [← HE.out] at hown2
        have HO2 := Lib.hid hown2
        clear hown2 hgrow2 hO
        go_wp2_with fail
        go_roundg (n - (k + 1))
        case measure => omega
        case rel => exact ⟨k + 1, by omega, rfl, by go_num, HO2, hb2⟩
      · have t1 : (((F k : Nat) : Int) == 10) = false := by simp; omega
        have HE : Hid (endsTo F (k + 1) = endsTo F k) := by simp [Hid, endsTo, h10]
        have HO2 : Hid (Own wr w.heap.size u3 (endsTo F (k + 1))) := by show Own _ _ _ _; rw [HE.out]; exact hO.out
        clear hc h10 hO
        generalize F k = x at *
        go_wp2_with fail
        go_roundg (n - (k + 1))
        case measure => omega
        case rel => exact ⟨k + 1, by omega, rfl, by go_num, HO2, hbr⟩
    · obtain rfl : k = n := by omega
      by_cases h0 : k = 0
      · subst h0
        have HE : Hid (endsAll F 0 = endsTo F 0 ++ [0]) := rfl
        go_wp2_with (at_builtin; refine wpList_int _ rfl (.tmp 33) (.tmp 36) rfl w.heap.size _ (endsTo F 0) rfl (hO.out.later (below_alloc _ _)) (by simp; omega) wr.heap.size 0 rfl (by simp) (by omega) ?_; intro v2 w2 hown2 hgrow2 _)
        have hb2 : Below w.heap.size w w2 := (hbr.alloc hsz _).trans (grown_below (hO.out.later (below_alloc _ _)) hgrow2 (by simp; omega))
        go_ret
        rw [HE.out]
        exact ⟨_, rfl, hown2, hb2⟩
      · have t0 : ((k : Int) == 0) = false := by simp; omega
        obtain ⟨b, off, rfl, hc⟩ := (HF.out.later hbr) (by omega)
        have c1 := hc (k - 1) (by omega)
        have hki : ((k : Int) - 1).toNat = k - 1 := by omega
        by_cases h10 : F (k - 1) = 10
        · have HE : Hid (endsAll F k = endsTo F k) := by simp [Hid, endsAll, lastEnd, h0, h10]
          have t1 : (((F (k - 1) : Nat) : Int) == 10) = true := by simp [h10]
          clear hc h10
          generalize F (k - 1) = x at *
          go_wp2_with fail
          go_ret
          rw [HE.out]
          exact ⟨_, rfl, hO.out, hbr⟩
        · have HE : Hid (endsAll F k = endsTo F k ++ [(k : Int)]) := by simp [Hid, endsAll, lastEnd, h10]
          have t1 : (((F (k - 1) : Nat) : Int) == 10) = false := by simp; omega
          clear hc h10
          generalize F (k - 1) = x at *
          go_wp2_with (at_builtin; refine wpList_int _ rfl (.tmp 33) (.tmp 36) rfl w.heap.size _ (endsTo F k) rfl (hO.out.later (below_alloc _ _)) (by simp; omega) wr.heap.size ((k : Nat) : Int) rfl (by simp) (by omega) ?_; intro v2 w2 hown2 hgrow2 _)
          have hb2 : Below w.heap.size w w2 := (hbr.alloc hsz _).trans (grown_below (hO.out.later (below_alloc _ _)) hgrow2 (by simp; omega))
          go_ret
          rw [HE.out]
          exact ⟨_, rfl, hown2, hb2⟩

set_option maxHeartbeats 2000000 in
theorem modelParted_any (w : World) (a : Option Addr) (n c : Nat) (F : Nat → Nat) (hn : n ≤ 1048576) (hf : TextAt w a n F) :
    Calls Try.prog 23 #[.slice a n c] w fun e w' => ∃ v, e = .returned v ∧ Own w' w.heap.size v (partTo F n n) ∧ Below w.heap.size w w' := by
  have HF := Lib.hid hf
  clear hf
  go_enter Try.func23, Try.ntmps23
  go_wp2_with fail
  go_loopg [3, 4, 5] n (fun gg v t4 t5 wr => ∃ k : Nat, k ≤ n ∧ gg = n - k ∧ t4 = .int .i64 (lfTo F k) ∧ t5 = .int .i64 k ∧ Hid (Own wr w.heap.size v (partTo F n k)) ∧ Below w.heap.size w wr)
  case atStart => exact ⟨0, Nat.zero_le _, rfl, rfl, rfl, own_nil _ _, Below.refl _ _⟩
  case round =>
    obtain ⟨k, hk, hg, rfl, rfl, hO, hbr⟩ := hrel
    have hsz := hbr.size
    have hpl := partTo_len F n k
    have hlf := lfTo_le F k
    by_cases hlt : k < n
    · have hft := HF.out.later hbr
      have HFT := Lib.hid hft
      obtain ⟨b, off, rfl, hc⟩ := hft (by omega)
      have c1 := hc k hlt
      clear hc
      have HX : Hid (∀ w2, Below w.heap.size w w2 → w2.cell? ⟨b, off + k, none⟩ = some (.int .u8 ((F k : Nat) : Int))) := by
        intro w2 h2
        obtain ⟨b', off', e', hc'⟩ := (HF.out.later h2) (by omega)
        cases e'
        exact hc' k hlt
      have hcall := brk_any wr (some ⟨b, off, none⟩) n c k F hn hlt HFT.out
      obtain ⟨av, cv, rfl, hcv, _⟩ := hO.out.ints
      cases hbk : brk F n k with
      | true =>
        have h10 : F k ≠ 10 := by intro h; simp [brk, h] at hbk
        have t1 : (((F k : Nat) : Int) == 10) = false := by simp; omega
        have HLF : Hid (lfTo F (k + 1) = lfTo F k) := by simp [Hid, lfTo, h10]
        have HPT : Hid (partTo F n (k + 1) = partTo F n k ++ [2 + (lfTo F k : Int) + ((partTo F n k).length : Int)]) := by
          show _ = _
          rw [partTo_succ, hbk, if_pos rfl]
          congr 2
        have HO := Lib.hid hO.out
        have HC := Lib.hid (hbk ▸ hcall)
        clear hcall hbk hft hO h10
        generalize F k = x at *
        go_wp2_with fail
        refine HC.out.mono ?_
        rintro e w1 ⟨rfl, hw⟩
        obtain rfl := hw.symm
        go_upto_region 8 with (at_builtin; refine wpList_int _ rfl (.tmp 15) (.tmp 21) rfl w.heap.size _ (partTo F n k) rfl (HO.out.later (below_alloc _ _)) (by simp; omega) wr.heap.size (2 + (lfTo F k : Int) + ((partTo F n k).length : Int)) rfl (by simp) (by omega) ?_; intro v2 w2 hown2 hgrow2 _)
        have hb2 : Below w.heap.size w w2 := (hbr.alloc hsz _).trans (grown_below (HO.out.later (below_alloc _ _)) hgrow2 (by simp; omega))
        have c2 := HX.out w2 hb2
        rw [← HPT.out] at hown2
        have HO2 := Lib.hid hown2
        clear hown2 hgrow2 HO
        go_wp2_with fail
        go_roundg (n - (k + 1))
        case measure => omega
        case rel => exact ⟨k + 1, by omega, rfl, by rw [HLF.out], by go_num, HO2, hb2⟩
      | false =>
        have HPT : Hid (partTo F n (k + 1) = partTo F n k) := by simp [Hid, partTo, hbk]
        have HO2 : Hid (Own wr w.heap.size (.slice av (partTo F n k).length cv) (partTo F n (k + 1))) := by show Own _ _ _ _; rw [HPT.out]; exact hO.out
        have HC := Lib.hid (hbk ▸ hcall)
        clear hcall hbk hft hO
        by_cases h10 : F k = 10
        · have t1 : (((F k : Nat) : Int) == 10) = true := by simp [h10]
          have HLF : Hid (lfTo F (k + 1) = lfTo F k + 1) := by simp [Hid, lfTo, h10]
          clear h10
          generalize F k = x at *
          go_wp2_with fail
          refine HC.out.mono ?_
          rintro e w1 ⟨rfl, hw⟩
          obtain rfl := hw.symm
          go_wp2_with fail
          go_roundg (n - (k + 1))
          case measure => omega
          case rel => exact ⟨k + 1, by omega, rfl, by rw [HLF.out]; go_num, by go_num, HO2, hbr⟩
        · have t1 : (((F k : Nat) : Int) == 10) = false := by simp; omega
          have HLF : Hid (lfTo F (k + 1) = lfTo F k) := by simp [Hid, lfTo, h10]
          clear h10
          generalize F k = x at *
          go_wp2_with fail
          refine HC.out.mono ?_
          rintro e w1 ⟨rfl, hw⟩
          obtain rfl := hw.symm
          go_wp2_with fail
          go_roundg (n - (k + 1))
          case measure => omega
          case rel => exact ⟨k + 1, by omega, rfl, by rw [HLF.out], by go_num, HO2, hbr⟩
    · obtain rfl : k = n := by omega
      go_wp2_with fail
      go_ret
      exact ⟨_, rfl, hO.out, hbr⟩
end Go.Proofs.Qxb6603337a
