/-
  THE WALK of object.
-/
import Derived.Test.Qxb6603337aVArr
namespace Go.Proofs.Qxb6603337a
open Go.RowKit
set_option linter.unusedVariables false

/-- 'note(at, end)': what the struct then says -/
def NotedPost (S : Nat) (a : Option Addr) (n c : Nat) (F : Nat → Nat) (t : Nat) (Q : Bool → Nat → Prop) (w : World) (r : Ending) (w' : World) : Prop :=
  r = .returned (.tuple #[]) ∧ Aft S a n c F t w w' Q

theorem note_aft (w : World) (S : Nat) (a : Option Addr) (n c at' e : Nat) (F : Nat → Nat) (t : Nat) (fd : Bool) (en : Nat) (h : Sc w S a n c F (t : Int) fd ((en : Nat) : Int)) (Q : Bool → Nat → Prop) (h0 : Q fd en) (h1 : at' = t → Q true e) :
    Calls Try.prog 38 #[.pointer (some ⟨S, 0, none⟩), .int .i64 at', .int .i64 e] w (NotedPost S a n c F t Q w) := by
  refine (note_any w S a n c at' e F t fd en h).mono ?_
  rintro r w' ⟨rfl, hy, hn⟩
  by_cases ht : at' = t
  · obtain rfl := hy ht
    exact ⟨rfl, true, e, h.noted true e, ((Below.refl S w).setCell (p := ⟨S, 2, none⟩) (Nat.le_refl S) _).setCell (p := ⟨S, 3, none⟩) (Nat.le_refl S) _, h1 ht⟩
  · obtain rfl := hn ht
    exact ⟨rfl, fd, en, h, Below.refl _ _, h0⟩

set_option maxRecDepth 100000 in
set_option maxHeartbeats 4000000 in
theorem object_any (w : World) (S : Nat) (a : Option Addr) (n c i : Nat) (F : Nat → Nat) (t : Nat) (fd : Bool) (en : Nat) (h : Sc w S a n c F (t : Int) fd ((en : Nat) : Int)) (hi : i < n) (ho : F i = 123) (hg : Good F n fd t en) (HV : ∀ j, i < j → j ≤ n → VAt S a n c F t j) :
    Calls Try.prog 34 #[.pointer (some ⟨S, 0, none⟩), .int .i64 i] w (CPost S a n c F t i w) := by
  obtain ⟨s0, s1, s2, s3, _, _⟩ := h.cells
  have HSC := Lib.hid h
  have HG := Lib.hid hg
  have HVV := Lib.hid HV
  have HO : Hid (opens (F i)) := .inr ho
  have hn := h.small
  obtain ⟨b, off, rfl, hc⟩ := h.txt (by omega)
  have HC := Lib.hid hc
  clear h s1 s2 s3 hc hg HV ho
  go_enter Try.func34, Try.ntmps34
  go_wp2_with fail
  refine (space_any w S _ n c (i + 1) F t fd en HSC.out (by omega)).mono ?_
  rintro e w1 ⟨j, rfl, hw1, hij, hjn, hsp, hns⟩
  obtain rfl := hw1.symm
  have HIN : Hid (Inside F n i j) := Inside.start.plain hij hjn fun m h1 h2 => (hsp m h1 h2).plain
  clear hsp hns
  by_cases hclose : j < n ∧ F j = 125
  · have c1 := HC.out j hclose.1
    have hj := hclose.1
    have HCC : Hid (Comp F n i (j + 1) ∧ Over F n i (j + 1)) := HIN.out.closed HO.out hij hj (.inr hclose.2)
    rw [hclose.2] at c1
    have d0 : decide ((j : Int) < (n : Int)) = true := by simp; omega
    clear hclose
    go_wp2_with fail
    go_ret2
    exact CPost.yes HSC.out (Below.refl _ _) (by simp) HCC.out HG.out
  go_upto_region 2 with fail
  go_cut [31] (fun t31 wx => t31 = .bool false ∧ wx = w)
  case first =>
    by_cases hj : j < n
    · have c1 := HC.out j hj
      have d0 : decide ((j : Int) < (n : Int)) = true := by simp; omega
      have v1 : (((F j : Nat) : Int) == 125) = false := by
        rw [beq_eq_false_iff_ne]
        intro h
        exact hclose ⟨hj, by omega⟩
      clear hclose
      go_wp2_with fail
      go_meet
      exact ⟨rfl, rfl⟩
    · have d0 : decide ((j : Int) < (n : Int)) = false := by simp; omega
      clear hclose
      go_wp2_with fail
      go_meet
      exact ⟨rfl, rfl⟩
  case rest =>
    obtain ⟨rfl, hw⟩ := hcut
    obtain rfl := hw.symm
    clear hclose
    go_wp2_with fail
    go_loopg [4, 5, 6, 7, 8, 9, 10] (n - j) (fun gg t4 t5 t6 t7 t8 t9 t10 wr => ∃ j : Nat, i + 1 ≤ j ∧ j ≤ n ∧ gg = n - j ∧ t6 = .int .i64 j ∧ Hid (Inside F n i j) ∧ Hid (Aft S (some ⟨b, off, none⟩) n c F t w wr fun fd en => Good F n fd t en))
    case atStart => exact ⟨j, by omega, hjn, rfl, rfl, HIN, fd, en, HSC.out, Below.refl _ _, HG.out⟩
    case round =>
      obtain ⟨j1, hij1, hjn1, hgg, rfl, HIN1, HA⟩ := hrel
      obtain ⟨fd1, en1, hsc1, hb1, hg1⟩ := HA.out
      have HSC1 := Lib.hid hsc1
      have HB1 := Lib.hid hb1
      have HG1 := Lib.hid hg1
      clear s0
      obtain ⟨s0, _, _, _, _, _⟩ := hsc1.cells
      clear hsc1 hb1 hg1 HA
      by_cases hj1 : j1 < n
      case neg =>
        have d1 : decide ((n : Int) ≤ (j1 : Int)) = true := by simp; omega
        go_wp2_with fail
        go_ret2
        exact CPost.no HSC1.out HB1.out
      have d1 : decide ((n : Int) ≤ (j1 : Int)) = false := by simp; omega
      obtain ⟨b2, off2, hbo, hc2⟩ := HSC1.out.txt (by omega)
      cases hbo
      have c1 := hc2 j1 hj1
      clear hc2
      by_cases h34 : F j1 = 34
      case neg =>
        have v2 : (((F j1 : Nat) : Int) == 34) = false := by rw [beq_eq_false_iff_ne]; omega
        have z2 : (((F j1 : Nat) : Int) != 34) = true := by simp [bne, v2]
        clear h34
        generalize F j1 = x at c1 v2 z2
        go_wp2_with fail
        go_ret2
        exact CPost.no HSC1.out HB1.out
      have H34 := Lib.hid h34
      rw [h34] at c1
      clear h34
      go_wp2_with fail
      refine (str_any _ S _ n c j1 F t fd1 en1 HSC1.out hj1).mono ?_
      rintro e w2 ⟨hw2, ⟨k, rfl, hse⟩ | rfl⟩
      case inr =>
        obtain rfl := hw2.symm
        go_wp2_with fail
        go_ret2
        exact CPost.no HSC1.out HB1.out
      obtain rfl := hw2.symm
      have HSE := Lib.hid hse
      have hlt := hse.lt
      clear hse
      go_wp2_with fail
      refine (note_aft _ S _ n c j1 k F t fd1 en1 HSC1.out (fun fd en => Good F n fd t en) HG1.out (fun ht _ => ht ▸ .str hj1 H34.out HSE.out)).mono ?_
      rintro e w3 ⟨rfl, fd3, en3, hsc3, hb3, hg3⟩
      clear s0
      obtain ⟨s0, _, _, _, _, _⟩ := hsc3.cells
      have HSC3 := Lib.hid hsc3
      have HB3 := Lib.hid (HB1.out.trans hb3)
      have HG3 := Lib.hid hg3
      have HIN3 := Lib.hid (HIN1.out.over (Over.str hj1 H34.out HSE.out))
      clear hsc3 hb3 hg3 HSC1 HB1 HG1 HIN1 c1
      go_wp2_with fail
      refine (space_any w3 S _ n c k F t fd3 en3 HSC3.out hlt.2).mono ?_
      rintro e w4 ⟨j2, rfl, hw4, hkj2, hjn2, hsp, hns⟩
      obtain rfl := hw4.symm
      have HIN4 : Hid (Inside F n i j2) := HIN3.out.plain hkj2 hjn2 fun m h1 h2 => (hsp m h1 h2).plain
      clear hsp hns
      by_cases hj2 : j2 < n
      case neg =>
        have d2 : decide ((n : Int) ≤ (j2 : Int)) = true := by simp; omega
        go_wp2_with fail
        go_ret2
        exact CPost.no HSC3.out HB3.out
      have d2 : decide ((n : Int) ≤ (j2 : Int)) = false := by simp; omega
      obtain ⟨b2, off2, hbo, hc2⟩ := HSC3.out.txt (by omega)
      cases hbo
      have c1 := hc2 j2 hj2
      clear hc2
      by_cases h58 : F j2 = 58
      case neg =>
        have v2 : (((F j2 : Nat) : Int) == 58) = false := by rw [beq_eq_false_iff_ne]; omega
        have z2 : (((F j2 : Nat) : Int) != 58) = true := by simp [bne, v2]
        clear h58
        generalize F j2 = x at c1 v2 z2
        go_wp2_with fail
        go_ret2
        exact CPost.no HSC3.out HB3.out
      have HIN5 : Hid (Inside F n i (j2 + 1)) := HIN4.out.plain (Nat.le_succ j2) hj2 fun m h1 h2 => by
        obtain rfl : m = j2 := by omega
        rw [h58]; unfold plainB; omega
      rw [h58] at c1
      clear h58
      go_wp2_with fail
      refine (space_any w3 S _ n c (j2 + 1) F t fd3 en3 HSC3.out hj2).mono ?_
      rintro e w4 ⟨j3, rfl, hw4, hj23, hjn3, hsp, hns⟩
      obtain rfl := hw4.symm
      have HIN6 : Hid (Inside F n i j3) := HIN5.out.plain hj23 hjn3 fun m h1 h2 => (hsp m h1 h2).plain
      clear hsp hns s0 c1
      go_wp2_with fail
      refine (HVV.out j3 (by omega) hjn3 w3 fd3 en3 HSC3.out HG3.out).mono ?_
      rintro e w5 (⟨r, rfl, hov, fd2, en2, hsc2, hb2, ht2⟩ | ⟨rfl, fd2, en2, hsc2, hb2, -⟩)
      case inr =>
        have HSC2 := Lib.hid hsc2
        have HB2 := Lib.hid (HB3.out.trans hb2)
        clear hsc2 hb2
        go_wp2_with fail
        go_ret2
        exact CPost.no HSC2.out HB2.out
      obtain ⟨s0, _, _, _, _, _⟩ := hsc2.cells
      have HSC2 := Lib.hid hsc2
      have HB2 := Lib.hid (HB3.out.trans hb2)
      have HT2 := Lib.hid ht2
      have hr1 := hov.1
      have hr2 := hov.2.1
      have HIN2 := Lib.hid (HIN6.out.over hov)
      clear hsc2 hb2 ht2 hov HSC3 HB3 HG3 HIN6 HIN5 HIN4 HIN3
      go_wp2_with fail
      refine (space_any w5 S _ n c r F t fd2 en2 HSC2.out hr2).mono ?_
      rintro e w6 ⟨q, rfl, hw6, hrq, hqn, hsp, hns⟩
      obtain rfl := hw6.symm
      have HSP := Lib.hid hsp
      clear hsp hns
      by_cases hq : q < n
      case neg =>
        go_wp2_with fail
        go_ret2
        exact CPost.no HSC2.out HB2.out
      obtain ⟨b2, off2, hbo, hc2⟩ := HSC2.out.txt (by omega)
      cases hbo
      have c2 := hc2 q hq
      clear hc2
      have HIN3 : Hid (Inside F n i q) := HIN2.out.plain hrq hqn fun m h1 h2 => (HSP.out m h1 h2).plain
      by_cases h93 : F q = 125
      · have HCC : Hid (Comp F n i (q + 1) ∧ Over F n i (q + 1)) := HIN3.out.closed HO.out (by omega) hq (.inr h93)
        have HG2 : Hid (Good F n fd2 t en2) := HT2.out.good (notNum hrq HSP.out fun _ _ => by rw [h93]; unfold numB; omega)
        rw [h93] at c2
        clear h93
        go_wp2_with fail
        go_ret2
        exact CPost.yes HSC2.out HB2.out (by simp) HCC.out HG2.out
      by_cases h44 : F q = 44
      · have HG2 : Hid (Good F n fd2 t en2) := HT2.out.good (notNum hrq HSP.out fun _ _ => by rw [h44]; unfold numB; omega)
        have HIN4 : Hid (Inside F n i (q + 1)) := HIN3.out.plain (Nat.le_succ q) hq fun m h1 h2 => by
          obtain rfl : m = q := by omega
          rw [h44]; unfold plainB; omega
        rw [h44] at c2
        clear h44 h93
        go_wp2_with fail
        refine (space_any w5 S _ n c (q + 1) F t fd2 en2 HSC2.out hq).mono ?_
        rintro e w7 ⟨k1, rfl, hw7, hrk1, hkn1, hsp1, hns1⟩
        obtain rfl := hw7.symm
        have HIN5 : Hid (Inside F n i k1) := HIN4.out.plain hrk1 hkn1 fun m h1 h2 => (hsp1 m h1 h2).plain
        clear hsp1 hns1
        go_wp2_with fail
        go_roundg (n - k1)
        case measure => omega
        case rel => exact ⟨k1, by omega, hkn1, rfl, rfl, HIN5, fd2, en2, HSC2.out, HB2.out, HG2.out⟩
      · have v1 : (((F q : Nat) : Int) == 125) = false := by rw [beq_eq_false_iff_ne]; omega
        have v2 : (((F q : Nat) : Int) == 44) = false := by rw [beq_eq_false_iff_ne]; omega
        have z2 : (((F q : Nat) : Int) != 44) = true := by simp [bne, v2]
        clear h44 h93
        generalize F q = x at c2 v1 v2 z2
        go_wp2_with fail
        go_ret2
        exact CPost.no HSC2.out HB2.out
end Go.Proofs.Qxb6603337a
