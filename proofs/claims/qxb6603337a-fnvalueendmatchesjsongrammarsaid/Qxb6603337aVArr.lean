/-
  THE CONTRACTS of value, array and object; the walk of array.
-/
import Derived.Test.Qxb6603337aVWord
namespace Go.Proofs.Qxb6603337a
open Go.RowKit
set_option linter.unusedVariables false

theorem Sc.later {w w' : World} {S : Nat} {a : Option Addr} {n c : Nat} {F : Nat → Nat} {t : Int} {fd : Bool} {en : Int} (h : Sc w S a n c F t fd en) (hb : Below w.heap.size w w') : Sc w' S a n c F t fd en := by
  refine ⟨?_, h.txt.later hb, h.small⟩
  have h1 := h.blk
  have hs : S < w.heap.size := by
    rcases Nat.lt_or_ge S w.heap.size with h | h
    · exact h
    · rw [Array.getElem?_eq_none h] at h1; cases h1
  rw [hb.block S hs]; exact h1
theorem Sc.lt {w : World} {S : Nat} {a : Option Addr} {n c : Nat} {F : Nat → Nat} {t : Int} {fd : Bool} {en : Int} (h : Sc w S a n c F t fd en) : S < w.heap.size := by
  have h1 := h.blk
  rcases Nat.lt_or_ge S w.heap.size with h | h
  · exact h
  · rw [Array.getElem?_eq_none h] at h1; cases h1

/-- the world behind a call: the struct, what has been noted; nothing below it has turned -/
def Aft (S : Nat) (a : Option Addr) (n c : Nat) (F : Nat → Nat) (t : Nat) (w w' : World) (Q : Bool → Nat → Prop) : Prop :=
  ∃ fd' en', Sc w' S a n c F (t : Int) fd' ((en' : Nat) : Int) ∧ Below S w w' ∧ Q fd' en'

/-- value's answer -/
def VPost (S : Nat) (a : Option Addr) (n c : Nat) (F : Nat → Nat) (t i : Nat) (w : World) (e : Ending) (w' : World) : Prop :=
  (∃ r : Nat, e = .returned (.tuple #[.int .i64 r, .bool true]) ∧ Over F n i r ∧ Aft S a n c F t w w' fun fd en => Told F n fd t en r) ∨
  (e = .returned (.tuple #[.int .i64 0, .bool false]) ∧ Aft S a n c F t w w' fun _ _ => True)
/-- array's and object's answer -/
def CPost (S : Nat) (a : Option Addr) (n c : Nat) (F : Nat → Nat) (t i : Nat) (w : World) (e : Ending) (w' : World) : Prop :=
  (∃ r : Nat, e = .returned (.tuple #[.int .i64 r, .bool true]) ∧ (Comp F n i r ∧ Over F n i r) ∧ Aft S a n c F t w w' fun fd en => Good F n fd t en) ∨
  (e = .returned (.tuple #[.int .i64 0, .bool false]) ∧ Aft S a n c F t w w' fun _ _ => True)
/-- value's contract at j -/
def VAt (S : Nat) (a : Option Addr) (n c : Nat) (F : Nat → Nat) (t j : Nat) : Prop :=
  ∀ (w : World) (fd : Bool) (en : Nat), Sc w S a n c F (t : Int) fd ((en : Nat) : Int) → Good F n fd t en → Calls Try.prog 27 #[.pointer (some ⟨S, 0, none⟩), .int .i64 j] w (VPost S a n c F t j w)

theorem CPost.no {S : Nat} {a : Option Addr} {n c : Nat} {F : Nat → Nat} {t i : Nat} {w w' : World} {fd : Bool} {en : Nat} (h : Sc w' S a n c F (t : Int) fd ((en : Nat) : Int)) (hb : Below S w w') : CPost S a n c F t i w (.returned (.tuple #[.int .i64 0, .bool false])) w' := .inr ⟨rfl, fd, en, h, hb, trivial⟩
theorem CPost.yes {S : Nat} {a : Option Addr} {n c : Nat} {F : Nat → Nat} {t i : Nat} {w w' : World} {fd : Bool} {en r : Nat} {v : Int} (h : Sc w' S a n c F (t : Int) fd ((en : Nat) : Int)) (hb : Below S w w') (hv : v = r) (hc : Comp F n i r ∧ Over F n i r) (hg : Good F n fd t en) : CPost S a n c F t i w (.returned (.tuple #[.int .i64 v, .bool true])) w' := .inl ⟨r, by rw [hv], hc, fd, en, h, hb, hg⟩

/-- the byte behind a value and its blanks is no number's -/
theorem notNum {F : Nat → Nat} {n e j : Nat} (hej : e ≤ j) (hsp : ∀ m, e ≤ m → m < j → isSp (F m)) (hj : e = j → j < n → ¬ numB (F j)) : e < n → ¬ numB (F e) := fun hn => by
  rcases Nat.lt_or_ge e j with h | h
  · exact (hsp e (Nat.le_refl _) h).not_num
  · obtain rfl : e = j := by omega
    exact hj rfl hn

set_option maxRecDepth 100000 in
set_option maxHeartbeats 4000000 in
theorem array_any (w : World) (S : Nat) (a : Option Addr) (n c i : Nat) (F : Nat → Nat) (t : Nat) (fd : Bool) (en : Nat) (h : Sc w S a n c F (t : Int) fd ((en : Nat) : Int)) (hi : i < n) (ho : F i = 91) (hg : Good F n fd t en) (HV : ∀ j, i < j → j ≤ n → VAt S a n c F t j) :
    Calls Try.prog 35 #[.pointer (some ⟨S, 0, none⟩), .int .i64 i] w (CPost S a n c F t i w) := by
  obtain ⟨s0, s1, s2, s3, _, _⟩ := h.cells
  have HSC := Lib.hid h
  have HG := Lib.hid hg
  have HVV := Lib.hid HV
  have HO : Hid (opens (F i)) := .inl ho
  have hn := h.small
  obtain ⟨b, off, rfl, hc⟩ := h.txt (by omega)
  have HC := Lib.hid hc
  clear h s1 s2 s3 hc hg HV ho
  go_enter Try.func35, Try.ntmps35
  go_wp2_with fail
  refine (space_any w S _ n c (i + 1) F t fd en HSC.out (by omega)).mono ?_
  rintro e w1 ⟨j, rfl, hw1, hij, hjn, hsp, hns⟩
  obtain rfl := hw1.symm
  have HIN : Hid (Inside F n i j) := Inside.start.plain hij hjn fun m h1 h2 => (hsp m h1 h2).plain
  clear hsp hns
  by_cases hclose : j < n ∧ F j = 93
  · have c1 := HC.out j hclose.1
    have hj := hclose.1
    have HCC : Hid (Comp F n i (j + 1) ∧ Over F n i (j + 1)) := HIN.out.closed HO.out hij hj (.inl hclose.2)
    rw [hclose.2] at c1
    have d0 : decide ((j : Int) < (n : Int)) = true := by simp; omega
    clear hclose
    go_wp2_with fail
    go_ret2
    exact CPost.yes HSC.out (Below.refl _ _) (by simp) HCC.out HG.out
  go_upto_region 2 with fail
  go_cut [29] (fun t29 wx => t29 = .bool false ∧ wx = w)
  case first =>
    by_cases hj : j < n
    · have c1 := HC.out j hj
      have d0 : decide ((j : Int) < (n : Int)) = true := by simp; omega
      have v1 : (((F j : Nat) : Int) == 93) = false := by
        rw [beq_eq_false_iff_ne]
        intro h
        exact hclose ⟨hj, by omega⟩
      clear hclose
      go_wp2_with fail
      go_meet
      exact ⟨rfl, rfl⟩
    · have d0 : decide ((j : Int) < (n : Int)) = false := by simp; omega
      clear hclose
      go_wp2_with fail
      go_meet
      exact ⟨rfl, rfl⟩
  case rest =>
    obtain ⟨rfl, hw⟩ := hcut
    obtain rfl := hw.symm
    clear hclose
    go_wp2_with fail
    go_loopg [4, 5, 6, 7, 8] (n - j) (fun gg t4 t5 t6 t7 t8 wr => ∃ j : Nat, i + 1 ≤ j ∧ j ≤ n ∧ gg = n - j ∧ t6 = .int .i64 j ∧ Hid (Inside F n i j) ∧ Hid (Aft S (some ⟨b, off, none⟩) n c F t w wr fun fd en => Good F n fd t en))
    case atStart => exact ⟨j, by omega, hjn, rfl, rfl, HIN, fd, en, HSC.out, Below.refl _ _, HG.out⟩
    case round =>
      obtain ⟨j1, hij1, hjn1, hgg, rfl, HIN1, HA⟩ := hrel
      obtain ⟨fd1, en1, hsc1, hb1, hg1⟩ := HA.out
      have HSC1 := Lib.hid hsc1
      have HB1 := Lib.hid hb1
      have HG1 := Lib.hid hg1
      clear hsc1 hb1 hg1 HA s0
      go_wp2_with fail
      refine (HVV.out j1 (by omega) hjn1 _ fd1 en1 HSC1.out HG1.out).mono ?_
      rintro e w2 (⟨r, rfl, hov, fd2, en2, hsc2, hb2, ht2⟩ | ⟨rfl, fd2, en2, hsc2, hb2, -⟩)
      case inr =>
        have HSC2 := Lib.hid hsc2
        have HB2 := Lib.hid (HB1.out.trans hb2)
        clear hsc2 hb2
        go_wp2_with fail
        go_ret2
        exact CPost.no HSC2.out HB2.out
      obtain ⟨s0, _, _, _, _, _⟩ := hsc2.cells
      have HSC2 := Lib.hid hsc2
      have HB2 := Lib.hid (HB1.out.trans hb2)
      have HT2 := Lib.hid ht2
      have HOV := Lib.hid hov
      have hr1 := hov.1
      have hr2 := hov.2.1
      have HIN2 := Lib.hid (HIN1.out.over hov)
      clear hsc2 hb2 ht2 hov HSC1 HB1 HG1 HIN1
      go_wp2_with fail
      refine (space_any w2 S _ n c r F t fd2 en2 HSC2.out hr2).mono ?_
      rintro e w3 ⟨k, rfl, hw3, hrk, hkn, hsp, hns⟩
      obtain rfl := hw3.symm
      have HSP := Lib.hid hsp
      clear hsp hns
      by_cases hk : k < n
      case neg =>
        go_wp2_with fail
        go_ret2
        exact CPost.no HSC2.out HB2.out
      obtain ⟨b2, off2, hbo, hc2⟩ := HSC2.out.txt (by omega)
      cases hbo
      have c2 := hc2 k hk
      clear hc2
      have HIN3 : Hid (Inside F n i k) := HIN2.out.plain hrk hkn fun m h1 h2 => (HSP.out m h1 h2).plain
      by_cases h93 : F k = 93
      · have HCC : Hid (Comp F n i (k + 1) ∧ Over F n i (k + 1)) := HIN3.out.closed HO.out (by omega) hk (.inl h93)
        have HG2 : Hid (Good F n fd2 t en2) := HT2.out.good (notNum hrk HSP.out fun _ _ => by rw [h93]; unfold numB; omega)
        rw [h93] at c2
        clear h93
        go_wp2_with fail
        go_ret2
        exact CPost.yes HSC2.out HB2.out (by simp) HCC.out HG2.out
      by_cases h44 : F k = 44
      · have HG2 : Hid (Good F n fd2 t en2) := HT2.out.good (notNum hrk HSP.out fun _ _ => by rw [h44]; unfold numB; omega)
        have HIN4 : Hid (Inside F n i (k + 1)) := HIN3.out.plain (Nat.le_succ k) hk fun m h1 h2 => by
          obtain rfl : m = k := by omega
          rw [h44]; unfold plainB; omega
        rw [h44] at c2
        clear h44 h93
        go_wp2_with fail
        refine (space_any w2 S _ n c (k + 1) F t fd2 en2 HSC2.out hk).mono ?_
        rintro e w3 ⟨k1, rfl, hw3, hrk1, hkn1, hsp1, hns1⟩
        obtain rfl := hw3.symm
        have HIN5 : Hid (Inside F n i k1) := HIN4.out.plain hrk1 hkn1 fun m h1 h2 => (hsp1 m h1 h2).plain
        clear hsp1 hns1
        go_wp2_with fail
        go_roundg (n - k1)
        case measure => omega
        case rel => exact ⟨k1, by omega, hkn1, rfl, rfl, HIN5, fd2, en2, HSC2.out, HB2.out, HG2.out⟩
      · have v1 : (((F k : Nat) : Int) == 93) = false := by rw [beq_eq_false_iff_ne]; omega
        have v2 : (((F k : Nat) : Int) == 44) = false := by rw [beq_eq_false_iff_ne]; omega
        have z2 : (((F k : Nat) : Int) != 44) = true := by simp [bne, v2]
        clear h44 h93
        generalize F k = x at c2 v1 v2 z2
        go_wp2_with fail
        go_ret2
        exact CPost.no HSC2.out HB2.out
end Go.Proofs.Qxb6603337a
