/-
  THE WALK of value, by induction on the bytes that are left.
-/
import Derived.Test.Qxb6603337aVNumber
import Derived.Test.Qxb6603337aVObj
namespace Go.Proofs.Qxb6603337a
open Go.RowKit
set_option linter.unusedVariables false

/-- what each of value's callees answers -/
def MPost (S : Nat) (a : Option Addr) (n c : Nat) (F : Nat → Nat) (t i : Nat) (w : World) (e : Ending) (w' : World) : Prop :=
  (∃ r : Nat, e = .returned (.tuple #[.int .i64 r, .bool true]) ∧ Over F n i r ∧ (Ok F n i r ∨ NumAt F n i r) ∧ Aft S a n c F t w w' fun fd en => Good F n fd t en) ∨
  (e = .returned (.tuple #[.int .i64 0, .bool false]) ∧ Aft S a n c F t w w' fun _ _ => True)

section
variable (w : World) (S : Nat) (a : Option Addr) (n c i : Nat) (F : Nat → Nat) (t : Nat) (fd : Bool) (en : Nat) (h : Sc w S a n c F (t : Int) fd ((en : Nat) : Int)) (hi : i < n) (hg : Good F n fd t en)
include h hi hg
theorem m_str (hq : F i = 34) : Calls Try.prog 33 #[.pointer (some ⟨S, 0, none⟩), .int .i64 i] w (MPost S a n c F t i w) := by
  refine (str_any w S a n c i F t fd en h hi).mono ?_
  rintro e w' ⟨rfl, ⟨r, rfl, hs⟩ | rfl⟩
  · exact .inl ⟨r, rfl, Over.str hi hq hs, .inl (.str hi hq hs), fd, en, h, Below.refl _ _, hg⟩
  · exact .inr ⟨rfl, fd, en, h, Below.refl _ _, trivial⟩
theorem m_number : Calls Try.prog 37 #[.pointer (some ⟨S, 0, none⟩), .int .i64 i] w (MPost S a n c F t i w) := by
  refine (number_any w S a n c i F t fd en h hi).mono ?_
  rintro e w' ⟨rfl, ⟨r, rfl, hs⟩ | rfl⟩
  · exact .inl ⟨r, rfl, hs.over, .inr hs, fd, en, h, Below.refl _ _, hg⟩
  · exact .inr ⟨rfl, fd, en, h, Below.refl _ _, trivial⟩
theorem m_object (hq : F i = 123) (HV : ∀ j, i < j → j ≤ n → VAt S a n c F t j) : Calls Try.prog 34 #[.pointer (some ⟨S, 0, none⟩), .int .i64 i] w (MPost S a n c F t i w) := by
  refine (object_any w S a n c i F t fd en h hi hq hg HV).mono ?_
  rintro e w' (⟨r, rfl, hs, ha⟩ | ⟨rfl, ha⟩)
  · exact .inl ⟨r, rfl, hs.2, .inl (.comp hs.1), ha⟩
  · exact .inr ⟨rfl, ha⟩
theorem m_array (hq : F i = 91) (HV : ∀ j, i < j → j ≤ n → VAt S a n c F t j) : Calls Try.prog 35 #[.pointer (some ⟨S, 0, none⟩), .int .i64 i] w (MPost S a n c F t i w) := by
  refine (array_any w S a n c i F t fd en h hi hq hg HV).mono ?_
  rintro e w' (⟨r, rfl, hs, ha⟩ | ⟨rfl, ha⟩)
  · exact .inl ⟨r, rfl, hs.2, .inl (.comp hs.1), ha⟩
  · exact .inr ⟨rfl, ha⟩
theorem m_word (s : ByteArray) (hs : s.size ≤ 100) (h0 : 0 < s.size) (hp : ∀ k, k < s.size → plainB (bt s k)) (hok : ∀ r, r = i + s.size → Ok F n i r) : Calls Try.prog 36 #[.pointer (some ⟨S, 0, none⟩), .int .i64 i, .string s] w (MPost S a n c F t i w) := by
  refine (word_any w S a n c i F t fd en s hs h hi).mono ?_
  rintro e w' ⟨hb, ⟨r, rfl, hr, hrn, hF⟩ | rfl⟩
  · refine .inl ⟨r, rfl, Over.plain (by omega) hrn (fun m h1 h2 => ?_), .inl (hok r hr), fd, en, h.later hb, hb.mono (Nat.le_of_lt h.lt), hg⟩
    have := hp (m - i) (by omega)
    rw [← hF (m - i) (by omega), show i + (m - i) = m by omega] at this
    exact this
  · exact .inr ⟨rfl, fd, en, h.later hb, hb.mono (Nat.le_of_lt h.lt), trivial⟩
end

theorem VPost.no {S : Nat} {a : Option Addr} {n c : Nat} {F : Nat → Nat} {t i : Nat} {w w' : World} {fd : Bool} {en : Nat} (h : Sc w' S a n c F (t : Int) fd ((en : Nat) : Int)) (hb : Below S w w') : VPost S a n c F t i w (.returned (.tuple #[.int .i64 0, .bool false])) w' := .inr ⟨rfl, fd, en, h, hb, trivial⟩
theorem VPost.yes {S : Nat} {a : Option Addr} {n c : Nat} {F : Nat → Nat} {t i : Nat} {w w' : World} {fd : Bool} {en r : Nat} {v : Int} (h : Sc w' S a n c F (t : Int) fd ((en : Nat) : Int)) (hb : Below S w w') (hv : v = r) (hc : Over F n i r) (hg : Told F n fd t en r) : VPost S a n c F t i w (.returned (.tuple #[.int .i64 v, .bool true])) w' := .inl ⟨r, by rw [hv], hc, fd, en, h, hb, hg⟩

theorem told_here {F : Nat → Nat} {n t i r : Nat} (h : Ok F n i r ∨ NumAt F n i r) (ht : i = t) : Told F n true t r r := fun _ => by
  subst ht
  rcases h with h | h
  · exact .inl h
  · exact .inr ⟨rfl, h⟩

def wTrue : ByteArray := ⟨#[116, 114, 117, 101]⟩
def wFalse : ByteArray := ⟨#[102, 97, 108, 115, 101]⟩
def wNull : ByteArray := ⟨#[110, 117, 108, 108]⟩
theorem pl_true : ∀ k, k < wTrue.size → plainB (bt wTrue k) := by unfold plainB; decide
theorem pl_false : ∀ k, k < wFalse.size → plainB (bt wFalse k) := by unfold plainB; decide
theorem pl_null : ∀ k, k < wNull.size → plainB (bt wNull k) := by unfold plainB; decide

set_option maxRecDepth 100000 in
set_option maxHeartbeats 4000000 in
theorem value_any (S : Nat) (a : Option Addr) (n c : Nat) (F : Nat → Nat) (t m : Nat) : ∀ i, i ≤ n → n - i < m → VAt S a n c F t i := by
  induction m with
  | zero => intro i _ h; omega
  | succ m ih =>
    intro i hin him w fd en h hg
    have HV : Hid (∀ j, i < j → j ≤ n → VAt S a n c F t j) := fun j h1 h2 => ih j h2 (by omega)
    have HSC := Lib.hid h
    have HG := Lib.hid hg
    obtain ⟨s0, _, _, _, _, _⟩ := h.cells
    have hn := h.small
    by_cases hi : i < n
    case neg =>
      have d0 : decide ((n : Int) ≤ (i : Int)) = true := by simp; omega
      clear h hg ih
      go_enter Try.func27, Try.ntmps27
      go_wp2_with fail
      go_ret2
      exact VPost.no HSC.out (Below.refl _ _)
    have d0 : decide ((n : Int) ≤ (i : Int)) = false := by simp; omega
    obtain ⟨b, off, rfl, hc⟩ := h.txt (by omega)
    have c0 := hc i hi
    clear h hg ih hc
    by_cases h34 : F i = 34
    · have HQ := Lib.hid h34
      rw [h34] at c0
      clear h34
      go_enter Try.func27, Try.ntmps27
      go_wp2_with fail
      refine (m_str w S _ n c i F t fd en HSC.out hi HG.out HQ.out).mono ?_
      rintro e w1 (⟨r, rfl, hov, hon, fd1, en1, hsc1, hb1, hg1⟩ | ⟨rfl, fd1, en1, hsc1, hb1, -⟩)
      · have HSC1 := Lib.hid hsc1
        have HB1 := Lib.hid hb1
        have HG1 := Lib.hid hg1
        have HOV := Lib.hid hov
        have HON := Lib.hid hon
        clear hsc1 hb1 hg1 hov hon s0 c0
        go_wp2_with fail
        refine (note_aft w1 S _ n c i r F t fd1 en1 HSC1.out (fun fd en => Told F n fd t en r) HG1.out.told (told_here HON.out)).mono ?_
        rintro e w2 ⟨rfl, fd2, en2, hsc2, hb2, ht2⟩
        have HSC2 := Lib.hid hsc2
        have HB2 := Lib.hid (HB1.out.trans hb2)
        have HT2 := Lib.hid ht2
        clear hsc2 hb2 ht2
        go_wp2_with fail
        go_ret2
        exact VPost.yes HSC2.out HB2.out rfl HOV.out HT2.out
      · have HSC1 := Lib.hid hsc1
        have HB1 := Lib.hid hb1
        clear hsc1 hb1 s0 c0
        go_wp2_with fail
        go_ret2
        exact VPost.no HSC1.out HB1.out
    by_cases h123 : F i = 123
    · have HQ := Lib.hid h123
      rw [h123] at c0
      clear h34 h123
      go_enter Try.func27, Try.ntmps27
      go_wp2_with fail
      refine (m_object w S _ n c i F t fd en HSC.out hi HG.out HQ.out HV.out).mono ?_
      rintro e w1 (⟨r, rfl, hov, hon, fd1, en1, hsc1, hb1, hg1⟩ | ⟨rfl, fd1, en1, hsc1, hb1, -⟩)
      · have HSC1 := Lib.hid hsc1
        have HB1 := Lib.hid hb1
        have HG1 := Lib.hid hg1
        have HOV := Lib.hid hov
        have HON := Lib.hid hon
        clear hsc1 hb1 hg1 hov hon s0 c0
        go_wp2_with fail
        refine (note_aft w1 S _ n c i r F t fd1 en1 HSC1.out (fun fd en => Told F n fd t en r) HG1.out.told (told_here HON.out)).mono ?_
        rintro e w2 ⟨rfl, fd2, en2, hsc2, hb2, ht2⟩
        have HSC2 := Lib.hid hsc2
        have HB2 := Lib.hid (HB1.out.trans hb2)
        have HT2 := Lib.hid ht2
        clear hsc2 hb2 ht2
        go_wp2_with fail
        go_ret2
        exact VPost.yes HSC2.out HB2.out rfl HOV.out HT2.out
      · have HSC1 := Lib.hid hsc1
        have HB1 := Lib.hid hb1
        clear hsc1 hb1 s0 c0
        go_wp2_with fail
        go_ret2
        exact VPost.no HSC1.out HB1.out
    by_cases h91 : F i = 91
    · have HQ := Lib.hid h91
      rw [h91] at c0
      clear h34 h123 h91
      go_enter Try.func27, Try.ntmps27
      go_wp2_with fail
      refine (m_array w S _ n c i F t fd en HSC.out hi HG.out HQ.out HV.out).mono ?_
      rintro e w1 (⟨r, rfl, hov, hon, fd1, en1, hsc1, hb1, hg1⟩ | ⟨rfl, fd1, en1, hsc1, hb1, -⟩)
      · have HSC1 := Lib.hid hsc1
        have HB1 := Lib.hid hb1
        have HG1 := Lib.hid hg1
        have HOV := Lib.hid hov
        have HON := Lib.hid hon
        clear hsc1 hb1 hg1 hov hon s0 c0
        go_wp2_with fail
        refine (note_aft w1 S _ n c i r F t fd1 en1 HSC1.out (fun fd en => Told F n fd t en r) HG1.out.told (told_here HON.out)).mono ?_
        rintro e w2 ⟨rfl, fd2, en2, hsc2, hb2, ht2⟩
        have HSC2 := Lib.hid hsc2
        have HB2 := Lib.hid (HB1.out.trans hb2)
        have HT2 := Lib.hid ht2
        clear hsc2 hb2 ht2
        go_wp2_with fail
        go_ret2
        exact VPost.yes HSC2.out HB2.out rfl HOV.out HT2.out
      · have HSC1 := Lib.hid hsc1
        have HB1 := Lib.hid hb1
        clear hsc1 hb1 s0 c0
        go_wp2_with fail
        go_ret2
        exact VPost.no HSC1.out HB1.out
    by_cases h116 : F i = 116
    · have HQ := Lib.hid h116
      rw [h116] at c0
      clear h34 h123 h91 h116
      go_enter Try.func27, Try.ntmps27
      go_wp2_with fail
      refine (m_word w S _ n c i F t fd en HSC.out hi HG.out wTrue (by decide) (by decide) pl_true (fun r hr => .four hi (.inl HQ.out) hr)).mono ?_
      rintro e w1 (⟨r, rfl, hov, hon, fd1, en1, hsc1, hb1, hg1⟩ | ⟨rfl, fd1, en1, hsc1, hb1, -⟩)
      · have HSC1 := Lib.hid hsc1
        have HB1 := Lib.hid hb1
        have HG1 := Lib.hid hg1
        have HOV := Lib.hid hov
        have HON := Lib.hid hon
        clear hsc1 hb1 hg1 hov hon s0 c0
        go_wp2_with fail
        refine (note_aft w1 S _ n c i r F t fd1 en1 HSC1.out (fun fd en => Told F n fd t en r) HG1.out.told (told_here HON.out)).mono ?_
        rintro e w2 ⟨rfl, fd2, en2, hsc2, hb2, ht2⟩
        have HSC2 := Lib.hid hsc2
        have HB2 := Lib.hid (HB1.out.trans hb2)
        have HT2 := Lib.hid ht2
        clear hsc2 hb2 ht2
        go_wp2_with fail
        go_ret2
        exact VPost.yes HSC2.out HB2.out rfl HOV.out HT2.out
      · have HSC1 := Lib.hid hsc1
        have HB1 := Lib.hid hb1
        clear hsc1 hb1 s0 c0
        go_wp2_with fail
        go_ret2
        exact VPost.no HSC1.out HB1.out
    by_cases h102 : F i = 102
    · have HQ := Lib.hid h102
      rw [h102] at c0
      clear h34 h123 h91 h116 h102
      go_enter Try.func27, Try.ntmps27
      go_wp2_with fail
      refine (m_word w S _ n c i F t fd en HSC.out hi HG.out wFalse (by decide) (by decide) pl_false (fun r hr => .five hi HQ.out hr)).mono ?_
      rintro e w1 (⟨r, rfl, hov, hon, fd1, en1, hsc1, hb1, hg1⟩ | ⟨rfl, fd1, en1, hsc1, hb1, -⟩)
      · have HSC1 := Lib.hid hsc1
        have HB1 := Lib.hid hb1
        have HG1 := Lib.hid hg1
        have HOV := Lib.hid hov
        have HON := Lib.hid hon
        clear hsc1 hb1 hg1 hov hon s0 c0
        go_wp2_with fail
        refine (note_aft w1 S _ n c i r F t fd1 en1 HSC1.out (fun fd en => Told F n fd t en r) HG1.out.told (told_here HON.out)).mono ?_
        rintro e w2 ⟨rfl, fd2, en2, hsc2, hb2, ht2⟩
        have HSC2 := Lib.hid hsc2
        have HB2 := Lib.hid (HB1.out.trans hb2)
        have HT2 := Lib.hid ht2
        clear hsc2 hb2 ht2
        go_wp2_with fail
        go_ret2
        exact VPost.yes HSC2.out HB2.out rfl HOV.out HT2.out
      · have HSC1 := Lib.hid hsc1
        have HB1 := Lib.hid hb1
        clear hsc1 hb1 s0 c0
        go_wp2_with fail
        go_ret2
        exact VPost.no HSC1.out HB1.out
    by_cases h110 : F i = 110
    · have HQ := Lib.hid h110
      rw [h110] at c0
      clear h34 h123 h91 h116 h102 h110
      go_enter Try.func27, Try.ntmps27
      go_wp2_with fail
      refine (m_word w S _ n c i F t fd en HSC.out hi HG.out wNull (by decide) (by decide) pl_null (fun r hr => .four hi (.inr HQ.out) hr)).mono ?_
      rintro e w1 (⟨r, rfl, hov, hon, fd1, en1, hsc1, hb1, hg1⟩ | ⟨rfl, fd1, en1, hsc1, hb1, -⟩)
      · have HSC1 := Lib.hid hsc1
        have HB1 := Lib.hid hb1
        have HG1 := Lib.hid hg1
        have HOV := Lib.hid hov
        have HON := Lib.hid hon
        clear hsc1 hb1 hg1 hov hon s0 c0
        go_wp2_with fail
        refine (note_aft w1 S _ n c i r F t fd1 en1 HSC1.out (fun fd en => Told F n fd t en r) HG1.out.told (told_here HON.out)).mono ?_
        rintro e w2 ⟨rfl, fd2, en2, hsc2, hb2, ht2⟩
        have HSC2 := Lib.hid hsc2
        have HB2 := Lib.hid (HB1.out.trans hb2)
        have HT2 := Lib.hid ht2
        clear hsc2 hb2 ht2
        go_wp2_with fail
        go_ret2
        exact VPost.yes HSC2.out HB2.out rfl HOV.out HT2.out
      · have HSC1 := Lib.hid hsc1
        have HB1 := Lib.hid hb1
        clear hsc1 hb1 s0 c0
        go_wp2_with fail
        go_ret2
        exact VPost.no HSC1.out HB1.out
    have v34 : (((F i : Nat) : Int) == 34) = false := by rw [beq_eq_false_iff_ne]; omega
    have v123 : (((F i : Nat) : Int) == 123) = false := by rw [beq_eq_false_iff_ne]; omega
    have v91 : (((F i : Nat) : Int) == 91) = false := by rw [beq_eq_false_iff_ne]; omega
    have v116 : (((F i : Nat) : Int) == 116) = false := by rw [beq_eq_false_iff_ne]; omega
    have v102 : (((F i : Nat) : Int) == 102) = false := by rw [beq_eq_false_iff_ne]; omega
    have v110 : (((F i : Nat) : Int) == 110) = false := by rw [beq_eq_false_iff_ne]; omega
    clear h34 h123 h91 h116 h102 h110
    generalize F i = x at c0 v34 v123 v91 v116 v102 v110
    go_enter Try.func27, Try.ntmps27
    go_wp2_with fail
    refine (m_number w S _ n c i F t fd en HSC.out hi HG.out).mono ?_
    rintro e w1 (⟨r, rfl, hov, hon, fd1, en1, hsc1, hb1, hg1⟩ | ⟨rfl, fd1, en1, hsc1, hb1, -⟩)
    · have HSC1 := Lib.hid hsc1
      have HB1 := Lib.hid hb1
      have HG1 := Lib.hid hg1
      have HOV := Lib.hid hov
      have HON := Lib.hid hon
      clear hsc1 hb1 hg1 hov hon s0 c0
      go_wp2_with fail
      refine (note_aft w1 S _ n c i r F t fd1 en1 HSC1.out (fun fd en => Told F n fd t en r) HG1.out.told (told_here HON.out)).mono ?_
      rintro e w2 ⟨rfl, fd2, en2, hsc2, hb2, ht2⟩
      have HSC2 := Lib.hid hsc2
      have HB2 := Lib.hid (HB1.out.trans hb2)
      have HT2 := Lib.hid ht2
      clear hsc2 hb2 ht2
      go_wp2_with fail
      go_ret2
      exact VPost.yes HSC2.out HB2.out rfl HOV.out HT2.out
    · have HSC1 := Lib.hid hsc1
      have HB1 := Lib.hid hb1
      clear hsc1 hb1 s0 c0
      go_wp2_with fail
      go_ret2
      exact VPost.no HSC1.out HB1.out
end Go.Proofs.Qxb6603337a
