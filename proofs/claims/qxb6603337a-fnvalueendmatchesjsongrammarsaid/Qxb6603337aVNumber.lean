/-
  THE WALK of number.
-/
import Derived.Test.Qxb6603337aVDigits
namespace Go.Proofs.Qxb6603337a
open Go.RowKit
set_option linter.unusedVariables false

/-- the bytes from i to j are a number's -/
def Nums (F : Nat → Nat) (i j : Nat) : Prop := ∀ m, i ≤ m → m < j → numB (F m)
theorem Nums.snoc {F : Nat → Nat} {i j : Nat} (h : Nums F i j) (hb : numB (F j)) : Nums F i (j + 1) := fun m h1 h2 => by
  rcases Nat.lt_or_ge m j with h3 | h3
  · exact h m h1 h3
  · obtain rfl : m = j := by omega
    exact hb
theorem Nums.digits {F : Nat → Nat} {i j k : Nat} (h : Nums F i j) (hd : ∀ m, j ≤ m → m < k → 48 ≤ F m ∧ F m ≤ 57) : Nums F i k := fun m h1 h2 => by
  rcases Nat.lt_or_ge m j with h3 | h3
  · exact h m h1 h3
  · have := hd m h3 h2
    unfold numB
    omega

theorem notDig {x : Nat} (hd : ¬ (48 ≤ x ∧ x ≤ 57)) : (decide (48 ≤ x) && decide (x ≤ 57)) = false := by
  by_cases h1 : 48 ≤ x
  · have h2 : ¬ x ≤ 57 := fun h => hd ⟨h1, h⟩
    simp [h2]
  · simp [h1]

set_option maxRecDepth 100000 in
set_option maxHeartbeats 4000000 in
theorem number_any (w : World) (S : Nat) (a : Option Addr) (n c i : Nat) (F : Nat → Nat) (t : Int) (fd : Bool) (en : Int) (h : Sc w S a n c F t fd en) (hi : i < n) :
    Calls Try.prog 37 #[.pointer (some ⟨S, 0, none⟩), .int .i64 i] w (PPost (NumAt F n i) w) := by
  obtain ⟨s0, s1, s2, s3, _, _⟩ := h.cells
  have HSC := Lib.hid h
  have hn := h.small
  obtain ⟨b, off, rfl, hc⟩ := h.txt (by omega)
  have HC := Lib.hid hc
  have c0 := hc i hi
  clear h s1 s2 s3 hc
  go_enter Try.func37, Try.ntmps37
  go_upto_if 26 with fail
  go_cut [7] (fun t7 wx => ∃ j : Nat, t7 = .int .i64 j ∧ i ≤ j ∧ j ≤ n ∧ Hid (Nums F i j ∧ (j = i ∨ F i = 45)) ∧ wx = w)
  case first =>
    by_cases h45 : F i = 45
    · have HN : Hid (Nums F i (i + 1) ∧ (i + 1 = i ∨ F i = 45)) := ⟨Nums.snoc (fun m h1 h2 => by omega) (.inl h45), .inr h45⟩
      have v45 : (((F i : Nat) : Int) == 45) = true := by simp [h45]
      clear h45
      go_wp2_with fail
      go_meet
      exact ⟨i + 1, by go_num, by omega, by omega, HN, rfl⟩
    · have v45 : (((F i : Nat) : Int) == 45) = false := by rw [beq_eq_false_iff_ne]; omega
      clear h45
      go_wp2_with fail
      go_meet
      exact ⟨i, rfl, Nat.le_refl _, by omega, ⟨fun m h1 h2 => by omega, .inl rfl⟩, rfl⟩
  case rest =>
    obtain ⟨j, rfl, hij, hjn, HN, hw⟩ := hcut
    obtain rfl := hw.symm
    by_cases hj : j < n
    case neg =>
      go_wp2_with fail
      go_ret2
      exact PPost.no
    have c1 := HC.out j hj
    clear c0
    go_upto_if 39 with fail
    go_cut [7] (fun t7 wx => ∃ k : Nat, t7 = .int .i64 k ∧ i < k ∧ k ≤ n ∧ Hid (Nums F i k ∧ (F i = 45 ∨ (48 ≤ F i ∧ F i ≤ 57))) ∧ wx = w)
    case first =>
      by_cases h48 : F j = 48
      · have HN2 : Hid (Nums F i (j + 1) ∧ (F i = 45 ∨ (48 ≤ F i ∧ F i ≤ 57))) := ⟨HN.out.1.snoc (by unfold numB; omega), by
          rcases HN.out.2 with rfl | h1
          · right; omega
          · exact .inl h1⟩
        have v48 : (((F j : Nat) : Int) == 48) = true := by simp [h48]
        clear h48
        go_wp2_with fail
        go_meet
        exact ⟨j + 1, by go_num, by omega, by omega, HN2, rfl⟩
      have v48 : (((F j : Nat) : Int) == 48) = false := by rw [beq_eq_false_iff_ne]; omega
      by_cases h49 : 49 ≤ F j ∧ F j ≤ 57
      · have d1 : decide ((49 : Int) ≤ ((F j : Nat) : Int)) = true := by simp; omega
        have d2 : decide (((F j : Nat) : Int) ≤ 57) = true := by simp; omega
        have HN2 : Hid (Nums F i (j + 1) ∧ (F i = 45 ∨ (48 ≤ F i ∧ F i ≤ 57))) := ⟨HN.out.1.snoc (by unfold numB; omega), by
          rcases HN.out.2 with rfl | h1
          · right; omega
          · exact .inl h1⟩
        clear h48 h49
        go_wp2_with fail
        refine (digits_any w S _ n c (j + 1) F t fd en HSC.out (by omega)).mono ?_
        rintro e w1 ⟨k, rfl, hw1, hjk, hkn, hds⟩
        obtain rfl := hw1.symm
        have HN3 : Hid (Nums F i k ∧ (F i = 45 ∨ (48 ≤ F i ∧ F i ≤ 57))) := ⟨HN2.out.1.digits hds, HN2.out.2⟩
        clear hds
        go_wp2_with fail
        go_meet
        exact ⟨k, rfl, by omega, hkn, HN3, rfl⟩
      · by_cases h49a : 49 ≤ F j
        · have d1 : decide ((49 : Int) ≤ ((F j : Nat) : Int)) = true := by simp; omega
          have d2 : decide (((F j : Nat) : Int) ≤ 57) = false := by simp; omega
          go_wp2_with fail
          go_ret2
          exact PPost.no
        · have d1 : decide ((49 : Int) ≤ ((F j : Nat) : Int)) = false := by simp; omega
          go_wp2_with fail
          go_ret2
          exact PPost.no
    case rest =>
      obtain ⟨k, rfl, hik, hkn, HN2, hw⟩ := hcut
      obtain rfl := hw.symm
      clear c1 HN
      by_cases hk : k < n
      case neg =>
        have d0 : decide ((k : Int) < (n : Int)) = false := by simp; omega
        go_wp2_with fail
        go_ret2
        exact PPost.yes rfl ⟨hik, hkn, HN2.out.2, HN2.out.1⟩
      have d0 : decide ((k : Int) < (n : Int)) = true := by simp; omega
      have c1 := HC.out k hk
      go_upto_if 76 with fail
      go_cut [7] (fun t7 wx => ∃ k2 : Nat, t7 = .int .i64 k2 ∧ i < k2 ∧ k2 ≤ n ∧ Hid (Nums F i k2 ∧ (F i = 45 ∨ (48 ≤ F i ∧ F i ≤ 57))) ∧ wx = w)
      case first =>
        by_cases h46 : F k = 46
        · have HN3 : Hid (Nums F i (k + 1) ∧ (F i = 45 ∨ (48 ≤ F i ∧ F i ≤ 57))) := ⟨HN2.out.1.snoc (by unfold numB; omega), HN2.out.2⟩
          have v46 : (((F k : Nat) : Int) == 46) = true := by simp [h46]
          clear h46
          by_cases hk1 : k + 1 < n
          · have c2 := HC.out (k + 1) hk1
            have d1 : decide ((n : Int) ≤ (k : Int) + 1) = false := by simp; omega
            have hcall := digit_any w (F (k + 1))
            unfold DigPost at hcall
            by_cases hd : 48 ≤ F (k + 1) ∧ F (k + 1) ≤ 57
            · have e : (decide (48 ≤ F (k + 1)) && decide (F (k + 1) ≤ 57)) = true := by simp [hd.1, hd.2]
              rw [e] at hcall
              have HCL := Lib.hid hcall
              clear hcall e hd
              go_wp2_with fail
              refine HCL.out.mono ?_
              rintro e w1 ⟨rfl, hw1⟩
              obtain rfl := hw1.symm
              go_wp2_with fail
              refine (digits_any w S _ n c (k + 1) F t fd en HSC.out (by omega)).mono ?_
              rintro e w1 ⟨k3, rfl, hw1, hjk, hkn3, hds⟩
              obtain rfl := hw1.symm
              have HN4 : Hid (Nums F i k3 ∧ (F i = 45 ∨ (48 ≤ F i ∧ F i ≤ 57))) := ⟨HN3.out.1.digits hds, HN3.out.2⟩
              clear hds
              go_wp2_with fail
              go_meet
              exact ⟨k3, rfl, by omega, hkn3, HN4, rfl⟩
            · have e : (decide (48 ≤ F (k + 1)) && decide (F (k + 1) ≤ 57)) = false := by
                by_cases h1 : 48 ≤ F (k + 1)
                · have h2 : ¬ F (k + 1) ≤ 57 := fun h => hd ⟨h1, h⟩
                  simp [h2]
                · simp [h1]
              rw [e] at hcall
              have HCL := Lib.hid hcall
              clear hcall e hd
              go_wp2_with fail
              refine HCL.out.mono ?_
              rintro e w1 ⟨rfl, hw1⟩
              obtain rfl := hw1.symm
              go_wp2_with fail
              go_ret2
              exact PPost.no
          · have d1 : decide ((n : Int) ≤ (k : Int) + 1) = true := by simp; omega
            go_wp2_with fail
            go_ret2
            exact PPost.no
        · have v46 : (((F k : Nat) : Int) == 46) = false := by rw [beq_eq_false_iff_ne]; omega
          clear h46
          go_wp2_with fail
          go_meet
          exact ⟨k, rfl, hik, hkn, HN2, rfl⟩
      case rest =>
        obtain ⟨k2, rfl, hik2, hkn2, HN3, hw⟩ := hcut
        obtain rfl := hw.symm
        clear c1 d0 hk HN2 hik hkn
        by_cases hk2 : k2 < n
        case neg =>
          have d0 : decide ((k2 : Int) < (n : Int)) = false := by simp; omega
          go_wp2_with fail
          go_ret2
          exact PPost.yes rfl ⟨hik2, hkn2, HN3.out.2, HN3.out.1⟩
        have d0 : decide ((k2 : Int) < (n : Int)) = true := by simp; omega
        have c1 := HC.out k2 hk2
        by_cases hE : F k2 = 101 ∨ F k2 = 69
        case neg =>
          have v1 : (((F k2 : Nat) : Int) == 101) = false := by rw [beq_eq_false_iff_ne]; omega
          have v2 : (((F k2 : Nat) : Int) == 69) = false := by rw [beq_eq_false_iff_ne]; omega
          clear hE
          go_wp2_with fail
          go_ret2
          exact PPost.yes rfl ⟨hik2, hkn2, HN3.out.2, HN3.out.1⟩
        have HN4 : Hid (Nums F i (k2 + 1) ∧ (F i = 45 ∨ (48 ≤ F i ∧ F i ≤ 57))) := ⟨HN3.out.1.snoc (by unfold numB; omega), HN3.out.2⟩
        have hEE : (((F k2 : Nat) : Int) == 101) = true ∨ ((((F k2 : Nat) : Int) == 101) = false ∧ (((F k2 : Nat) : Int) == 69) = true) := by
          rcases hE with h | h
          · left; simp [h]
          · right; simp [h]
        clear hE HN3
        by_cases hk3 : k2 + 1 < n
        case neg =>
          have d1 : decide ((k2 : Int) + 1 < (n : Int)) = false := by simp; omega
          have d2 : decide ((n : Int) ≤ (k2 : Int) + 1) = true := by simp; omega
          rcases hEE with v1 | ⟨v1, v2⟩
          all_goals
            go_wp2_with fail
            go_ret2
            exact PPost.no
        have d1 : decide ((k2 : Int) + 1 < (n : Int)) = true := by simp; omega
        have c2 := HC.out (k2 + 1) hk3
        by_cases hs : F (k2 + 1) = 43 ∨ F (k2 + 1) = 45
        · have HN5 : Hid (Nums F i (k2 + 2) ∧ (F i = 45 ∨ (48 ≤ F i ∧ F i ≤ 57))) := ⟨HN4.out.1.snoc (by unfold numB; omega), HN4.out.2⟩
          have hss : (((F (k2 + 1) : Nat) : Int) == 43) = true ∨ ((((F (k2 + 1) : Nat) : Int) == 43) = false ∧ (((F (k2 + 1) : Nat) : Int) == 45) = true) := by
            rcases hs with h | h
            · left; simp [h]
            · right; simp [h]
          clear hs
          rcases hEE with v1 | ⟨v1, v2⟩ <;> rcases hss with q1 | ⟨q1, q2⟩
          all_goals
            by_cases hk4 : k2 + 2 < n
            case neg =>
              have d2 : decide ((n : Int) ≤ (k2 : Int) + 2) = true := by simp; omega
              go_wp2_with fail
              go_ret2
              exact PPost.no
            have d2 : decide ((n : Int) ≤ (k2 : Int) + 2) = false := by simp; omega
            have c3 := HC.out (k2 + 2) hk4
            have hcall := digit_any w (F (k2 + 2))
            unfold DigPost at hcall
            by_cases hd : 48 ≤ F (k2 + 2) ∧ F (k2 + 2) ≤ 57
            · have e : (decide (48 ≤ F (k2 + 2)) && decide (F (k2 + 2) ≤ 57)) = true := by simp [hd.1, hd.2]
              rw [e] at hcall
              have HCL := Lib.hid hcall
              clear hcall e hd
              go_wp2_with fail
              refine HCL.out.mono ?_
              rintro e w1 ⟨rfl, hw1⟩
              obtain rfl := hw1.symm
              go_wp2_with fail
              refine (digits_any w S _ n c (k2 + 2) F t fd en HSC.out (by omega)).mono ?_
              rintro e w1 ⟨k5, rfl, hw1, hjk, hkn5, hds⟩
              obtain rfl := hw1.symm
              have HN6 : Hid (Nums F i k5 ∧ (F i = 45 ∨ (48 ≤ F i ∧ F i ≤ 57))) := ⟨HN5.out.1.digits hds, HN5.out.2⟩
              clear hds
              go_wp2_with fail
              go_ret2
              exact PPost.yes rfl ⟨by omega, hkn5, HN6.out.2, HN6.out.1⟩
            · have e : (decide (48 ≤ F (k2 + 2)) && decide (F (k2 + 2) ≤ 57)) = false := notDig hd
              rw [e] at hcall
              have HCL := Lib.hid hcall
              clear hcall e hd
              go_wp2_with fail
              refine HCL.out.mono ?_
              rintro e w1 ⟨rfl, hw1⟩
              obtain rfl := hw1.symm
              go_wp2_with fail
              go_ret2
              exact PPost.no
        · have q1 : (((F (k2 + 1) : Nat) : Int) == 43) = false := by rw [beq_eq_false_iff_ne]; omega
          have q2 : (((F (k2 + 1) : Nat) : Int) == 45) = false := by rw [beq_eq_false_iff_ne]; omega
          have HN5 := HN4
          clear hs
          rcases hEE with v1 | ⟨v1, v2⟩
          all_goals
            have hk4 := hk3
            have d2 : decide ((n : Int) ≤ (k2 : Int) + 1) = false := by simp; omega
            have c3 := HC.out (k2 + 1) hk4
            have hcall := digit_any w (F (k2 + 1))
            unfold DigPost at hcall
            by_cases hd : 48 ≤ F (k2 + 1) ∧ F (k2 + 1) ≤ 57
            · have e : (decide (48 ≤ F (k2 + 1)) && decide (F (k2 + 1) ≤ 57)) = true := by simp [hd.1, hd.2]
              rw [e] at hcall
              have HCL := Lib.hid hcall
              clear hcall e hd
              go_wp2_with fail
              refine HCL.out.mono ?_
              rintro e w1 ⟨rfl, hw1⟩
              obtain rfl := hw1.symm
              go_wp2_with fail
              refine (digits_any w S _ n c (k2 + 1) F t fd en HSC.out (by omega)).mono ?_
              rintro e w1 ⟨k5, rfl, hw1, hjk, hkn5, hds⟩
              obtain rfl := hw1.symm
              have HN6 : Hid (Nums F i k5 ∧ (F i = 45 ∨ (48 ≤ F i ∧ F i ≤ 57))) := ⟨HN5.out.1.digits hds, HN5.out.2⟩
              clear hds
              go_wp2_with fail
              go_ret2
              exact PPost.yes rfl ⟨by omega, hkn5, HN6.out.2, HN6.out.1⟩
            · have e : (decide (48 ≤ F (k2 + 1)) && decide (F (k2 + 1) ≤ 57)) = false := notDig hd
              rw [e] at hcall
              have HCL := Lib.hid hcall
              clear hcall e hd
              go_wp2_with fail
              refine HCL.out.mono ?_
              rintro e w1 ⟨rfl, hw1⟩
              obtain rfl := hw1.symm
              go_wp2_with fail
              go_ret2
              exact PPost.no
end Go.Proofs.Qxb6603337a
