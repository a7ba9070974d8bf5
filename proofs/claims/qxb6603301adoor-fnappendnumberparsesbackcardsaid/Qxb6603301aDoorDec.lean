/-
  THE WALK of decimal: the numeral again.
-/
import Derived.Test.Qxb6603301aDoorApp
namespace Go.Proofs.Qxb6603301aDoor
open Go.RowKit
set_option linter.unusedVariables false

/-- the j last digits of m, the greatest first -/
def digs : Nat → Nat → List Int
  | 0, _ => []
  | j + 1, m => (48 + ((m / 10 ^ j : Nat) : Int)) :: digs j (m % 10 ^ j)

theorem digs_length (j : Nat) : ∀ m, (digs j m).length = j := by
  induction j with
  | zero => intro m; rfl
  | succ j ih => intro m; simp [digs, ih]

theorem digs_snoc (j : Nat) : ∀ m, m < 10 ^ (j + 1) → digs (j + 1) m = digs j (m / 10) ++ [48 + ((m % 10 : Nat) : Int)] := by
  induction j with
  | zero => intro m h; simp at h; simp [digs, Nat.mod_eq_of_lt h]
  | succ j ih =>
    intro m h
    rw [digs, ih (m % 10 ^ (j + 1)) (Nat.mod_lt _ (Nat.pow_pos (by decide)))]
    have e0 : 10 ^ (j + 1) = 10 * 10 ^ j := by rw [Nat.pow_succ, Nat.mul_comm]
    have e1 : m % 10 ^ (j + 1) / 10 = m / 10 % 10 ^ j := by rw [e0, Nat.mod_mul_right_div_self]
    have e2 : m % 10 ^ (j + 1) % 10 = m % 10 := by rw [e0, Nat.mod_mul_right_mod]
    have e3 : m / 10 ^ (j + 1) = m / 10 / 10 ^ j := by rw [e0, Nat.div_div_eq_div_mul]
    rw [e1, e2, e3]
    rfl

theorem num_digit (k : Nat) (h : k < 10) : nums [UInt8.ofNat (48 + k)] = [48 + (k : Int)] := by
  have e : ∀ k : Fin 10, nums [UInt8.ofNat (48 + k.val)] = [48 + (k.val : Int)] := by decide
  exact e ⟨k, h⟩

theorem digs_dec (k : Nat) : ∀ m, m < 10 ^ (k + 1) → (k = 0 ∨ 10 ^ k ≤ m) → digs (k + 1) m = nums (Lib.decDigits m) := by
  induction k with
  | zero => intro m h _; simp at h; rw [Lib.decDigits_one h, num_digit m h]; simp [digs]
  | succ k ih =>
    intro m h h1
    have h2 : 10 ^ (k + 1) ≤ m := h1.resolve_left (by omega)
    have e0 : 10 ^ (k + 1) = 10 * 10 ^ k := by rw [Nat.pow_succ, Nat.mul_comm]
    have e1 : 10 ^ (k + 2) = 10 * 10 ^ (k + 1) := by rw [Nat.pow_succ, Nat.mul_comm]
    have hp : 0 < 10 ^ k := Nat.pow_pos (by decide)
    have h10 : ¬ m < 10 := by omega
    have hdec : Lib.decDigits m = Lib.decDigits (m / 10) ++ [UInt8.ofNat (48 + m % 10)] := (Lib.decDigits.eq_def m).trans (dif_neg h10)
    have hm1 : m / 10 < 10 ^ (k + 1) := by rw [e1] at h; omega
    have hm2 : 10 ^ k ≤ m / 10 := by omega
    rw [digs_snoc _ _ h, ih (m / 10) hm1 (.inr hm2), hdec]
    have := num_digit (m % 10) (Nat.mod_lt _ (by decide))
    simp only [nums, List.map_append] at this ⊢
    rw [this]

/-- the power at j digits to go -/
def pw (j : Nat) : Nat := if j = 0 then 0 else 10 ^ (j - 1)
theorem pw_succ (j : Nat) : pw (j + 1) = 10 ^ j := by simp [pw]
theorem pw_div (j : Nat) : pw (j + 1) / 10 = pw j := by
  cases j with
  | zero => rfl
  | succ j => rw [pw_succ, pw_succ, Nat.pow_succ, Nat.mul_div_cancel _ (by decide)]

def sgn (i : Int) : List Int := if i < 0 then [45] else []
theorem itoa_sgn (i : Int) : nums (Lib.itoa i) = sgn i ++ nums (Lib.decDigits i.natAbs) := by
  unfold Lib.itoa sgn
  split
  · rfl
  · rw [show i.toNat = i.natAbs by omega]; rfl

theorem pow_small {k m : Nat} (h : 10 ^ k ≤ m) (hm : m ≤ 9223372036854775808) : k ≤ 18 := by
  rcases Nat.lt_or_ge 18 k with h1 | h1
  · have : 10 ^ 19 ≤ 10 ^ k := Nat.pow_le_pow_right (by decide) h1
    have : (10 : Nat) ^ 19 = 10000000000000000000 := by decide
    omega
  · exact h1

set_option maxHeartbeats 2000000 in
theorem decimal_any (w : World) (i : Int) (h0 : -9223372036854775808 ≤ i) (h1 : i ≤ 9223372036854775807) :
    Calls Tryd.prog 11 #[.int .i64 i] w fun e w' => ∃ v', e = .returned v' ∧ w'.ownsRow w.heap.size 5 1 v' (Lib.itoa i).length (cellsOf (nums (Lib.itoa i))) ∧ Below w.heap.size w w' := by
  obtain ⟨i0, hi0, hz0, hz1, hz2⟩ := info_parts Tryd.info5
  go_enter Tryd.func11, Tryd.ntmps11
  go_upto_if 7 with fail
  go_cut [3, 4] (fun v t wx => ∃ M : Int, Hid (M = i.natAbs) ∧ t = .int .u64 M ∧ wx.ownsRow w.heap.size 5 1 v (sgn i).length (cellsOf (sgn i)) ∧ Below w.heap.size w wx)
  case first =>
    by_cases hi : i < 0
    · have hd : decide (i < 0) = true := by simp [hi]
      have HS : Hid (sgn i = [45]) := by simp [Hid, sgn, hi]
      go_wp2_with (at_builtin; refine wpList_append_own _ rfl _ _ 22 rfl w.heap.size 5 i0 (.int .u8 0) 1 1 Tryd.underlying22 hi0 hz0 hz1 hz2 rfl (by decide) _ 0 [] rfl (World.ownsRow_nil _ _ _ _) ⟨w.heap.size, 0, none⟩ 1 1 [Value.int .u8 45] rfl rfl (by intro j u' hj; match j, hj with | 0, hj => simp at hj; subst hj; simp [Addr.add]) (by intro u' hu'; simp at hu'; subst hu'; rfl) (by decide) (by decide) (by simp) ?_; intro v2 w2 hown2 hgrow _)
      have hb2 : Below w.heap.size w w2 := (below_alloc _ _).grown hgrow (by simp) (fun k hk => by cases hk)
      go_meet
      refine ⟨i.natAbs, rfl, ?_, ?_, hb2⟩
      · congr 1; omega
      · rw [HS.out]; exact hown2
    · have hd : decide (i < 0) = false := by simp [hi]
      have HS : Hid (sgn i = []) := by simp [Hid, sgn, hi]
      go_wp2_with fail
      go_meet
      refine ⟨i.natAbs, rfl, ?_, ?_, Below.refl _ _⟩
      · congr 1; omega
      · rw [HS.out]; exact World.ownsRow_nil _ _ _ _
  case rest =>
    obtain ⟨M, HM, rfl, hown, hb⟩ := hcut
    have hM0 : 0 ≤ M := by rw [HM.out]; omega
    have hM1 : M ≤ 9223372036854775808 := by rw [HM.out]; omega
    have HOWN := Lib.hid hown
    have HB := Lib.hid hb
    clear hown hb
    go_wp2_with fail
    go_loopg [5] 20 (fun gg t wr => ∃ (k : Nat) (P : Int), Hid (P = (10 ^ k : Nat) ∧ (k = 0 ∨ 10 ^ k ≤ i.natAbs) ∧ k ≤ 18 ∧ gg = 20 - k) ∧ 1 ≤ P ∧ P ≤ 1000000000000000000 ∧ t = .int .u64 P ∧ wr = wc)
    case atStart => exact ⟨0, 1, ⟨rfl, .inl rfl, by omega, rfl⟩, by omega, by omega, rfl, rfl⟩
    case round =>
      obtain ⟨k, P, HP, hP0, hP1, rfl, hw⟩ := hrel
      obtain rfl := hw.symm
      have hPne : P ≠ 0 := by omega
      by_cases hge : 10 ≤ M / P
      · have hd : decide (10 ≤ M / P) = true := by simp [hge]
        have HK : Hid (10 ^ (k + 1) ≤ i.natAbs) := by
          obtain ⟨e, _, _, _⟩ := HP.out
          have e2 := HM.out
          show _ ≤ _
          have : 10 * P ≤ M := by
            have := Int.mul_le_of_le_ediv (by omega) hge
            exact this
          rw [e, e2] at this
          rw [Nat.pow_succ]; omega
        have HK18 : Hid (k + 1 ≤ 18) := pow_small HK.out (by omega)
        have HP2 : Hid (P * 10 = (10 ^ (k + 1) : Nat) ∧ P * 10 ≤ 1000000000000000000) := by
          obtain ⟨e, _, _, _⟩ := HP.out
          have e3 : P * 10 = (10 ^ (k + 1) : Nat) := by rw [e, Nat.pow_succ]; omega
          refine ⟨e3, ?_⟩
          rw [e3]
          have : 10 ^ (k + 1) ≤ 10 ^ 18 := Nat.pow_le_pow_right (by decide) HK18.out
          have : (10 : Nat) ^ 18 = 1000000000000000000 := by decide
          omega
        go_wp2_with fail
        go_roundg (20 - (k + 1))
        case measure =>
          obtain ⟨_, _, h18, hg⟩ := HP.out
          omega
        case rel =>
          exact ⟨k + 1, P * 10, ⟨HP2.out.1, .inr HK.out, HK18.out, rfl⟩, by omega, HP2.out.2, by go_num, rfl⟩
      · have hd : decide (10 ≤ M / P) = false := by simp; omega
        have HK : Hid (i.natAbs < 10 ^ (k + 1)) := by
          obtain ⟨e, _, _, _⟩ := HP.out
          have e2 := HM.out
          show _ < _
          have : M < 10 * P := by
            have := Int.lt_mul_of_ediv_lt (show 0 < P by omega) (show M / P < 10 by omega)
            exact this
          rw [e, e2] at this
          rw [Nat.pow_succ]; omega
        have HFULL : Hid (sgn i ++ digs (k + 1) i.natAbs = nums (Lib.itoa i)) := by
          show _ = _
          rw [itoa_sgn, digs_dec k _ HK.out HP.out.2.1]
        go_wp2_with fail
        have HK18 := HP.out.2.2.1
        have HP10 := Lib.hid HP.out.1
        go_loopg [3, 4, 5] (k + 1) (fun gg v t p wr => ∃ (j m : Nat) (done : List Int) (M' P' : Int), Hid (gg = j ∧ done ++ digs j m = digs (k + 1) i.natAbs ∧ m < 10 ^ j ∧ M' = m ∧ P' = pw j ∧ j ≤ 19 ∧ done.length ≤ 19) ∧ 0 ≤ P' ∧ P' ≤ 1000000000000000000 ∧ 0 ≤ M' ∧ M' ≤ 9223372036854775808 ∧ t = .int .u64 M' ∧ p = .int .u64 P' ∧ Hid (wr.ownsRow w.heap.size 5 1 v ((sgn i).length + done.length) (cellsOf (sgn i ++ done))) ∧ Below w.heap.size w wr)
        case atStart => exact ⟨k + 1, i.natAbs, [], M, P, ⟨rfl, rfl, HK.out, HM.out, by rw [pw_succ]; exact HP10.out, by omega, by simp⟩, by omega, hP1, hM0, hM1, rfl, rfl, Lib.hid (by simpa using HOWN.out), HB.out⟩
        case round =>
          obtain ⟨j, m, done, M', P', HR, hp0, hp1, hm0, hm1, rfl, rfl, hO, hbr⟩ := hrel
          clear hPne hge hd HK HOWN HB hP0 hP1 hM0 hM1
          cases j with
          | zero =>
            obtain ⟨_, hfull, _, _, hP0, _, _⟩ := HR.out
            obtain rfl : P' = 0 := hP0
            go_wp2_with fail
            go_ret
            have e1 : done = digs (k + 1) i.natAbs := by simpa [digs] using hfull
            have e2 : (sgn i).length + done.length = (Lib.itoa i).length := by
              rw [← nums_length, ← HFULL.out, List.length_append, e1]
            have hO' := hO.out
            rw [e2, e1, HFULL.out] at hO'
            exact ⟨_, rfl, hO', hbr⟩
          | succ j =>
            have hR := HR.out
            obtain ⟨hg, hfull, hm, hMe, hPe, hj, hdl⟩ := hR
            rw [pw_succ] at hPe
            have hpp : 1 ≤ P' := by rw [hPe]; have : 0 < 10 ^ j := Nat.pow_pos (by decide); omega
            have hPne : P' ≠ 0 := by omega
            have hdiv : M' / P' = ((m / 10 ^ j : Nat) : Int) := by rw [hMe, hPe]; simp
            have hD9 : m / 10 ^ j < 10 := by
              rw [Nat.pow_succ, Nat.mul_comm] at hm
              exact Nat.div_lt_of_lt_mul (by rw [Nat.mul_comm]; exact hm)
            have hmod : M' % P' = ((m % 10 ^ j : Nat) : Int) := by rw [hMe, hPe]; simp
            have hpd : P' / 10 = ((pw j : Nat) : Int) := by rw [hPe, ← pw_div, pw_succ]; simp
            have hms := Nat.mod_le m (10 ^ j)
            have hpds := Nat.div_le_self (10 ^ j) 10
            have hpj : pw j = 10 ^ j / 10 := by rw [← pw_div, pw_succ]
            obtain ⟨D, hD⟩ : ∃ D : Int, D = ((m / 10 ^ j : Nat) : Int) := ⟨_, rfl⟩
            obtain ⟨M2, hM2⟩ : ∃ D : Int, D = ((m % 10 ^ j : Nat) : Int) := ⟨_, rfl⟩
            obtain ⟨P2, hP2⟩ : ∃ D : Int, D = ((pw j : Nat) : Int) := ⟨_, rfl⟩
            have HNEXT : Hid (j = j ∧ (done ++ [48 + D]) ++ digs j (m % 10 ^ j) = digs (k + 1) i.natAbs ∧ m % 10 ^ j < 10 ^ j ∧ M2 = ((m % 10 ^ j : Nat) : Int) ∧ P2 = ((pw j : Nat) : Int) ∧ j ≤ 19 ∧ (done ++ [48 + D]).length ≤ 19) := by
              refine ⟨rfl, ?_, Nat.mod_lt _ (Nat.pow_pos (by decide)), hM2, hP2, by omega, ?_⟩
              · rw [← hfull, hD, digs]; simp
              · have := congrArg List.length hfull
                simp only [List.length_append, digs_length, List.length_cons, List.length_nil] at this ⊢
                omega
            have hD0 : 0 ≤ D := by rw [hD]; exact Int.natCast_nonneg _
            have hD1 : D ≤ 9 := by rw [hD]; exact_mod_cast Nat.le_of_lt_succ hD9
            have hM20 : 0 ≤ M2 := by omega
            have hM21 : M2 ≤ 9223372036854775808 := by omega
            have hP20 : 0 ≤ P2 := by omega
            have hP21 : P2 ≤ 1000000000000000000 := by omega
            rw [← hD] at hdiv
            rw [← hM2] at hmod
            rw [← hP2] at hpd
            clear HR hfull hm hMe hPe hj hD hM2 hP2 hms hpds hpj hD9 hdl
            have hO' := hO.out
            have hlenO : (sgn i).length + done.length ≤ 30 := by
              have := HNEXT.out.2.2.2.2.2.2
              have hs : (sgn i).length ≤ 1 := by unfold sgn; split <;> simp
              simp only [List.length_append, List.length_cons, List.length_nil] at this
              omega
            have hsz := hbr.size
            go_upto_region 12 with (at_builtin; refine wpList_append_own _ rfl (.tmp 26) (.tmp 32) 22 rfl w.heap.size 5 i0 (.int .u8 0) 1 1 Tryd.underlying22 hi0 hz0 hz1 hz2 rfl (by decide) _ _ _ rfl (hO'.alloc _) ⟨wr.heap.size, 0, none⟩ 1 1 [Value.int .u8 (48 + D)] rfl rfl (by intro j u' hj; match j, hj with | 0, hj => simp at hj; subst hj; simp [Addr.add]) (by intro u' hu'; simp at hu'; subst hu'; rfl) (by unfold maxLen; omega) (by omega) (by simp; omega) ?_; intro v2 w2 hown2 hgrow _)
            have hb2 : Below w.heap.size w w2 := (hbr.alloc hsz _).grown hgrow (by simp; omega) (fun k hk => (hO'.lt k hk).1)
            have HO2 : Hid (w2.ownsRow w.heap.size 5 1 v2 ((sgn i).length + (done ++ [48 + D]).length) (cellsOf (sgn i ++ (done ++ [48 + D])))) := by
              have e : cellsOf (sgn i ++ (done ++ [48 + D])) = cellsOf (sgn i ++ done) ++ [Value.int .u8 (48 + D)] := by simp [cellsOf]
              have e2 : (sgn i).length + (done ++ [48 + D]).length = (sgn i).length + done.length + 1 := by simp; omega
              show World.ownsRow _ _ _ _ _ _ _
              rw [e, e2]; exact hown2
            clear hown2 hgrow hO' hO
            go_wp2_with fail
            go_roundg j
            case measure => omega
            case rel => exact ⟨j, m % 10 ^ j, done ++ [48 + D], M2, P2, Lib.hid ⟨rfl, HNEXT.out.2⟩, hP20, hP21, hM20, hM21, by go_num, by go_num, HO2, hb2⟩
end Go.Proofs.Qxb6603301aDoor
