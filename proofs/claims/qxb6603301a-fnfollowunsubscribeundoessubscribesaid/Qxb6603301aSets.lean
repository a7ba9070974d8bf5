/-
  THE WALKS of wantHas, setAfterIs, buildSet.
-/
import Derived.Test.Qxb6603301aBase
namespace Go.Proofs.Qxb6603301a
open Go.RowKit Go.Maps
set_option linter.unusedVariables false

/-- wantHas: does the model's set hold c? -/
def want (D : DataW Unit) (c x : ByteArray) (adds drops : Bool) : Bool :=
  if c = x then (if adds then true else if drops then false else Maps.has D (key c)) else Maps.has D (key c)

theorem wantHas_any (w : World) (m : Value) (n : Nat) (D : DataW Unit) (c x : ByteArray) (adds drops : Bool) (hm : SetIs w m n D) (hc : c.size ≤ maxLen) :
    Calls Try.prog 27 #[m, .string c, .string x, .bool adds, .bool drops] w fun e w' => e = .returned (.bool (want D c x adds drops)) ∧ Below w.heap.size w w' := by
  by_cases hcx : c = x
  · subst hcx
    cases adds with
    | true =>
      have HW : Hid (want D c c true drops = true) := by show _ = _; simp [want]
      go_enter Try.func27, Try.ntmps27
      go_wp2_with fail
      go_ret
      exact ⟨ret_bool HW.out.symm, Below.refl _ _⟩
    | false =>
      cases drops with
      | true =>
        have HW : Hid (want D c c false true = false) := by show _ = _; simp [want]
        go_enter Try.func27, Try.ntmps27
        go_wp2_with fail
        go_ret
        exact ⟨ret_bool HW.out.symm, Below.refl _ _⟩
      | false =>
        have HW : Hid (want D c c false false = Maps.has D (key c)) := by show _ = _; simp [want]
        go_enter Try.func27, Try.ntmps27
        go_wp2_with (go_at_call 21; refine (has_any _ m n D c (by assumption) hc).mono ?_; rintro e w' ⟨rfl, hb⟩)
        go_ret
        exact ⟨ret_bool HW.out.symm, hb⟩
  · have hne : (c.toList == x.toList) = false := bytes_ne hcx
    have HW : Hid (want D c x adds drops = Maps.has D (key c)) := by show _ = _; simp [want, hcx]
    cases adds <;> cases drops <;>
    · go_enter Try.func27, Try.ntmps27
      go_wp2_with (go_at_call 21; refine (has_any _ m n D c (by assumption) hc).mono ?_; rintro e w' ⟨rfl, hb⟩)
      go_ret
      exact ⟨ret_bool HW.out.symm, by assumption⟩

theorem wantHas_at {w W : World} {m : Value} {n : Nat} {D : DataW Unit} {c x : ByteArray} {adds drops : Bool} (hB : Below w.heap.size w W) (hm : SetIs w m n D) (hc : c.size ≤ maxLen) :
    Calls Try.prog 27 #[m, .string c, .string x, .bool adds, .bool drops] W fun e w' => e = .returned (.bool (want D c x adds drops)) ∧ Below w.heap.size w w' :=
  (wantHas_any W m n D c x adds drops (hm.later hB) hc).mono fun _ _ ⟨h1, h2⟩ => ⟨h1, below_step hB (Nat.le_refl _) h2⟩

/-- how many keys the model's set has -/
def wantSize (D : DataW Unit) (x : ByteArray) (adds drops : Bool) : Int :=
  (Maps.size D : Int) + (if adds && !Maps.has D (key x) then 1 else 0) - (if drops && Maps.has D (key x) then 1 else 0)

set_option maxHeartbeats 1000000 in
theorem setAfterIs_any (w : World) (got before : Value) (ng nb : Nat) (Dg D : DataW Unit) (a : Option Addr) (n c : Nat) (ss : Nat → ByteArray) (x : ByteArray) (adds drops : Bool)
    (hg : SetIs w got ng Dg) (hb : SetIs w before nb D) (hnb : nb ≤ 4194304) (hng : ng ≤ 4194304) (hn : n ≤ 1048576) (hs : StrsAt w a n ss) (hsz : ∀ i, i < n → (ss i).size ≤ maxLen) (hx : x.size ≤ maxLen)
    (h1 : (Maps.size Dg : Int) = wantSize D x adds drops) (h2 : ∀ i, i < n → Maps.has Dg (key (ss i)) = want D (ss i) x adds drops) (h3 : Maps.has Dg (key x) = want D x x adds drops) :
    Calls Try.prog 17 #[got, before, .slice a n c, .string x, .bool adds, .bool drops] w fun e w' => e = .returned (.bool true) ∧ Below w.heap.size w w' := by
  have hl1 := hb.size_le
  have hl2 := hg.size_le
  have H1 : Hid ((Maps.size Dg : Int) = wantSize D x adds drops) := h1
  have H2 : Hid (∀ i, i < n → Maps.has Dg (key (ss i)) = want D (ss i) x adds drops) := h2
  have H3 : Hid (Maps.has Dg (key x) = want D x x adds drops) := h3
  clear h1 h2 h3
  go_enter Try.func17, Try.ntmps17
  go_upto_region 2 with (at_len; refine wpList_len_set _ rfl _ rfl before nb D rfl hb ?_)
  go_cut [23] (fun t wx => t = .bool (adds && !Maps.has D (key x)) ∧ Below w.heap.size w wx)
  case first =>
    cases adds with
    | true =>
      go_wp2_with (go_at_call 21; refine (has_any _ before nb D x (by assumption) hx).mono ?_; rintro e w1 ⟨rfl, hb1⟩)
      go_meet
      exact ⟨rfl, hb1⟩
    | false =>
      go_wp2_with fail
      go_meet
      exact ⟨rfl, Below.refl _ _⟩
  case rest =>
    obtain ⟨rfl, hw1⟩ := hcut
    have hb1 := hb.later hw1
    generalize hA : (adds && !Maps.has D (key x)) = A at *
    have HA : Hid ((adds && !Maps.has D (key x)) = A) := hA
    clear hA
    go_upto_if 23 with fail
    go_cut [13] (fun t wx => t = .int .i64 ((Maps.size D : Int) + (if A then 1 else 0)) ∧ wx = wc)
    case first =>
      cases A with
      | true =>
        go_wp2_with fail
        go_meet
        exact ⟨rfl, rfl⟩
      | false =>
        go_wp2_with fail
        go_meet
        exact ⟨by go_num, rfl⟩
    case rest =>
      obtain ⟨rfl, rfl⟩ := hcut
      have hA1 : (0 : Int) ≤ (if A then 1 else 0) ∧ (if A then 1 else 0 : Int) ≤ 1 := by cases A <;> simp
      generalize hq : (if A then 1 else 0 : Int) = q at *
      have HQ : Hid ((if A then 1 else 0 : Int) = q) := hq
      clear hq
      go_upto_region 4 with fail
      go_cut [31] (fun t wx => t = .bool (drops && Maps.has D (key x)) ∧ Below w.heap.size w wx)
      case first =>
        cases drops with
        | true =>
          go_wp2_with (go_at_call 21; refine (has_any _ before nb D x (by assumption) hx).mono ?_; rintro e w1 ⟨rfl, hb1⟩)
          go_meet
          exact ⟨rfl, below_step hw1 (Nat.le_refl _) (by assumption)⟩
        | false =>
          go_wp2_with fail
          go_meet
          exact ⟨rfl, hw1⟩
      case rest =>
        obtain ⟨rfl, hw2⟩ := hcut
        have hg2 := hg.later hw2
        have hb2 := hb.later hw2
        have hs2 := hs.later hw2
        generalize hB : (drops && Maps.has D (key x)) = B at *
        have HB : Hid ((drops && Maps.has D (key x)) = B) := hB
        clear hB
        go_upto_if 31 with fail
        go_cut [13] (fun t wx => t = .int .i64 ((Maps.size Dg : Int)) ∧ wx = wc)
        case first =>
          cases B with
          | true =>
            have he : Hid ((Maps.size D : Int) + q - 1 = Maps.size Dg) := by
              show _ = _
              rw [H1.out, wantSize, HA.out, HB.out, HQ.out]; simp
            go_wp2_with fail
            go_meet
            exact ⟨by rw [he.out], rfl⟩
          | false =>
            have he : Hid ((Maps.size D : Int) + q = Maps.size Dg) := by
              show _ = _
              rw [H1.out, wantSize, HA.out, HB.out, HQ.out]; simp
            go_wp2_with fail
            go_meet
            exact ⟨by rw [he.out], rfl⟩
        case rest =>
          obtain ⟨rfl, rfl⟩ := hcut
          go_wp2_with (at_len; refine wpList_len_set _ rfl _ rfl got ng Dg rfl (by assumption) ?_)
          go_loopg [14] n (fun g t wr => ∃ k : Nat, k ≤ n ∧ g = n - k ∧ t = .int .i64 k ∧ Below w.heap.size w wr)
          case atStart => exact ⟨0, Nat.zero_le _, rfl, rfl, hw2⟩
          case round =>
            obtain ⟨k, hk, hgk, rfl, hwr⟩ := hrel
            have hgr := hg.later hwr
            have hbr := hb.later hwr
            have hsr := hs.later hwr
            clear hg2 hb2 hs2 hb1 hg hb hs
            by_cases hlt : k < n
            · obtain ⟨sb, so, rfl, hcs⟩ := hsr (by omega)
              have hck := hcs k hlt
              have hzk := hsz k hlt
              have hw := H2.out k hlt
              go_upto_region 11 with fail
              go_cut [59] (fun t wx => t = .bool false ∧ Below wr.heap.size wr wx)
              case first =>
                clear hcs
                have HW : Hid (Maps.has Dg (key (ss k)) = want D (ss k) x adds drops) := hw
                clear hw
                go_region_with (first | (go_at_call 21; refine (has_at (w := wr) ?_ hgr hzk).mono ?_; (first | exact (Below.refl _ _).drew | assumption); rintro e w1 ⟨rfl, hb1⟩; have hc1 := cellLater hb1 hck) | (go_at_call 27; refine (wantHas_at (w := wr) ?_ hbr hzk).mono ?_; (first | exact (Below.refl _ _).drew | assumption); rintro e w1 ⟨rfl, hb1⟩; have hc1 := cellLater hb1 hck))
                all_goals (go_wp2_with fail; go_meet; exact ⟨by rw [HW.out]; simp, by assumption⟩)
              case rest =>
                obtain ⟨rfl, hw3⟩ := hcut
                have hfin : Below w.heap.size w wc := below_step hwr (Nat.le_refl _) hw3
                clear hw3 hwr hgr hbr hcs hck
                go_wp2_with fail
                go_roundg (n - (k + 1))
                case measure => omega
                case rel => exact ⟨k + 1, by omega, rfl, by go_num, hfin⟩
            · have HX : Hid (Maps.has Dg (key x) = want D x x adds drops) := H3.out
              go_wp2_with (first | (go_at_call 21; refine (has_at (w := wr) ?_ hgr hx).mono ?_; (first | exact Below.refl _ _ | assumption); rintro e w1 ⟨rfl, hb1⟩) | (go_at_call 27; refine (wantHas_at (w := wr) ?_ hbr hx).mono ?_; (first | exact Below.refl _ _ | assumption); rintro e w2 ⟨rfl, hb2⟩))
              go_ret
              exact ⟨ret_bool (by rw [HX.out]; simp), below_step hwr (Nat.le_refl _) hb2⟩
end Go.Proofs.Qxb6603301a
