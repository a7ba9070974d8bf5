/-
  THE PROOF OF 'Rows.FnFollowMatchesSetModelSaid': the frame after the guide's template; the walks in the texts beside it.
-/
import Derived.Test.Qxb6603301aLaw1
import Derived.Test.Qxb6603301aLaw1Nil
import Derived.Test.Qxb6603301aDown
import Derived.Below
namespace Go.Proofs.Qxb6603301a.fnFollowMatchesSetModel
open Go.ChangeShapes Go.WideShapes Go.ChangeAt Go.RowKit
open Go.ChangeMaps (open_string shut_string)
set_option linter.unusedVariables false

theorem own : ownKnob Try.prog.godebug = none := by kernel_rfl
theorem laidOut : laidOutB Try.prog = true := by kernel_rfl

theorem arr_of {cs : Array Value} {l : List Value} (h : cs.toList = l) : cs = l.toArray := by rw [← h]

set_option maxRecDepth 100000 in
set_option maxHeartbeats 1600000 in
theorem lifted (os : Os) (started : os.Started) (H : Type) (enc : TypeId × Value → H) :
    ReturnsInHanded {} Try.checked os 3 .any (Rows.fnFollowMatchesSetModelSpec.pre6 enc Try.prog Try.f3 Rows.fnFollowMatchesSetModelRow.domain false) (Rows.fnFollowMatchesSetModelSpec.post enc Try.prog Try.f3 false true false false) := by
  refine returnsInHanded_of_change (C := Try.checked) own started (by kernel_rfl) Try.func3
    (ChangeSpec.witness6 (enc := enc) (C := Try.checked) false ⟨#[], #[.agg #[.slice none 0 0, .slice none 0 0, .slice none 0 0, .bool false, .bool false, .bool false], .pointer none, .agg #[.int .u8 0, .slice none 0 0, .int .i64 0, .slice none 0 0]], []⟩ 8 (by kernel_rfl) (by kernel_rfl) (by kernel_rfl) (by kernel_rfl)) ?_
  intro W base args ds gs before hval0 hW hcnd _
  have hval : ∀ (j : Nat) t v, Try.f3.params[j]? = some t → args[j]? = some v → Value.okWide Try.prog W .any base t v := hval0
  have hW' := hW
  obtain ⟨p, q, hA0, hV, rfl, hfz, hnd⟩ := hW
  have hA : DataW.TrodAll enc Try.prog W 0 (fun _ => true) true Try.f3.params.toList args.toList ds p := hA0
  rw [Try.params3] at hA hval
  obtain ⟨v0, vs0, d0, ds0, p0, q0, hargs, rfl, rfl, h0, r0⟩ := trodAll_cons hA
  obtain ⟨v1, vs1, d1, ds1, p1, q1, rfl, rfl, rfl, h1, r1⟩ := trodAll_cons r0
  obtain ⟨v2, vs2, d2, ds2, p2, q2, rfl, rfl, rfl, h2, r2⟩ := trodAll_cons r1
  obtain ⟨rfl, rfl, rfl⟩ := trodAll_nil r2
  obtain rfl : args = #[v0, v1, v2] := by cases args; simp_all
  obtain ⟨rfl, rfl⟩ := trodVars_none hV
  have k0 := h0
  have k1 := h1
  have k2 := h2
  have lt0 : ∀ x ∈ p0, x.block < W.heap.size := by obtain ⟨m, hm⟩ := k0; exact DataW.trod_lt m _ _ _ hm
  have lt1 : ∀ x ∈ p1, x.block < W.heap.size := by obtain ⟨m, hm⟩ := k1; exact DataW.trod_lt m _ _ _ hm
  have lt2 : ∀ x ∈ p2, x.block < W.heap.size := by obtain ⟨m, hm⟩ := k2; exact DataW.trod_lt m _ _ _ hm
  obtain ⟨c0, rfl, _⟩ := okWide_struct Try.underlying26 (hval 0 26 v0 rfl rfl)
  obtain ⟨a1, rfl⟩ := okWide_pointer Try.underlying27 (hval 1 27 v1 rfl rfl)
  obtain ⟨c2, rfl, _⟩ := okWide_struct Try.underlying31 (hval 2 31 v2 rfl rfl)
  obtain ⟨f0, g0⟩ := h0
  obtain ⟨f2, g2⟩ := h2
  obtain ⟨a, n, c, nl, f, e0, s1, s2, s3, s4⟩ := down_subs g0
  obtain ⟨k, sa, sn, sc, m, g, ea, en, ec, E, e2, t1, t2, t3, t4, t5, t6, t7⟩ := down_val g2
  obtain rfl : c0 = #[.slice (a 0) (n 0) (c 0), .slice (a 1) (n 1) (c 1), .slice (a 2) (n 2) (c 2), .bool (nl 0), .bool (nl 1), .bool (nl 2)] := arr_of e0
  obtain rfl : c2 = #[.int .u8 k, .slice sa sn sc, .int .i64 m, .slice ea en ec] := arr_of e2
  have G : Given W a n c f sa sn sc g ea en ec E := by
    unfold maxLen at s2 t2 t5 t7
    exact ⟨s1, s2, s3, s4, t1, t2, t3, t4, t5, t6, t7⟩
  clear hA0 hval0
  obtain ⟨f1, g1⟩ := h1
  rcases DataW.trod_pointer Try.underlying27 g1 with ⟨hcs, _⟩ | ⟨x, cs', y, fu, _, hcs, _, hcell, hy⟩
  · obtain rfl : a1 = none := by simpa [Value.cells] using hcs
    refine (law1_nil W a n c nl f k sa sn sc m g ea en ec E G).mono fun e W' ⟨he, bel⟩ => ?_
    subst he
    exact ⟨_, rfl, _, _, _, [], _, [], hW', trodAll_mk1 (shut_bool Try.underlying4 _), (trodAll_cons_mk (Below.trod laidOut (by kernel_rfl) (of_decide_eq_true (by kernel_rfl)) k0 bel lt0) (trodAll_cons_mk (Below.trod laidOut (by kernel_rfl) (of_decide_eq_true (by kernel_rfl)) k1 bel lt1) (trodAll_cons_mk (Below.trod laidOut (by kernel_rfl) (of_decide_eq_true (by kernel_rfl)) k2 bel lt2) trodAll_mk0))), rfl, bel.frame _, fun h => by cases h⟩
  · obtain rfl : a1 = some x := by simpa [Value.cells] using hcs
    obtain ⟨kb, ko, nm, F, ev, rfl, q0, q1, q2, hz, hF0⟩ := down_kind hcell hy
    unfold maxLen at hz
    refine (law1_some W a n c nl f kb ko nm F ev k sa sn sc m g ea en ec E G hz q0 q1 q2 hF0).mono fun e W' ⟨he, bel⟩ => ?_
    subst he
    exact ⟨_, rfl, _, _, _, [], _, [], hW', trodAll_mk1 (shut_bool Try.underlying4 _), (trodAll_cons_mk (Below.trod laidOut (by kernel_rfl) (of_decide_eq_true (by kernel_rfl)) k0 bel lt0) (trodAll_cons_mk (Below.trod laidOut (by kernel_rfl) (of_decide_eq_true (by kernel_rfl)) k1 bel lt1) (trodAll_cons_mk (Below.trod laidOut (by kernel_rfl) (of_decide_eq_true (by kernel_rfl)) k2 bel lt2) trodAll_mk0))), rfl, bel.frame _, fun h => by cases h⟩

theorem over : Rows.fnFollowMatchesSetModelRow.holds Try.pinned (OpenSpec.ofChange Rows.fnFollowMatchesSetModelSpec) :=
  OpenClaim.holds_of_wide 3 Try.f3 rfl rfl rfl rfl rfl rfl rfl ⟨rfl, rfl, rfl, rfl, rfl⟩ rfl rfl rfl rfl rfl (by kernel_rfl) Try.func3 (by kernel_rfl)
    (of_decide_eq_true (by kernel_rfl)) (by unfold Func.isWrapper; first | (rw [if_pos (by decide +kernel)]; kernel_rfl) | (rw [if_neg (by decide +kernel)]; exact ⟨rfl, rfl⟩))
    (fun os started H enc _ => lifted os started H enc)

theorem proved : Rows.FnFollowMatchesSetModelSaid := over
end Go.Proofs.Qxb6603301a.fnFollowMatchesSetModel
