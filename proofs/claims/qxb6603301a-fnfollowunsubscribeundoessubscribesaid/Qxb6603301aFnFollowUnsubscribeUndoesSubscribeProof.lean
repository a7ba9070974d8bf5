/-
  THE PROOF OF 'Rows.FnFollowUnsubscribeUndoesSubscribeSaid': the frame after the guide's template; the walks in the texts beside it.
-/
import Derived.Test.Qxb6603301aLaw2
import Derived.Test.Qxb6603301aDown
import Derived.Below
namespace Go.Proofs.Qxb6603301a.fnFollowUnsubscribeUndoesSubscribe
open Go.ChangeShapes Go.WideShapes Go.ChangeAt Go.RowKit
open Go.ChangeMaps (open_string shut_string)
set_option linter.unusedVariables false

theorem own : ownKnob Try.prog.godebug = none := by kernel_rfl
theorem laidOut : laidOutB Try.prog = true := by kernel_rfl

theorem arr_of {cs : Array Value} {l : List Value} (h : cs.toList = l) : cs = l.toArray := by rw [← h]

set_option maxRecDepth 100000 in
set_option maxHeartbeats 1600000 in
theorem lifted (os : Os) (started : os.Started) (H : Type) (enc : TypeId × Value → H) :
    ReturnsInHanded {} Try.checked os 5 .any (Rows.fnFollowUnsubscribeUndoesSubscribeSpec.pre6 enc Try.prog Try.f5 Rows.fnFollowUnsubscribeUndoesSubscribeRow.domain false) (Rows.fnFollowUnsubscribeUndoesSubscribeSpec.post enc Try.prog Try.f5 false true false false) := by
  refine returnsInHanded_of_change (C := Try.checked) own started (by kernel_rfl) Try.func5
    (ChangeSpec.witness6 (enc := enc) (C := Try.checked) false ⟨#[], #[.agg #[.slice none 0 0, .slice none 0 0, .slice none 0 0, .bool false, .bool false, .bool false], .int .u8 0, .string ⟨#[]⟩, .agg #[.int .u8 0, .slice none 0 0, .int .i64 0, .slice none 0 0]], []⟩ 8 (by kernel_rfl) (by kernel_rfl) (by kernel_rfl) (by kernel_rfl)) ?_
  intro W base args ds gs before hval0 hW hcnd _
  have hval : ∀ (j : Nat) t v, Try.f5.params[j]? = some t → args[j]? = some v → Value.okWide Try.prog W .any base t v := hval0
  have hW' := hW
  obtain ⟨p, q, hA0, hV, rfl, hfz, hnd⟩ := hW
  have hA : DataW.TrodAll enc Try.prog W 0 (fun _ => true) true Try.f5.params.toList args.toList ds p := hA0
  rw [Try.params5] at hA hval
  obtain ⟨v0, vs0, d0, ds0, p0, q0, hargs, rfl, rfl, h0, r0⟩ := trodAll_cons hA
  obtain ⟨v1, vs1, d1, ds1, p1, q1, rfl, rfl, rfl, h1, r1⟩ := trodAll_cons r0
  obtain ⟨v2, vs2, d2, ds2, p2, q2, rfl, rfl, rfl, h2, r2⟩ := trodAll_cons r1
  obtain ⟨v3, vs3, d3, ds3, p3, q3, rfl, rfl, rfl, h3, r3⟩ := trodAll_cons r2
  obtain ⟨rfl, rfl, rfl⟩ := trodAll_nil r3
  obtain rfl : args = #[v0, v1, v2, v3] := by cases args; simp_all
  obtain ⟨rfl, rfl⟩ := trodVars_none hV
  have k0 := h0
  have k1 := h1
  have k2 := h2
  have k3 := h3
  have lt0 : ∀ x ∈ p0, x.block < W.heap.size := by obtain ⟨m, hm⟩ := k0; exact DataW.trod_lt m _ _ _ hm
  have lt1 : ∀ x ∈ p1, x.block < W.heap.size := by obtain ⟨m, hm⟩ := k1; exact DataW.trod_lt m _ _ _ hm
  have lt2 : ∀ x ∈ p2, x.block < W.heap.size := by obtain ⟨m, hm⟩ := k2; exact DataW.trod_lt m _ _ _ hm
  have lt3 : ∀ x ∈ p3, x.block < W.heap.size := by obtain ⟨m, hm⟩ := k3; exact DataW.trod_lt m _ _ _ hm
  obtain ⟨c0, rfl, _⟩ := okWide_struct Try.underlying26 (hval 0 26 v0 rfl rfl)
  obtain ⟨F, rfl⟩ := okWide_int Try.underlying5 (hval 1 5 v1 rfl rfl)
  obtain ⟨nm, rfl⟩ := okWide_string Try.underlying9 (hval 2 9 v2 rfl rfl)
  obtain ⟨c3, rfl, _⟩ := okWide_struct Try.underlying31 (hval 3 31 v3 rfl rfl)
  obtain ⟨f0, g0⟩ := h0
  obtain ⟨f1, g1⟩ := h1
  obtain ⟨f2, g2⟩ := h2
  obtain ⟨f3, g3⟩ := h3
  have hF0 : 0 ≤ F := by
    obtain ⟨f, hf, _, wf⟩ := DataW.trod_int Try.underlying5 g1
    obtain rfl : F = f := by simpa [Value.cells] using hf
    exact (bounds_u8 wf).1
  have hz : nm.size ≤ maxLen := by
    obtain ⟨s, hs, _, hz⟩ := DataW.trod_string Try.underlying9 g2
    obtain rfl : nm = s := by simpa [Value.cells] using hs
    exact hz
  obtain ⟨a, n, c, nl, f, e0, s1, s2, s3, s4⟩ := down_subs g0
  obtain ⟨k, sa, sn, sc, m, g, ea, en, ec, E, e2, t1, t2, t3, t4, t5, t6, t7⟩ := down_val g3
  obtain rfl : c0 = #[.slice (a 0) (n 0) (c 0), .slice (a 1) (n 1) (c 1), .slice (a 2) (n 2) (c 2), .bool (nl 0), .bool (nl 1), .bool (nl 2)] := arr_of e0
  obtain rfl : c3 = #[.int .u8 k, .slice sa sn sc, .int .i64 m, .slice ea en ec] := arr_of e2
  unfold maxLen at s2 t2 t5 t7 hz
  have G : Given W a n c f sa sn sc g ea en ec E := ⟨s1, s2, s3, s4, t1, t2, t3, t4, t5, t6, t7⟩
  clear hA0 hval0
  refine (law2_any W a n c nl f nm F k sa sn sc m g ea en ec E G hz hF0).mono fun e W' ⟨he, bel⟩ => ?_
  subst he
  exact ⟨_, rfl, _, _, _, [], _, [], hW', trodAll_mk1 (shut_bool Try.underlying4 _), (trodAll_cons_mk (Below.trod laidOut (by kernel_rfl) (of_decide_eq_true (by kernel_rfl)) k0 bel lt0) (trodAll_cons_mk (Below.trod laidOut (by kernel_rfl) (of_decide_eq_true (by kernel_rfl)) k1 bel lt1) (trodAll_cons_mk (Below.trod laidOut (by kernel_rfl) (of_decide_eq_true (by kernel_rfl)) k2 bel lt2) (trodAll_cons_mk (Below.trod laidOut (by kernel_rfl) (of_decide_eq_true (by kernel_rfl)) k3 bel lt3) trodAll_mk0)))), rfl, bel.frame _, fun h => by cases h⟩

theorem over : Rows.fnFollowUnsubscribeUndoesSubscribeRow.holds Try.pinned (OpenSpec.ofChange Rows.fnFollowUnsubscribeUndoesSubscribeSpec) :=
  OpenClaim.holds_of_wide 5 Try.f5 rfl rfl rfl rfl rfl rfl rfl ⟨rfl, rfl, rfl, rfl, rfl⟩ rfl rfl rfl rfl rfl (by kernel_rfl) Try.func5 (by kernel_rfl)
    (of_decide_eq_true (by kernel_rfl)) (by unfold Func.isWrapper; first | (rw [if_pos (by decide +kernel)]; kernel_rfl) | (rw [if_neg (by decide +kernel)]; exact ⟨rfl, rfl⟩))
    (fun os started H enc _ => lifted os started H enc)

theorem proved : Rows.FnFollowUnsubscribeUndoesSubscribeSaid := over
end Go.Proofs.Qxb6603301a.fnFollowUnsubscribeUndoesSubscribe
