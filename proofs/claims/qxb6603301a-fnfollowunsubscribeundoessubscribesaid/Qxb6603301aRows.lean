/-
  No cell of these rows narrows 'for every input' (looked for: loops, veiled, ifaces, maps, wideKeys, modest, calm, conditions, laid).
  DERIVED. THE GIVEN ROWS OF THIS SEAT. 3 by the template 'for every input the law returns true; each argument reads behind the call as it read before'; 0 by the template 'total and deterministic' (their statements: Qxb6603301aTotals.lean).
  GIVEN WITH THE SEED: the statements are not yours to turn. If you find one false, say at which input.
  Laid BY PROGRAM, IN A SANDBOX (cutbox-rows.mjs): the forced cells as the released guide's own fill.sh prints them over the translation 5eca80f9e3547422… (all of the seat's roots in one cut). By AI agents, Wed Nov 11 2026. No macro, syntax, notation, axiom, sorry.
-/
import Derived.Test.Qxb6603301aChecked
import GoSem.Claim
import GoSem.ClaimJoined
import GoSem.ClaimMapViews
import Derived.JoinedTies
import Derived.KernelRfl
namespace Go.Proofs.Qxb6603301a
/- THE CELL 'sum', in the pinned program and in every row, IS THE sha256 OF THE DUMP (.gsa) THAT Qxb6603301aProg.lean LOADS. Nothing in Lean hashes anything: it is a label: what it is worth is what the hold of that sum in a sandbox is worth. -/
noncomputable def Try.pinned : Pinned := { name := "qxb6603301a", sum := "5eca80f9e3547422473356a1a3c205b915903ac499ce34e5447f6ac6d7d8c64c", checked := Try.checked }
namespace Rows
def none {H : Type} : Left H := { results := [], args := [] }

/-- 'zzlaws_root_b1.FnFollowMatchesSetModel': WHATEVER THE INPUT: true; the input reads as it did. -/
def fnFollowMatchesSetModelSpec : ChangeSpec := { name := "fnFollowMatchesSetModel", fn := fun _ => fun
  | [d1, d2, d3] => { results := [.lit (.bool true)], args := [d1, d2, d3] }
  | _ => none }
def fnFollowMatchesSetModelRow : OpenClaim := { program := "qxb6603301a", sum := "5eca80f9e3547422473356a1a3c205b915903ac499ce34e5447f6ac6d7d8c64c", func := "example.com/respite/respite/zzlaws_root_b1.FnFollowMatchesSetModel", spec := "fnFollowMatchesSetModel", apart := false }
def FnFollowMatchesSetModelSaid : Prop := fnFollowMatchesSetModelRow.holds Try.pinned (OpenSpec.ofChange fnFollowMatchesSetModelSpec)

/-- ITS FALSE NEIGHBOUR: 'it returns false'. Refute it at one input. -/
def fnFollowMatchesSetModelWrong : ChangeSpec := { name := "fnFollowMatchesSetModel", fn := fun _ => fun
  | [d1, d2, d3] => { results := [.lit (.bool false)], args := [d1, d2, d3] }
  | _ => none }
def FnFollowMatchesSetModelWrongFalsely : Prop := fnFollowMatchesSetModelRow.holds Try.pinned (OpenSpec.ofChange fnFollowMatchesSetModelWrong)

/-- 'zzlaws_root_b1.FnFollowTwiceIsOnce': WHATEVER THE INPUT: true; the input reads as it did. -/
def fnFollowTwiceIsOnceSpec : ChangeSpec := { name := "fnFollowTwiceIsOnce", fn := fun _ => fun
  | [d1, d2, d3] => { results := [.lit (.bool true)], args := [d1, d2, d3] }
  | _ => none }
def fnFollowTwiceIsOnceRow : OpenClaim := { program := "qxb6603301a", sum := "5eca80f9e3547422473356a1a3c205b915903ac499ce34e5447f6ac6d7d8c64c", func := "example.com/respite/respite/zzlaws_root_b1.FnFollowTwiceIsOnce", spec := "fnFollowTwiceIsOnce", apart := false }
def FnFollowTwiceIsOnceSaid : Prop := fnFollowTwiceIsOnceRow.holds Try.pinned (OpenSpec.ofChange fnFollowTwiceIsOnceSpec)

/-- ITS FALSE NEIGHBOUR: 'it returns false'. Refute it at one input. -/
def fnFollowTwiceIsOnceWrong : ChangeSpec := { name := "fnFollowTwiceIsOnce", fn := fun _ => fun
  | [d1, d2, d3] => { results := [.lit (.bool false)], args := [d1, d2, d3] }
  | _ => none }
def FnFollowTwiceIsOnceWrongFalsely : Prop := fnFollowTwiceIsOnceRow.holds Try.pinned (OpenSpec.ofChange fnFollowTwiceIsOnceWrong)

/-- 'zzlaws_root_b1.FnFollowUnsubscribeUndoesSubscribe': WHATEVER THE INPUT: true; the input reads as it did. -/
def fnFollowUnsubscribeUndoesSubscribeSpec : ChangeSpec := { name := "fnFollowUnsubscribeUndoesSubscribe", fn := fun _ => fun
  | [d1, d2, d3, d4] => { results := [.lit (.bool true)], args := [d1, d2, d3, d4] }
  | _ => none }
def fnFollowUnsubscribeUndoesSubscribeRow : OpenClaim := { program := "qxb6603301a", sum := "5eca80f9e3547422473356a1a3c205b915903ac499ce34e5447f6ac6d7d8c64c", func := "example.com/respite/respite/zzlaws_root_b1.FnFollowUnsubscribeUndoesSubscribe", spec := "fnFollowUnsubscribeUndoesSubscribe", apart := false }
def FnFollowUnsubscribeUndoesSubscribeSaid : Prop := fnFollowUnsubscribeUndoesSubscribeRow.holds Try.pinned (OpenSpec.ofChange fnFollowUnsubscribeUndoesSubscribeSpec)

/-- ITS FALSE NEIGHBOUR: 'it returns false'. Refute it at one input. -/
def fnFollowUnsubscribeUndoesSubscribeWrong : ChangeSpec := { name := "fnFollowUnsubscribeUndoesSubscribe", fn := fun _ => fun
  | [d1, d2, d3, d4] => { results := [.lit (.bool false)], args := [d1, d2, d3, d4] }
  | _ => none }
def FnFollowUnsubscribeUndoesSubscribeWrongFalsely : Prop := fnFollowUnsubscribeUndoesSubscribeRow.holds Try.pinned (OpenSpec.ofChange fnFollowUnsubscribeUndoesSubscribeWrong)

end Rows
end Go.Proofs.Qxb6603301a
