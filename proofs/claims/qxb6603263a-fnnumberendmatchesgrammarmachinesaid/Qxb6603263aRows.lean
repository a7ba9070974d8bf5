/-
  No cell of these rows narrows 'for every input' (looked for: loops, veiled, ifaces, maps, wideKeys, modest, calm, conditions, laid).
  DERIVED. THE GIVEN ROWS OF THIS SEAT. 3 by the template 'for every input the law returns true; each argument reads behind the call as it read before'; 0 by the template 'total and deterministic' (their statements: Qxb6603263aTotals.lean).
  GIVEN WITH THE SEED: the statements are not yours to turn. If you find one false, say at which input.
  Laid BY PROGRAM, IN A SANDBOX (cutbox-rows.mjs): the forced cells as the released guide's own fill.sh prints them over the translation e283650b9acf0196… (all of the seat's roots in one cut). By AI agents, Wed Nov 11 2026. No macro, syntax, notation, axiom, sorry.
-/
import Derived.Test.Qxb6603263aChecked
import GoSem.Claim
import GoSem.ClaimJoined
import GoSem.ClaimMapViews
import Derived.JoinedTies
import Derived.KernelRfl
namespace Go.Proofs.Qxb6603263a
/- THE CELL 'sum', in the pinned program and in every row, IS THE sha256 OF THE DUMP (.gsa) THAT Qxb6603263aProg.lean LOADS. Nothing in Lean hashes anything: it is a label: what it is worth is what the hold of that sum in a sandbox is worth. -/
noncomputable def Try.pinned : Pinned := { name := "qxb6603263a", sum := "e283650b9acf0196e937b52f957f74899e3ed8e193bc155d2ada90f38df34e52", checked := Try.checked }
namespace Rows
def none {H : Type} : Left H := { results := [], args := [] }

/-- 'zzlaws_root_b1.FnNumberEndMatchesGrammarMachine': WHATEVER THE INPUT: true; the input reads as it did. -/
def fnNumberEndMatchesGrammarMachineSpec : ChangeSpec := { name := "fnNumberEndMatchesGrammarMachine", fn := fun _ => fun
  | [d1, d2] => { results := [.lit (.bool true)], args := [d1, d2] }
  | _ => none }
def fnNumberEndMatchesGrammarMachineRow : OpenClaim := { program := "qxb6603263a", sum := "e283650b9acf0196e937b52f957f74899e3ed8e193bc155d2ada90f38df34e52", func := "example.com/keyreel/keyreel/zzlaws_root_b1.FnNumberEndMatchesGrammarMachine", spec := "fnNumberEndMatchesGrammarMachine", apart := false }
def FnNumberEndMatchesGrammarMachineSaid : Prop := fnNumberEndMatchesGrammarMachineRow.holds Try.pinned (OpenSpec.ofChange fnNumberEndMatchesGrammarMachineSpec)

/-- ITS FALSE NEIGHBOUR: 'it returns false'. Refute it at one input. -/
def fnNumberEndMatchesGrammarMachineWrong : ChangeSpec := { name := "fnNumberEndMatchesGrammarMachine", fn := fun _ => fun
  | [d1, d2] => { results := [.lit (.bool false)], args := [d1, d2] }
  | _ => none }
def FnNumberEndMatchesGrammarMachineWrongFalsely : Prop := fnNumberEndMatchesGrammarMachineRow.holds Try.pinned (OpenSpec.ofChange fnNumberEndMatchesGrammarMachineWrong)

/-- 'zzlaws_root_b1.FnNumberEndIgnoresWhatLiesBefore': WHATEVER THE INPUT: true; the input reads as it did. -/
def fnNumberEndIgnoresWhatLiesBeforeSpec : ChangeSpec := { name := "fnNumberEndIgnoresWhatLiesBefore", fn := fun _ => fun
  | [d1, d2, d3] => { results := [.lit (.bool true)], args := [d1, d2, d3] }
  | _ => none }
def fnNumberEndIgnoresWhatLiesBeforeRow : OpenClaim := { program := "qxb6603263a", sum := "e283650b9acf0196e937b52f957f74899e3ed8e193bc155d2ada90f38df34e52", func := "example.com/keyreel/keyreel/zzlaws_root_b1.FnNumberEndIgnoresWhatLiesBefore", spec := "fnNumberEndIgnoresWhatLiesBefore", apart := false }
def FnNumberEndIgnoresWhatLiesBeforeSaid : Prop := fnNumberEndIgnoresWhatLiesBeforeRow.holds Try.pinned (OpenSpec.ofChange fnNumberEndIgnoresWhatLiesBeforeSpec)

/-- ITS FALSE NEIGHBOUR: 'it returns false'. Refute it at one input. -/
def fnNumberEndIgnoresWhatLiesBeforeWrong : ChangeSpec := { name := "fnNumberEndIgnoresWhatLiesBefore", fn := fun _ => fun
  | [d1, d2, d3] => { results := [.lit (.bool false)], args := [d1, d2, d3] }
  | _ => none }
def FnNumberEndIgnoresWhatLiesBeforeWrongFalsely : Prop := fnNumberEndIgnoresWhatLiesBeforeRow.holds Try.pinned (OpenSpec.ofChange fnNumberEndIgnoresWhatLiesBeforeWrong)

/-- 'zzlaws_root_b1.FnNumberEndStandsAloneWhenCut': WHATEVER THE INPUT: true; the input reads as it did. -/
def fnNumberEndStandsAloneWhenCutSpec : ChangeSpec := { name := "fnNumberEndStandsAloneWhenCut", fn := fun _ => fun
  | [d1, d2] => { results := [.lit (.bool true)], args := [d1, d2] }
  | _ => none }
def fnNumberEndStandsAloneWhenCutRow : OpenClaim := { program := "qxb6603263a", sum := "e283650b9acf0196e937b52f957f74899e3ed8e193bc155d2ada90f38df34e52", func := "example.com/keyreel/keyreel/zzlaws_root_b1.FnNumberEndStandsAloneWhenCut", spec := "fnNumberEndStandsAloneWhenCut", apart := false }
def FnNumberEndStandsAloneWhenCutSaid : Prop := fnNumberEndStandsAloneWhenCutRow.holds Try.pinned (OpenSpec.ofChange fnNumberEndStandsAloneWhenCutSpec)

/-- ITS FALSE NEIGHBOUR: 'it returns false'. Refute it at one input. -/
def fnNumberEndStandsAloneWhenCutWrong : ChangeSpec := { name := "fnNumberEndStandsAloneWhenCut", fn := fun _ => fun
  | [d1, d2] => { results := [.lit (.bool false)], args := [d1, d2] }
  | _ => none }
def FnNumberEndStandsAloneWhenCutWrongFalsely : Prop := fnNumberEndStandsAloneWhenCutRow.holds Try.pinned (OpenSpec.ofChange fnNumberEndStandsAloneWhenCutWrong)

end Rows
end Go.Proofs.Qxb6603263a
