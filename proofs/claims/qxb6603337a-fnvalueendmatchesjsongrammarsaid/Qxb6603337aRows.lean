/-
  No cell of these rows narrows 'for every input' (looked for: loops, veiled, ifaces, maps, wideKeys, modest, calm, conditions, laid).
  DERIVED. THE GIVEN ROWS OF THIS SEAT. 7 by the template 'for every input the law returns true; each argument reads behind the call as it read before'; 0 by the template 'total and deterministic' (their statements: Qxb6603337aTotals.lean).
  GIVEN WITH THE SEED: the statements are not yours to turn. If you find one false, say at which input.
  Laid BY PROGRAM, IN A SANDBOX (cutbox-rows.mjs): the forced cells as the released guide's own fill.sh prints them over the translation 454970711039d0b7… (all of the seat's roots in one cut). By AI agents, Wed Nov 11 2026. No macro, syntax, notation, axiom, sorry.
-/
import Derived.Test.Qxb6603337aChecked
import GoSem.Claim
import GoSem.ClaimJoined
import GoSem.ClaimMapViews
import Derived.JoinedTies
import Derived.KernelRfl
namespace Go.Proofs.Qxb6603337a
/- THE CELL 'sum', in the pinned program and in every row, IS THE sha256 OF THE DUMP (.gsa) THAT Qxb6603337aProg.lean LOADS. Nothing in Lean hashes anything: it is a label: what it is worth is what the hold of that sum in a sandbox is worth. -/
noncomputable def Try.pinned : Pinned := { name := "qxb6603337a", sum := "454970711039d0b71360c9da576623a7a60f6c96368d1683dde5fec72be2d5c8", checked := Try.checked }
namespace Rows
def none {H : Type} : Left H := { results := [], args := [] }

/-- 'zzlaws_pkg_engine_b1.FnStartsInsideIsOverlapFromInside': WHATEVER THE INPUT: true; the input reads as it did. -/
def fnStartsInsideIsOverlapFromInsideSpec : ChangeSpec := { name := "fnStartsInsideIsOverlapFromInside", fn := fun _ => fun
  | [d1, d2] => { results := [.lit (.bool true)], args := [d1, d2] }
  | _ => none }
def fnStartsInsideIsOverlapFromInsideRow : OpenClaim := { program := "qxb6603337a", sum := "454970711039d0b71360c9da576623a7a60f6c96368d1683dde5fec72be2d5c8", func := "example.com/precedence/precedence/zzlaws_pkg_engine_b1.FnStartsInsideIsOverlapFromInside", spec := "fnStartsInsideIsOverlapFromInside", inPlace := ["internal/bytealg.IndexByteString", "internal/bytealg.IndexString"], named := ["internal/bytealg.MaxLen"], apart := false }
def FnStartsInsideIsOverlapFromInsideSaid : Prop := fnStartsInsideIsOverlapFromInsideRow.holds Try.pinned (OpenSpec.ofChange fnStartsInsideIsOverlapFromInsideSpec)

/-- ITS FALSE NEIGHBOUR: 'it returns false'. Refute it at one input. -/
def fnStartsInsideIsOverlapFromInsideWrong : ChangeSpec := { name := "fnStartsInsideIsOverlapFromInside", fn := fun _ => fun
  | [d1, d2] => { results := [.lit (.bool false)], args := [d1, d2] }
  | _ => none }
def FnStartsInsideIsOverlapFromInsideWrongFalsely : Prop := fnStartsInsideIsOverlapFromInsideRow.holds Try.pinned (OpenSpec.ofChange fnStartsInsideIsOverlapFromInsideWrong)

/-- 'zzlaws_pkg_engine_b1.FnStartsInsideKeptWhenTextGrows': WHATEVER THE INPUT: true; the input reads as it did. -/
def fnStartsInsideKeptWhenTextGrowsSpec : ChangeSpec := { name := "fnStartsInsideKeptWhenTextGrows", fn := fun _ => fun
  | [d1, d2, d3] => { results := [.lit (.bool true)], args := [d1, d2, d3] }
  | _ => none }
def fnStartsInsideKeptWhenTextGrowsRow : OpenClaim := { program := "qxb6603337a", sum := "454970711039d0b71360c9da576623a7a60f6c96368d1683dde5fec72be2d5c8", func := "example.com/precedence/precedence/zzlaws_pkg_engine_b1.FnStartsInsideKeptWhenTextGrows", spec := "fnStartsInsideKeptWhenTextGrows", inPlace := ["internal/bytealg.IndexByteString", "internal/bytealg.IndexString"], named := ["internal/bytealg.MaxLen"], apart := false }
def FnStartsInsideKeptWhenTextGrowsSaid : Prop := fnStartsInsideKeptWhenTextGrowsRow.holds Try.pinned (OpenSpec.ofChange fnStartsInsideKeptWhenTextGrowsSpec)

/-- ITS FALSE NEIGHBOUR: 'it returns false'. Refute it at one input. -/
def fnStartsInsideKeptWhenTextGrowsWrong : ChangeSpec := { name := "fnStartsInsideKeptWhenTextGrows", fn := fun _ => fun
  | [d1, d2, d3] => { results := [.lit (.bool false)], args := [d1, d2, d3] }
  | _ => none }
def FnStartsInsideKeptWhenTextGrowsWrongFalsely : Prop := fnStartsInsideKeptWhenTextGrowsRow.holds Try.pinned (OpenSpec.ofChange fnStartsInsideKeptWhenTextGrowsWrong)

/-- 'zzlaws_pkg_engine_b1.FnStartsInsideRefusesForeignLastByte': WHATEVER THE INPUT: true; the input reads as it did. -/
def fnStartsInsideRefusesForeignLastByteSpec : ChangeSpec := { name := "fnStartsInsideRefusesForeignLastByte", fn := fun _ => fun
  | [d1, d2] => { results := [.lit (.bool true)], args := [d1, d2] }
  | _ => none }
def fnStartsInsideRefusesForeignLastByteRow : OpenClaim := { program := "qxb6603337a", sum := "454970711039d0b71360c9da576623a7a60f6c96368d1683dde5fec72be2d5c8", func := "example.com/precedence/precedence/zzlaws_pkg_engine_b1.FnStartsInsideRefusesForeignLastByte", spec := "fnStartsInsideRefusesForeignLastByte", inPlace := ["internal/bytealg.IndexByteString", "internal/bytealg.IndexString"], named := ["internal/bytealg.MaxLen"], apart := false }
def FnStartsInsideRefusesForeignLastByteSaid : Prop := fnStartsInsideRefusesForeignLastByteRow.holds Try.pinned (OpenSpec.ofChange fnStartsInsideRefusesForeignLastByteSpec)

/-- ITS FALSE NEIGHBOUR: 'it returns false'. Refute it at one input. -/
def fnStartsInsideRefusesForeignLastByteWrong : ChangeSpec := { name := "fnStartsInsideRefusesForeignLastByte", fn := fun _ => fun
  | [d1, d2] => { results := [.lit (.bool false)], args := [d1, d2] }
  | _ => none }
def FnStartsInsideRefusesForeignLastByteWrongFalsely : Prop := fnStartsInsideRefusesForeignLastByteRow.holds Try.pinned (OpenSpec.ofChange fnStartsInsideRefusesForeignLastByteWrong)

/-- 'zzlaws_pkg_engine_b1.FnValueEndMatchesJSONGrammar': WHATEVER THE INPUT: true; the input reads as it did. -/
def fnValueEndMatchesJSONGrammarSpec : ChangeSpec := { name := "fnValueEndMatchesJSONGrammar", fn := fun _ => fun
  | [d1, d2] => { results := [.lit (.bool true)], args := [d1, d2] }
  | _ => none }
def fnValueEndMatchesJSONGrammarRow : OpenClaim := { program := "qxb6603337a", sum := "454970711039d0b71360c9da576623a7a60f6c96368d1683dde5fec72be2d5c8", func := "example.com/precedence/precedence/zzlaws_pkg_engine_b1.FnValueEndMatchesJSONGrammar", spec := "fnValueEndMatchesJSONGrammar", recurses := true, apart := false }
def FnValueEndMatchesJSONGrammarSaid : Prop := fnValueEndMatchesJSONGrammarRow.holds Try.pinned (OpenSpec.ofChange fnValueEndMatchesJSONGrammarSpec)

/-- ITS FALSE NEIGHBOUR: 'it returns false'. Refute it at one input. -/
def fnValueEndMatchesJSONGrammarWrong : ChangeSpec := { name := "fnValueEndMatchesJSONGrammar", fn := fun _ => fun
  | [d1, d2] => { results := [.lit (.bool false)], args := [d1, d2] }
  | _ => none }
def FnValueEndMatchesJSONGrammarWrongFalsely : Prop := fnValueEndMatchesJSONGrammarRow.holds Try.pinned (OpenSpec.ofChange fnValueEndMatchesJSONGrammarWrong)

/-- 'zzlaws_pkg_engine_b1.FnValueEndShiftsWithPrefix': WHATEVER THE INPUT: true; the input reads as it did. -/
def fnValueEndShiftsWithPrefixSpec : ChangeSpec := { name := "fnValueEndShiftsWithPrefix", fn := fun _ => fun
  | [d1, d2, d3] => { results := [.lit (.bool true)], args := [d1, d2, d3] }
  | _ => none }
def fnValueEndShiftsWithPrefixRow : OpenClaim := { program := "qxb6603337a", sum := "454970711039d0b71360c9da576623a7a60f6c96368d1683dde5fec72be2d5c8", func := "example.com/precedence/precedence/zzlaws_pkg_engine_b1.FnValueEndShiftsWithPrefix", spec := "fnValueEndShiftsWithPrefix", recurses := true, apart := false }
def FnValueEndShiftsWithPrefixSaid : Prop := fnValueEndShiftsWithPrefixRow.holds Try.pinned (OpenSpec.ofChange fnValueEndShiftsWithPrefixSpec)

/-- ITS FALSE NEIGHBOUR: 'it returns false'. Refute it at one input. -/
def fnValueEndShiftsWithPrefixWrong : ChangeSpec := { name := "fnValueEndShiftsWithPrefix", fn := fun _ => fun
  | [d1, d2, d3] => { results := [.lit (.bool false)], args := [d1, d2, d3] }
  | _ => none }
def FnValueEndShiftsWithPrefixWrongFalsely : Prop := fnValueEndShiftsWithPrefixRow.holds Try.pinned (OpenSpec.ofChange fnValueEndShiftsWithPrefixWrong)

/-- 'zzlaws_pkg_engine_b1.FnYAMLLinesMatchByteModel': WHATEVER THE INPUT: true; the input reads as it did. -/
def fnYAMLLinesMatchByteModelSpec : ChangeSpec := { name := "fnYAMLLinesMatchByteModel", fn := fun _ => fun
  | [d] => { results := [.lit (.bool true)], args := [d] }
  | _ => none }
def fnYAMLLinesMatchByteModelRow : OpenClaim := { program := "qxb6603337a", sum := "454970711039d0b71360c9da576623a7a60f6c96368d1683dde5fec72be2d5c8", func := "example.com/precedence/precedence/zzlaws_pkg_engine_b1.FnYAMLLinesMatchByteModel", spec := "fnYAMLLinesMatchByteModel", apart := false }
def FnYAMLLinesMatchByteModelSaid : Prop := fnYAMLLinesMatchByteModelRow.holds Try.pinned (OpenSpec.ofChange fnYAMLLinesMatchByteModelSpec)

/-- ITS FALSE NEIGHBOUR: 'it returns false'. Refute it at one input. -/
def fnYAMLLinesMatchByteModelWrong : ChangeSpec := { name := "fnYAMLLinesMatchByteModel", fn := fun _ => fun
  | [d] => { results := [.lit (.bool false)], args := [d] }
  | _ => none }
def FnYAMLLinesMatchByteModelWrongFalsely : Prop := fnYAMLLinesMatchByteModelRow.holds Try.pinned (OpenSpec.ofChange fnYAMLLinesMatchByteModelWrong)

/-- 'zzlaws_pkg_engine_b1.FnYAMLLinesSplitAfterLineFeed': WHATEVER THE INPUT: true; the input reads as it did. -/
def fnYAMLLinesSplitAfterLineFeedSpec : ChangeSpec := { name := "fnYAMLLinesSplitAfterLineFeed", fn := fun _ => fun
  | [d1, d2] => { results := [.lit (.bool true)], args := [d1, d2] }
  | _ => none }
def fnYAMLLinesSplitAfterLineFeedRow : OpenClaim := { program := "qxb6603337a", sum := "454970711039d0b71360c9da576623a7a60f6c96368d1683dde5fec72be2d5c8", func := "example.com/precedence/precedence/zzlaws_pkg_engine_b1.FnYAMLLinesSplitAfterLineFeed", spec := "fnYAMLLinesSplitAfterLineFeed", apart := false }
def FnYAMLLinesSplitAfterLineFeedSaid : Prop := fnYAMLLinesSplitAfterLineFeedRow.holds Try.pinned (OpenSpec.ofChange fnYAMLLinesSplitAfterLineFeedSpec)

/-- ITS FALSE NEIGHBOUR: 'it returns false'. Refute it at one input. -/
def fnYAMLLinesSplitAfterLineFeedWrong : ChangeSpec := { name := "fnYAMLLinesSplitAfterLineFeed", fn := fun _ => fun
  | [d1, d2] => { results := [.lit (.bool false)], args := [d1, d2] }
  | _ => none }
def FnYAMLLinesSplitAfterLineFeedWrongFalsely : Prop := fnYAMLLinesSplitAfterLineFeedRow.holds Try.pinned (OpenSpec.ofChange fnYAMLLinesSplitAfterLineFeedWrong)

end Rows
end Go.Proofs.Qxb6603337a
