/-
  DERIVED. GIVEN WITH THE SEED: THE CARDS: each row of Qxb6603301aDoorRows.lean that lists a variable, with what it lists TIED to the program's text (the seventh form; the later family's looks); each row that meets fmt, with fmt's text TOLD by the authors' own Lean function (tested against real Go, not proved from fmt's source: count such statements apart). THE CARD IS WHAT COUNTS. Prove the row's statement (the work); the ties are given (Qxb6603301aDoorTie.lean); close each card by the builder's one call (the guide's Derived/Test/ToyasCard.lean, 'card_holds'). Laid BY PROGRAM, IN A SANDBOX (cutbox-door.mjs). By AI agents, Wed Nov 11 2026. No macro, syntax, notation, axiom, sorry.
-/
import Derived.Test.Qxb6603301aDoorRows
import GoSem.ClaimSeven
namespace Go.Proofs.Qxb6603301aDoor
namespace Rows

/-- THE TIED CARD OF 'zzlaws_root_b1.FnAppendNumberMatchesDecimal'. -/
def fnAppendNumberMatchesDecimalCard : Claim7 := { stood := { row := fnAppendNumberMatchesDecimalRow, standIns := [], harness := (true, "efdb7c5a637ef0446f35bb5fed840459727e411a209df8846af5ae74e4468fa9"), looks := false }, kinds := [], alts := [], laidByText := true, laidKinds := [.data, .data, .data], laidTests := true, laidLooks := .later }
def FnAppendNumberMatchesDecimalCardSaid : Prop := Claim7.holds Tryd.pinned (.plain (OpenSpec.ofChange fnAppendNumberMatchesDecimalSpec)) fnAppendNumberMatchesDecimalCard

/-- THE TIED CARD OF 'zzlaws_root_b1.FnAppendNumberParsesBack'. -/
def fnAppendNumberParsesBackCard : Claim7 := { stood := { row := fnAppendNumberParsesBackRow, standIns := [], harness := (true, "efdb7c5a637ef0446f35bb5fed840459727e411a209df8846af5ae74e4468fa9"), looks := false }, kinds := [], alts := [], laidByText := true, laidKinds := [.data, .data, .data], laidTests := true, laidLooks := .later }
def FnAppendNumberParsesBackCardSaid : Prop := Claim7.holds Tryd.pinned (.plain (OpenSpec.ofChange fnAppendNumberParsesBackSpec)) fnAppendNumberParsesBackCard

/-- THE TIED CARD OF 'zzlaws_root_b1.FnProtocolAfterMatchesModel'. -/
def fnProtocolAfterMatchesModelCard : Claim7 := { stood := { row := fnProtocolAfterMatchesModelRow, standIns := [], harness := (true, "efdb7c5a637ef0446f35bb5fed840459727e411a209df8846af5ae74e4468fa9"), looks := false }, kinds := [], alts := [], laidByText := true, laidKinds := [.data, .data, .data, .pinned, .pinned], laidTests := true, laidLooks := .later }
def FnProtocolAfterMatchesModelCardSaid : Prop := Claim7.holds Tryd.pinned (.plain (OpenSpec.ofChange fnProtocolAfterMatchesModelSpec)) fnProtocolAfterMatchesModelCard

/-- THE TIED CARD OF 'zzlaws_root_b1.FnProtocolAfterIdempotent'. -/
def fnProtocolAfterIdempotentCard : Claim7 := { stood := { row := fnProtocolAfterIdempotentRow, standIns := [], harness := (true, "efdb7c5a637ef0446f35bb5fed840459727e411a209df8846af5ae74e4468fa9"), looks := false }, kinds := [], alts := [], laidByText := true, laidKinds := [.data, .data, .data, .pinned, .pinned], laidTests := true, laidLooks := .later }
def FnProtocolAfterIdempotentCardSaid : Prop := Claim7.holds Tryd.pinned (.plain (OpenSpec.ofChange fnProtocolAfterIdempotentSpec)) fnProtocolAfterIdempotentCard

/-- THE TIED CARD OF 'zzlaws_root_b1.FnProtocolAfterKeepsOrSpeaks'. -/
def fnProtocolAfterKeepsOrSpeaksCard : Claim7 := { stood := { row := fnProtocolAfterKeepsOrSpeaksRow, standIns := [], harness := (true, "efdb7c5a637ef0446f35bb5fed840459727e411a209df8846af5ae74e4468fa9"), looks := false }, kinds := [], alts := [], laidByText := true, laidKinds := [.data, .data, .data, .pinned, .pinned], laidTests := true, laidLooks := .later }
def FnProtocolAfterKeepsOrSpeaksCardSaid : Prop := Claim7.holds Tryd.pinned (.plain (OpenSpec.ofChange fnProtocolAfterKeepsOrSpeaksSpec)) fnProtocolAfterKeepsOrSpeaksCard
end Rows
end Go.Proofs.Qxb6603301aDoor
