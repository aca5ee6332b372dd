/-
  DERIVED. GIVEN WITH THE SEED: THE CARDS: each row of Qxb6608622aDoorRows.lean that lists a variable, with what it lists TIED to the program's text (the seventh form; the later family's looks); each row that meets fmt, with fmt's text TOLD by the authors' own Lean function (tested against real Go, not proved from fmt's source: count such statements apart). THE CARD IS WHAT COUNTS. Prove the row's statement (the work); the ties are given (Qxb6608622aDoorTie.lean); close each card by the builder's one call (the guide's Derived/Test/ToyasCard.lean, 'card_holds'). Laid BY PROGRAM, IN A SANDBOX (cutbox-door.mjs). By AI agents, Wed Nov 11 2026. No macro, syntax, notation, axiom, sorry.
-/
import Derived.Test.Qxb6608622aDoorRows
import GoSem.ClaimSeven
namespace Go.Proofs.Qxb6608622aDoor
namespace Rows

/-- THE TIED CARD OF 'zzlaws_policy_b1.FnLineAtSplitsTheRestIntoLines'. -/
def fnLineAtSplitsTheRestIntoLinesCard : Claim7 := { stood := { row := fnLineAtSplitsTheRestIntoLinesRow, standIns := [], harness := (true, "c364de6cefe525f49109e4b6239f42309b4239b721dc4ead126c56a3dc3226a9"), looks := false }, kinds := [], alts := [], laidByText := true, laidKinds := [.data, .pinned], laidTests := true, laidLooks := .later }
def FnLineAtSplitsTheRestIntoLinesCardSaid : Prop := Claim7.holds Tryd.pinned (.plain (OpenSpec.ofChange fnLineAtSplitsTheRestIntoLinesSpec)) fnLineAtSplitsTheRestIntoLinesCard

/-- THE TIED CARD OF 'zzlaws_policy_b1.FnLineAtAgreesOnJoinedText'. -/
def fnLineAtAgreesOnJoinedTextCard : Claim7 := { stood := { row := fnLineAtAgreesOnJoinedTextRow, standIns := [], harness := (true, "c364de6cefe525f49109e4b6239f42309b4239b721dc4ead126c56a3dc3226a9"), looks := false }, kinds := [], alts := [], laidByText := true, laidKinds := [.data, .pinned], laidTests := true, laidLooks := .later }
def FnLineAtAgreesOnJoinedTextCardSaid : Prop := Claim7.holds Tryd.pinned (.plain (OpenSpec.ofChange fnLineAtAgreesOnJoinedTextSpec)) fnLineAtAgreesOnJoinedTextCard
end Rows
end Go.Proofs.Qxb6608622aDoor
