/-
  DERIVED. GIVEN WITH THE SEED: THE CARDS: each row of Qxb6606353aDoorRows.lean that lists a variable, with what it lists TIED to the program's text (the seventh form; the later family's looks); each row that meets fmt, with fmt's text TOLD by the authors' own Lean function (tested against real Go, not proved from fmt's source: count such statements apart). THE CARD IS WHAT COUNTS. Prove the row's statement (the work); the ties are given (Qxb6606353aDoorTie.lean); close each card by the builder's one call (the guide's Derived/Test/ToyasCard.lean, 'card_holds'). Laid BY PROGRAM, IN A SANDBOX (cutbox-door.mjs). By AI agents, Wed Nov 11 2026. No macro, syntax, notation, axiom, sorry.
-/
import Derived.Test.Qxb6606353aDoorRows
import GoSem.ClaimSeven
namespace Go.Proofs.Qxb6606353aDoor
namespace Rows

/-- THE TIED CARD OF 'zzlaws_trace_b1.FnWholeNumberMatchesPositionalModel'. -/
def fnWholeNumberMatchesPositionalModelCard : Claim7 := { stood := { row := fnWholeNumberMatchesPositionalModelRow, standIns := [], harness := (true, "4407837b6e98b493bf802f638f82e18af4db4fdb2fe2f54980b25eb1b2d602c8"), looks := true }, kinds := [], alts := [], laidByText := true, laidKinds := [.data, .data, .data, .data, .called, .called, .pinned, .pinned], laidTests := true, laidLooks := .later }
def FnWholeNumberMatchesPositionalModelCardSaid : Prop := Claim7.holds Tryd.pinned (.plain (OpenSpec.ofChange fnWholeNumberMatchesPositionalModelSpec)) fnWholeNumberMatchesPositionalModelCard

/-- THE TIED CARD OF 'zzlaws_trace_b1.FnQuoteUnquotesToItsHead'. -/
def fnQuoteUnquotesToItsHeadCard : Claim7 := { stood := { row := fnQuoteUnquotesToItsHeadRow, standIns := [], harness := (true, "4407837b6e98b493bf802f638f82e18af4db4fdb2fe2f54980b25eb1b2d602c8"), looks := true }, kinds := [], alts := [], laidByText := true, laidKinds := [.data, .pinned, .pinned, .pinned, .pinned, .pinned, .pinned], laidTests := true, laidLooks := .later }
def FnQuoteUnquotesToItsHeadCardSaid : Prop := Claim7.holds Tryd.pinned (.plain (OpenSpec.ofChange fnQuoteUnquotesToItsHeadSpec)) fnQuoteUnquotesToItsHeadCard

/-- THE TIED CARD OF 'zzlaws_trace_b1.FnQuoteIsShortAndClean'. -/
def fnQuoteIsShortAndCleanCard : Claim7 := { stood := { row := fnQuoteIsShortAndCleanRow, standIns := [], harness := (true, "4407837b6e98b493bf802f638f82e18af4db4fdb2fe2f54980b25eb1b2d602c8"), looks := true }, kinds := [], alts := [], laidByText := true, laidKinds := [.data, .pinned, .pinned, .pinned, .pinned, .pinned, .pinned], laidTests := true, laidLooks := .later }
def FnQuoteIsShortAndCleanCardSaid : Prop := Claim7.holds Tryd.pinned (.plain (OpenSpec.ofChange fnQuoteIsShortAndCleanSpec)) fnQuoteIsShortAndCleanCard
end Rows
end Go.Proofs.Qxb6606353aDoor
