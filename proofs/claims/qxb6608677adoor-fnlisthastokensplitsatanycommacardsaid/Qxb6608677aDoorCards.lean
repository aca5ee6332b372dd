/-
  DERIVED. GIVEN WITH THE SEED: THE CARDS: each row of Qxb6608677aDoorRows.lean that lists a variable, with what it lists TIED to the program's text (the seventh form; the later family's looks); each row that meets fmt, with fmt's text TOLD by the authors' own Lean function (tested against real Go, not proved from fmt's source: count such statements apart). THE CARD IS WHAT COUNTS. Prove the row's statement (the work); the ties are given (Qxb6608677aDoorTie.lean); close each card by the builder's one call (the guide's Derived/Test/ToyasCard.lean, 'card_holds'). Laid BY PROGRAM, IN A SANDBOX (cutbox-door.mjs). By AI agents, Wed Nov 11 2026. No macro, syntax, notation, axiom, sorry.
-/
import Derived.Test.Qxb6608677aDoorRows
import GoSem.ClaimSeven
namespace Go.Proofs.Qxb6608677aDoor
namespace Rows

/-- THE TIED CARD OF 'zzlaws_internal_http1_b1.FnReadDataDeliversPrefix'. -/
def fnReadDataDeliversPrefixCard : Claim7 := { stood := { row := fnReadDataDeliversPrefixRow, standIns := [], harness := (true, "b8531787a3607cc263a420d4bcc4f8221341476c5ed36dc06e756a3a4882be30"), looks := true }, kinds := [], alts := [], laidByText := true, laidKinds := [.sentinel, .sentinel, .sentinel], laidTests := true, laidLooks := .later }
def FnReadDataDeliversPrefixCardSaid : Prop := Claim7.holds Tryd.pinned (.plain (OpenSpec.ofChange fnReadDataDeliversPrefixSpec)) fnReadDataDeliversPrefixCard

/-- THE TIED CARD OF 'zzlaws_internal_http1_b1.FnReadDataChunkedDelaysOnlyEOF'. -/
def fnReadDataChunkedDelaysOnlyEOFCard : Claim7 := { stood := { row := fnReadDataChunkedDelaysOnlyEOFRow, standIns := [], harness := (true, "b8531787a3607cc263a420d4bcc4f8221341476c5ed36dc06e756a3a4882be30"), looks := true }, kinds := [], alts := [], laidByText := true, laidKinds := [.sentinel, .sentinel, .sentinel], laidTests := true, laidLooks := .later }
def FnReadDataChunkedDelaysOnlyEOFCardSaid : Prop := Claim7.holds Tryd.pinned (.plain (OpenSpec.ofChange fnReadDataChunkedDelaysOnlyEOFSpec)) fnReadDataChunkedDelaysOnlyEOFCard

/-- THE TIED CARD OF 'zzlaws_internal_http1_b1.FnListHasTokenSplitsAtAnyComma'. -/
def fnListHasTokenSplitsAtAnyCommaCard : Claim7 := { stood := { row := fnListHasTokenSplitsAtAnyCommaRow, standIns := [], harness := (true, "b8531787a3607cc263a420d4bcc4f8221341476c5ed36dc06e756a3a4882be30"), looks := true }, kinds := [], alts := [], laidByText := true, laidKinds := [.data, .data, .data, .pinned, .pinned], laidTests := true, laidLooks := .later }
def FnListHasTokenSplitsAtAnyCommaCardSaid : Prop := Claim7.holds Tryd.pinned (.plain (OpenSpec.ofChange fnListHasTokenSplitsAtAnyCommaSpec)) fnListHasTokenSplitsAtAnyCommaCard
end Rows
end Go.Proofs.Qxb6608677aDoor
