/-
  DERIVED. GIVEN WITH THE SEED: THE CARDS: each row of Qxb6606399aDoorRows.lean that lists a variable, with what it lists TIED to the program's text (the seventh form; the later family's looks); each row that meets fmt, with fmt's text TOLD by the authors' own Lean function (tested against real Go, not proved from fmt's source: count such statements apart). THE CARD IS WHAT COUNTS. Prove the row's statement (the work); the ties are given (Qxb6606399aDoorTie.lean); close each card by the builder's one call (the guide's Derived/Test/ToyasCard.lean, 'card_holds'). Laid BY PROGRAM, IN A SANDBOX (cutbox-door.mjs). By AI agents, Wed Nov 11 2026. No macro, syntax, notation, axiom, sorry.
-/
import Derived.Test.Qxb6606399aDoorRows
import GoSem.ClaimSeven
namespace Go.Proofs.Qxb6606399aDoor
namespace Rows

/-- THE TIED CARD OF 'zzlaws_internal_idempotency_b1.FnAppendDecimalIsCanonicalText'. -/
def fnAppendDecimalIsCanonicalTextCard : Claim7 := { stood := { row := fnAppendDecimalIsCanonicalTextRow, standIns := [], harness := (true, "df3964a97914fe14c0eda37d56fa963932f2f90031e6e4a799596f3b288a8c1c"), looks := false }, kinds := [], alts := [], laidByText := true, laidKinds := [.data, .data, .data, .data, .pinned], laidTests := true, laidLooks := .later }
def FnAppendDecimalIsCanonicalTextCardSaid : Prop := Claim7.holds Tryd.pinned (.plain (OpenSpec.ofChange fnAppendDecimalIsCanonicalTextSpec)) fnAppendDecimalIsCanonicalTextCard

/-- THE TIED CARD OF 'zzlaws_internal_idempotency_b1.FnAppendDecimalIsIdempotent'. -/
def fnAppendDecimalIsIdempotentCard : Claim7 := { stood := { row := fnAppendDecimalIsIdempotentRow, standIns := [], harness := (true, "df3964a97914fe14c0eda37d56fa963932f2f90031e6e4a799596f3b288a8c1c"), looks := false }, kinds := [], alts := [], laidByText := true, laidKinds := [.data, .data, .data, .data, .pinned], laidTests := true, laidLooks := .later }
def FnAppendDecimalIsIdempotentCardSaid : Prop := Claim7.holds Tryd.pinned (.plain (OpenSpec.ofChange fnAppendDecimalIsIdempotentSpec)) fnAppendDecimalIsIdempotentCard

/-- THE TIED CARD OF 'zzlaws_internal_idempotency_b1.FnAppendDecimalNegationAddsSign'. -/
def fnAppendDecimalNegationAddsSignCard : Claim7 := { stood := { row := fnAppendDecimalNegationAddsSignRow, standIns := [], harness := (true, "df3964a97914fe14c0eda37d56fa963932f2f90031e6e4a799596f3b288a8c1c"), looks := false }, kinds := [], alts := [], laidByText := true, laidKinds := [.data, .data, .data, .data, .pinned], laidTests := true, laidLooks := .later }
def FnAppendDecimalNegationAddsSignCardSaid : Prop := Claim7.holds Tryd.pinned (.plain (OpenSpec.ofChange fnAppendDecimalNegationAddsSignSpec)) fnAppendDecimalNegationAddsSignCard
end Rows
end Go.Proofs.Qxb6606399aDoor
