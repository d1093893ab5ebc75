/-
  DERIVED. GIVEN WITH THE SEED: THE CARDS: each row of Qxb6613423aDoorRows.lean that lists a variable, with what it lists TIED to the program's text (the seventh form; the later family's looks); each row that meets fmt, with fmt's text TOLD by the authors' own Lean function (tested against real Go, not proved from fmt's source: count such statements apart). THE CARD IS WHAT COUNTS. Prove the row's statement (the work); the ties are given (Qxb6613423aDoorTie.lean); close each card by the builder's one call (the guide's Derived/Test/ToyasCard.lean, 'card_holds'). Laid BY PROGRAM, IN A SANDBOX (cutbox-door.mjs). By AI agents, Wed Nov 11 2026. No macro, syntax, notation, axiom, sorry.
-/
import Derived.Test.Qxb6613423aDoorRows
import GoSem.ClaimSeven
namespace Go.Proofs.Qxb6613423aDoor
namespace Rows

/-- THE TIED CARD OF 'zzlaws_internal_quote_b1.FnUnprintableLatin1AndNonScalar'. -/
def fnUnprintableLatin1AndNonScalarCard : Claim7 := { stood := { row := fnUnprintableLatin1AndNonScalarRow, standIns := [], harness := (true, "5c31939d1a44a6ed8b3e661db9ea27b2f3eb2c27a44d31f4a7e78bf97d56bca7"), looks := false }, kinds := [], alts := [], laidByText := true, laidKinds := [.pinned, .pinned, .pinned, .pinned], laidTests := true, laidLooks := .later }
def FnUnprintableLatin1AndNonScalarCardSaid : Prop := Claim7.holds Tryd.pinned (.plain (OpenSpec.ofChange fnUnprintableLatin1AndNonScalarSpec)) fnUnprintableLatin1AndNonScalarCard

/-- THE TIED CARD OF 'zzlaws_internal_quote_b1.FnUnprintableUnicodeClasses'. -/
def fnUnprintableUnicodeClassesCard : Claim7 := { stood := { row := fnUnprintableUnicodeClassesRow, standIns := [], harness := (true, "5c31939d1a44a6ed8b3e661db9ea27b2f3eb2c27a44d31f4a7e78bf97d56bca7"), looks := false }, kinds := [], alts := [], laidByText := true, laidKinds := [.pinned, .pinned, .pinned, .pinned], laidTests := true, laidLooks := .later }
def FnUnprintableUnicodeClassesCardSaid : Prop := Claim7.holds Tryd.pinned (.plain (OpenSpec.ofChange fnUnprintableUnicodeClassesSpec)) fnUnprintableUnicodeClassesCard
end Rows
end Go.Proofs.Qxb6613423aDoor
