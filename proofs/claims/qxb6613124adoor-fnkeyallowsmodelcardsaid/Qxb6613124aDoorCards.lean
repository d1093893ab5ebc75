/-
  DERIVED. GIVEN WITH THE SEED: THE CARDS: each row of Qxb6613124aDoorRows.lean that lists a variable, with what it lists TIED to the program's text (the seventh form; the later family's looks); each row that meets fmt, with fmt's text TOLD by the authors' own Lean function (tested against real Go, not proved from fmt's source: count such statements apart). THE CARD IS WHAT COUNTS. Prove the row's statement (the work); the ties are given (Qxb6613124aDoorTie.lean); close each card by the builder's one call (the guide's Derived/Test/ToyasCard.lean, 'card_holds'). Laid BY PROGRAM, IN A SANDBOX (cutbox-door.mjs). By AI agents, Wed Nov 11 2026. No macro, syntax, notation, axiom, sorry.
-/
import Derived.Test.Qxb6613124aDoorRows
import GoSem.ClaimSeven
namespace Go.Proofs.Qxb6613124aDoor
namespace Rows

/-- THE TIED CARD OF 'zzlaws_internal_policy_b1.FnKeyAllowsModel'. -/
def fnKeyAllowsModelCard : Claim7 := { stood := { row := fnKeyAllowsModelRow, standIns := [], harness := (true, "99bf143724051574a9daad1d023ffd0eaa22125e88370a471b9b601f307d7283"), looks := false }, kinds := [], alts := [], laidByText := true, laidKinds := [.data, .data, .data, .pinned, .pinned], laidTests := true, laidLooks := .later }
def FnKeyAllowsModelCardSaid : Prop := Claim7.holds Tryd.pinned (.plain (OpenSpec.ofChange fnKeyAllowsModelSpec)) fnKeyAllowsModelCard

/-- THE TIED CARD OF 'zzlaws_internal_policy_b1.FnUserARNGrantsOnlyThatUser'. -/
def fnUserARNGrantsOnlyThatUserCard : Claim7 := { stood := { row := fnUserARNGrantsOnlyThatUserRow, standIns := [], harness := (true, "99bf143724051574a9daad1d023ffd0eaa22125e88370a471b9b601f307d7283"), looks := false }, kinds := [], alts := [], laidByText := true, laidKinds := [.data, .data, .data, .pinned, .pinned], laidTests := true, laidLooks := .later }
def FnUserARNGrantsOnlyThatUserCardSaid : Prop := Claim7.holds Tryd.pinned (.plain (OpenSpec.ofChange fnUserARNGrantsOnlyThatUserSpec)) fnUserARNGrantsOnlyThatUserCard
end Rows
end Go.Proofs.Qxb6613124aDoor
