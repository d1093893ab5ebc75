/-
  DERIVED. GIVEN WITH THE SEED: THE CARDS: each row of Qxb6003829aDoorRows.lean that lists a variable, with what it lists TIED to the program's text (the seventh form; the later family's looks); each row that meets fmt, with fmt's text TOLD by the authors' own Lean function (tested against real Go, not proved from fmt's source: count such statements apart). THE CARD IS WHAT COUNTS. Prove the row's statement (the work); the ties are given (Qxb6003829aDoorTie.lean); close each card by the builder's one call (the guide's Derived/Test/ToyasCard.lean, 'card_holds'). Laid BY PROGRAM, IN A SANDBOX (cutbox-door.mjs). By AI agents, Wed Nov 11 2026. No macro, syntax, notation, axiom, sorry.
-/
import Derived.Test.Qxb6003829aDoorRows
import GoSem.ClaimSeven
namespace Go.Proofs.Qxb6003829aDoor
namespace Rows

/-- THE TIED CARD OF 'zzlaws_pkg_archive_c1.PropMembersInvertArEncodingAndTile'. -/
def propMembersInvertArEncodingAndTileCard : Claim7 := { stood := { row := propMembersInvertArEncodingAndTileRow, standIns := [], harness := (true, "34cb9f9545973d0cfca695be852b32802920e19d91b6c6a769d6eabd48b9100a"), looks := true }, kinds := [], alts := [], laidByText := true, laidKinds := [.data, .data, .data, .data, .sentinel, .sentinel, .listed, .data, .sentinel, .pinned], laidTests := true, laidLooks := .later }
def PropMembersInvertArEncodingAndTileCardSaid : Prop := Claim7.holds Tryd.pinned (.plain (OpenSpec.ofChange propMembersInvertArEncodingAndTileSpec)) propMembersInvertArEncodingAndTileCard

/-- THE TIED CARD OF 'zzlaws_pkg_archive_c1.PropMembersCutSucceedsOnlyAtBoundaries'. -/
def propMembersCutSucceedsOnlyAtBoundariesCard : Claim7 := { stood := { row := propMembersCutSucceedsOnlyAtBoundariesRow, standIns := [], harness := (true, "34cb9f9545973d0cfca695be852b32802920e19d91b6c6a769d6eabd48b9100a"), looks := true }, kinds := [], alts := [], laidByText := true, laidKinds := [.data, .data, .data, .data, .sentinel, .sentinel, .listed, .data, .sentinel, .pinned], laidTests := true, laidLooks := .later }
def PropMembersCutSucceedsOnlyAtBoundariesCardSaid : Prop := Claim7.holds Tryd.pinned (.plain (OpenSpec.ofChange propMembersCutSucceedsOnlyAtBoundariesSpec)) propMembersCutSucceedsOnlyAtBoundariesCard
end Rows
end Go.Proofs.Qxb6003829aDoor
