/-
  DERIVED. GIVEN WITH THE SEED: THE CARDS: each row of Qxb6606343aDoorRows.lean that lists a variable, with what it lists TIED to the program's text (the seventh form; the later family's looks); each row that meets fmt, with fmt's text TOLD by the authors' own Lean function (tested against real Go, not proved from fmt's source: count such statements apart). THE CARD IS WHAT COUNTS. Prove the row's statement (the work); the ties are given (Qxb6606343aDoorTie.lean); close each card by the builder's one call (the guide's Derived/Test/ToyasCard.lean, 'card_holds'). Laid BY PROGRAM, IN A SANDBOX (cutbox-door.mjs). By AI agents, Wed Nov 11 2026. No macro, syntax, notation, axiom, sorry.
-/
import Derived.Test.Qxb6606343aDoorRows
import GoSem.ClaimSeven
namespace Go.Proofs.Qxb6606343aDoor
namespace Rows

/-- THE TIED CARD OF 'zzlaws_internal_sqltext_b1.FnAliasesSplitAtTopLevelComma'. -/
def fnAliasesSplitAtTopLevelCommaCard : Claim7 := { stood := { row := fnAliasesSplitAtTopLevelCommaRow, standIns := [], harness := (true, "0398bdbdbd21e11aa05035e7a1667b6edfdf29a45f1acb99d52542fbd48670aa"), looks := false }, kinds := [], alts := [], laidByText := true, laidKinds := [.data, .pinned], laidTests := true, laidLooks := .later }
def FnAliasesSplitAtTopLevelCommaCardSaid : Prop := Claim7.holds Tryd.pinned (.plain (OpenSpec.ofChange fnAliasesSplitAtTopLevelCommaSpec)) fnAliasesSplitAtTopLevelCommaCard

/-- THE TIED CARD OF 'zzlaws_internal_sqltext_b1.FnEvaluationSelectsEachLiveTextOnce'. -/
def fnEvaluationSelectsEachLiveTextOnceCard : Claim7 := { stood := { row := fnEvaluationSelectsEachLiveTextOnceRow, standIns := [], harness := (true, "0398bdbdbd21e11aa05035e7a1667b6edfdf29a45f1acb99d52542fbd48670aa"), looks := false }, kinds := [], alts := [], laidByText := true, laidKinds := [.data, .data, .data, .pinned, .pinned], laidTests := true, laidLooks := .later }
def FnEvaluationSelectsEachLiveTextOnceCardSaid : Prop := Claim7.holds Tryd.pinned (.plain (OpenSpec.ofChange fnEvaluationSelectsEachLiveTextOnceSpec)) fnEvaluationSelectsEachLiveTextOnceCard

/-- THE TIED CARD OF 'zzlaws_internal_sqltext_b1.FnEvaluationIgnoresRepeatedValues'. -/
def fnEvaluationIgnoresRepeatedValuesCard : Claim7 := { stood := { row := fnEvaluationIgnoresRepeatedValuesRow, standIns := [], harness := (true, "0398bdbdbd21e11aa05035e7a1667b6edfdf29a45f1acb99d52542fbd48670aa"), looks := false }, kinds := [], alts := [], laidByText := true, laidKinds := [.data, .data, .data, .pinned, .pinned], laidTests := true, laidLooks := .later }
def FnEvaluationIgnoresRepeatedValuesCardSaid : Prop := Claim7.holds Tryd.pinned (.plain (OpenSpec.ofChange fnEvaluationIgnoresRepeatedValuesSpec)) fnEvaluationIgnoresRepeatedValuesCard
end Rows
end Go.Proofs.Qxb6606343aDoor
