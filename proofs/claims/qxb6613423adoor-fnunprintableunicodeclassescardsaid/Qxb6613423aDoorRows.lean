/-
  NARROWER THAN 'FOR EVERY INPUT', by the rows' own cells (each row's printed sentence says how): FnUnprintableLatin1AndNonScalar: laid · FnUnprintableUnicodeClasses: laid.
  DERIVED. THE GIVEN ROWS OF THIS SEAT. 2 by the template 'for every input the law returns true; each argument reads behind the call as it read before'; 0 by the template 'total and deterministic' (their statements: Qxb6613423aDoorTotals.lean).
  GIVEN WITH THE SEED: the statements are not yours to turn. If you find one false, say at which input.
  Laid BY PROGRAM, IN A SANDBOX (cutbox-rows.mjs): the forced cells as the released guide's own fill.sh prints them over the translation 88633c924c9cd107… (all of the seat's roots in one cut). By AI agents, Wed Nov 11 2026. No macro, syntax, notation, axiom, sorry.
-/
import Derived.Test.Qxb6613423aDoorChecked
import GoSem.PinnedTables
import GoSem.Claim
import GoSem.ClaimJoined
import GoSem.ClaimMapViews
import Derived.JoinedTies
import Derived.KernelRfl
namespace Go.Proofs.Qxb6613423aDoor
/- THE CELL 'sum', in the pinned program and in every row, IS THE sha256 OF THE DUMP (.gsa) THAT Qxb6613423aDoorProg.lean LOADS. Nothing in Lean hashes anything: it is a label: what it is worth is what the hold of that sum in a sandbox is worth. -/
noncomputable def Tryd.pinned : Pinned := { name := "qxb6613423adoor", sum := "88633c924c9cd10744b80e51c6c8977a9609e4f90d9866b12696f81cb07eaba9", checked := Tryd.checked }
namespace Rows
def none {H : Type} : Left H := { results := [], args := [] }

/- WHAT THE LISTED PACKAGE-LEVEL VARIABLES READ AS WHEN THE CALL BEGINS. Each datum BY PROGRAM (the guide's laid-datum.mjs) off the statement by which the dump's own 'gosem.cut.vars' lays the variable. In a bare row this is a premise. The card (Qxb6613423aDoorCards.lean) ties it to the program's text. -/
/-- One of Go's own tables, pinned by name: the form's constant. -/
def laid_strconv_isNotPrint16 : DataW Unit := Go.Pinned.isNotPrint16
/-- One of Go's own tables, pinned by name: the form's constant. -/
def laid_strconv_isNotPrint32 : DataW Unit := Go.Pinned.isNotPrint32
/-- One of Go's own tables, pinned by name: the form's constant. -/
def laid_strconv_isPrint16 : DataW Unit := Go.Pinned.isPrint16
/-- One of Go's own tables, pinned by name: the form's constant. -/
def laid_strconv_isPrint32 : DataW Unit := Go.Pinned.isPrint32

/-- 'zzlaws_internal_quote_b1.FnUnprintableLatin1AndNonScalar': WHATEVER THE INPUT: true; the input reads as it did. -/
def fnUnprintableLatin1AndNonScalarSpec : ChangeSpec := { name := "fnUnprintableLatin1AndNonScalar", fn := fun _ => fun
  | [d] => { results := [.lit (.bool true)], args := [d] }
  | _ => none }
def fnUnprintableLatin1AndNonScalarRow : OpenClaim := { program := "qxb6613423adoor", sum := "88633c924c9cd10744b80e51c6c8977a9609e4f90d9866b12696f81cb07eaba9", func := "example.com/fairlane/fairlane/zzlaws_internal_quote_b1.FnUnprintableLatin1AndNonScalar", spec := "fnUnprintableLatin1AndNonScalar", named := ["strconv.isPrint16", "strconv.isNotPrint16", "strconv.isPrint32", "strconv.isNotPrint32"], apart := false, laid := [("strconv.isNotPrint16", laid_strconv_isNotPrint16), ("strconv.isNotPrint32", laid_strconv_isNotPrint32), ("strconv.isPrint16", laid_strconv_isPrint16), ("strconv.isPrint32", laid_strconv_isPrint32)] }
def FnUnprintableLatin1AndNonScalarSaid : Prop := fnUnprintableLatin1AndNonScalarRow.holds Tryd.pinned (OpenSpec.ofChange fnUnprintableLatin1AndNonScalarSpec)

/-- ITS FALSE NEIGHBOUR: 'it returns false'. Refute it at one input. -/
def fnUnprintableLatin1AndNonScalarWrong : ChangeSpec := { name := "fnUnprintableLatin1AndNonScalar", fn := fun _ => fun
  | [d] => { results := [.lit (.bool false)], args := [d] }
  | _ => none }
def FnUnprintableLatin1AndNonScalarWrongFalsely : Prop := fnUnprintableLatin1AndNonScalarRow.holds Tryd.pinned (OpenSpec.ofChange fnUnprintableLatin1AndNonScalarWrong)

/-- 'zzlaws_internal_quote_b1.FnUnprintableUnicodeClasses': WHATEVER THE INPUT: true; the input reads as it did. -/
def fnUnprintableUnicodeClassesSpec : ChangeSpec := { name := "fnUnprintableUnicodeClasses", fn := fun _ => fun
  | [d] => { results := [.lit (.bool true)], args := [d] }
  | _ => none }
def fnUnprintableUnicodeClassesRow : OpenClaim := { program := "qxb6613423adoor", sum := "88633c924c9cd10744b80e51c6c8977a9609e4f90d9866b12696f81cb07eaba9", func := "example.com/fairlane/fairlane/zzlaws_internal_quote_b1.FnUnprintableUnicodeClasses", spec := "fnUnprintableUnicodeClasses", named := ["strconv.isPrint16", "strconv.isNotPrint16", "strconv.isPrint32", "strconv.isNotPrint32"], apart := false, laid := [("strconv.isNotPrint16", laid_strconv_isNotPrint16), ("strconv.isNotPrint32", laid_strconv_isNotPrint32), ("strconv.isPrint16", laid_strconv_isPrint16), ("strconv.isPrint32", laid_strconv_isPrint32)] }
def FnUnprintableUnicodeClassesSaid : Prop := fnUnprintableUnicodeClassesRow.holds Tryd.pinned (OpenSpec.ofChange fnUnprintableUnicodeClassesSpec)

/-- ITS FALSE NEIGHBOUR: 'it returns false'. Refute it at one input. -/
def fnUnprintableUnicodeClassesWrong : ChangeSpec := { name := "fnUnprintableUnicodeClasses", fn := fun _ => fun
  | [d] => { results := [.lit (.bool false)], args := [d] }
  | _ => none }
def FnUnprintableUnicodeClassesWrongFalsely : Prop := fnUnprintableUnicodeClassesRow.holds Tryd.pinned (OpenSpec.ofChange fnUnprintableUnicodeClassesWrong)

end Rows
end Go.Proofs.Qxb6613423aDoor
