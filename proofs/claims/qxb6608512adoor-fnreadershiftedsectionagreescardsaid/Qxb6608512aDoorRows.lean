/-
  NARROWER THAN 'FOR EVERY INPUT', by the rows' own cells (each row's printed sentence says how): FnReaderSectionsJoin: laid · FnReaderShiftedSectionAgrees: laid.
  DERIVED. THE GIVEN ROWS OF THIS SEAT. 2 by the template 'for every input the law returns true; each argument reads behind the call as it read before'; 0 by the template 'total and deterministic' (their statements: Qxb6608512aDoorTotals.lean).
  GIVEN WITH THE SEED: the statements are not yours to turn. If you find one false, say at which input.
  Laid BY PROGRAM, IN A SANDBOX (cutbox-rows.mjs): the forced cells as the released guide's own fill.sh prints them over the translation 69b238046ffd5e10… (all of the seat's roots in one cut). By AI agents, Wed Nov 11 2026. No macro, syntax, notation, axiom, sorry.
-/
import Derived.Test.Qxb6608512aDoorChecked
import GoSem.Claim
import GoSem.ClaimJoined
import GoSem.ClaimMapViews
import Derived.JoinedTies
import Derived.KernelRfl
namespace Go.Proofs.Qxb6608512aDoor
/- THE CELL 'sum', in the pinned program and in every row, IS THE sha256 OF THE DUMP (.gsa) THAT Qxb6608512aDoorProg.lean LOADS. Nothing in Lean hashes anything: it is a label: what it is worth is what the hold of that sum in a sandbox is worth. -/
noncomputable def Tryd.pinned : Pinned := { name := "qxb6608512adoor", sum := "69b238046ffd5e1081d59ab741d585963145a92165dd36181e73b7314c82b38f", checked := Tryd.checked }
namespace Rows
def none {H : Type} : Left H := { results := [], args := [] }

/- WHAT THE LISTED PACKAGE-LEVEL VARIABLES READ AS WHEN THE CALL BEGINS. Each datum BY PROGRAM (the guide's laid-datum.mjs) off the statement by which the dump's own 'gosem.cut.vars' lays the variable. In a bare row this is a premise. The card (Qxb6608512aDoorCards.lean) ties it to the program's text. -/
def laid_io_EOF {H : Type} : DataW H := .iface "*errors.errorString" (.ptr (.agg [.lit (.string [69, 79, 70])]))

/-- 'zzlaws_spill_b1.FnReaderSectionsJoin': WHATEVER THE INPUT: true; the input reads as it did. -/
def fnReaderSectionsJoinSpec : ChangeSpec := { name := "fnReaderSectionsJoin", fn := fun _ => fun
  | [d1, d2, d3, d4] => { results := [.lit (.bool true)], args := [d1, d2, d3, d4] }
  | _ => none }
def fnReaderSectionsJoinRow : OpenClaim := { program := "qxb6608512adoor", sum := "69b238046ffd5e1081d59ab741d585963145a92165dd36181e73b7314c82b38f", func := "example.com/goroscope/goroscope/zzlaws_spill_b1.FnReaderSectionsJoin", spec := "fnReaderSectionsJoin", unfollowed := true, recurses := true, named := ["io.EOF"], apart := false, laid := [("io.EOF", laid_io_EOF)] }
def FnReaderSectionsJoinSaid : Prop := fnReaderSectionsJoinRow.holds Tryd.pinned (OpenSpec.ofChange fnReaderSectionsJoinSpec)

/-- ITS FALSE NEIGHBOUR: 'it returns false'. Refute it at one input. -/
def fnReaderSectionsJoinWrong : ChangeSpec := { name := "fnReaderSectionsJoin", fn := fun _ => fun
  | [d1, d2, d3, d4] => { results := [.lit (.bool false)], args := [d1, d2, d3, d4] }
  | _ => none }
def FnReaderSectionsJoinWrongFalsely : Prop := fnReaderSectionsJoinRow.holds Tryd.pinned (OpenSpec.ofChange fnReaderSectionsJoinWrong)

/-- 'zzlaws_spill_b1.FnReaderShiftedSectionAgrees': WHATEVER THE INPUT: true; the input reads as it did. -/
def fnReaderShiftedSectionAgreesSpec : ChangeSpec := { name := "fnReaderShiftedSectionAgrees", fn := fun _ => fun
  | [d1, d2, d3] => { results := [.lit (.bool true)], args := [d1, d2, d3] }
  | _ => none }
def fnReaderShiftedSectionAgreesRow : OpenClaim := { program := "qxb6608512adoor", sum := "69b238046ffd5e1081d59ab741d585963145a92165dd36181e73b7314c82b38f", func := "example.com/goroscope/goroscope/zzlaws_spill_b1.FnReaderShiftedSectionAgrees", spec := "fnReaderShiftedSectionAgrees", unfollowed := true, recurses := true, named := ["io.EOF"], apart := false, laid := [("io.EOF", laid_io_EOF)] }
def FnReaderShiftedSectionAgreesSaid : Prop := fnReaderShiftedSectionAgreesRow.holds Tryd.pinned (OpenSpec.ofChange fnReaderShiftedSectionAgreesSpec)

/-- ITS FALSE NEIGHBOUR: 'it returns false'. Refute it at one input. -/
def fnReaderShiftedSectionAgreesWrong : ChangeSpec := { name := "fnReaderShiftedSectionAgrees", fn := fun _ => fun
  | [d1, d2, d3] => { results := [.lit (.bool false)], args := [d1, d2, d3] }
  | _ => none }
def FnReaderShiftedSectionAgreesWrongFalsely : Prop := fnReaderShiftedSectionAgreesRow.holds Tryd.pinned (OpenSpec.ofChange fnReaderShiftedSectionAgreesWrong)

end Rows
end Go.Proofs.Qxb6608512aDoor
