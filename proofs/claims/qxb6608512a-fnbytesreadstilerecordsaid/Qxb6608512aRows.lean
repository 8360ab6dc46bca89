/-
  No cell of these rows narrows 'for every input' (looked for: loops, veiled, ifaces, maps, wideKeys, modest, calm, conditions, laid).
  DERIVED. THE GIVEN ROWS OF THIS SEAT. 2 by the template 'for every input the law returns true; each argument reads behind the call as it read before'; 0 by the template 'total and deterministic' (their statements: Qxb6608512aTotals.lean).
  GIVEN WITH THE SEED: the statements are not yours to turn. If you find one false, say at which input.
  Laid BY PROGRAM, IN A SANDBOX (cutbox-rows.mjs): the forced cells as the released guide's own fill.sh prints them over the translation 3991502d4a1d7828… (all of the seat's roots in one cut). By AI agents, Wed Nov 11 2026. No macro, syntax, notation, axiom, sorry.
-/
import Derived.Test.Qxb6608512aChecked
import GoSem.Claim
import GoSem.ClaimJoined
import GoSem.ClaimMapViews
import Derived.JoinedTies
import Derived.KernelRfl
namespace Go.Proofs.Qxb6608512a
/- THE CELL 'sum', in the pinned program and in every row, IS THE sha256 OF THE DUMP (.gsa) THAT Qxb6608512aProg.lean LOADS. Nothing in Lean hashes anything: it is a label: what it is worth is what the hold of that sum in a sandbox is worth. -/
noncomputable def Try.pinned : Pinned := { name := "qxb6608512a", sum := "3991502d4a1d78284d92ca21baa299d446af95afef72519bce450fd754c46ae2", checked := Try.checked }
namespace Rows
def none {H : Type} : Left H := { results := [], args := [] }

/-- 'zzlaws_spill_b1.FnBytesCutAgreesWithWhole': WHATEVER THE INPUT: true; the input reads as it did. -/
def fnBytesCutAgreesWithWholeSpec : ChangeSpec := { name := "fnBytesCutAgreesWithWhole", fn := fun _ => fun
  | [d1, d2, d3] => { results := [.lit (.bool true)], args := [d1, d2, d3] }
  | _ => none }
def fnBytesCutAgreesWithWholeRow : OpenClaim := { program := "qxb6608512a", sum := "3991502d4a1d78284d92ca21baa299d446af95afef72519bce450fd754c46ae2", func := "example.com/goroscope/goroscope/zzlaws_spill_b1.FnBytesCutAgreesWithWhole", spec := "fnBytesCutAgreesWithWhole", apart := false }
def FnBytesCutAgreesWithWholeSaid : Prop := fnBytesCutAgreesWithWholeRow.holds Try.pinned (OpenSpec.ofChange fnBytesCutAgreesWithWholeSpec)

/-- ITS FALSE NEIGHBOUR: 'it returns false'. Refute it at one input. -/
def fnBytesCutAgreesWithWholeWrong : ChangeSpec := { name := "fnBytesCutAgreesWithWhole", fn := fun _ => fun
  | [d1, d2, d3] => { results := [.lit (.bool false)], args := [d1, d2, d3] }
  | _ => none }
def FnBytesCutAgreesWithWholeWrongFalsely : Prop := fnBytesCutAgreesWithWholeRow.holds Try.pinned (OpenSpec.ofChange fnBytesCutAgreesWithWholeWrong)

/-- 'zzlaws_spill_b1.FnBytesReadsTileRecord': WHATEVER THE INPUT: true; the input reads as it did. -/
def fnBytesReadsTileRecordSpec : ChangeSpec := { name := "fnBytesReadsTileRecord", fn := fun _ => fun
  | [d1, d2] => { results := [.lit (.bool true)], args := [d1, d2] }
  | _ => none }
def fnBytesReadsTileRecordRow : OpenClaim := { program := "qxb6608512a", sum := "3991502d4a1d78284d92ca21baa299d446af95afef72519bce450fd754c46ae2", func := "example.com/goroscope/goroscope/zzlaws_spill_b1.FnBytesReadsTileRecord", spec := "fnBytesReadsTileRecord", apart := false }
def FnBytesReadsTileRecordSaid : Prop := fnBytesReadsTileRecordRow.holds Try.pinned (OpenSpec.ofChange fnBytesReadsTileRecordSpec)

/-- ITS FALSE NEIGHBOUR: 'it returns false'. Refute it at one input. -/
def fnBytesReadsTileRecordWrong : ChangeSpec := { name := "fnBytesReadsTileRecord", fn := fun _ => fun
  | [d1, d2] => { results := [.lit (.bool false)], args := [d1, d2] }
  | _ => none }
def FnBytesReadsTileRecordWrongFalsely : Prop := fnBytesReadsTileRecordRow.holds Try.pinned (OpenSpec.ofChange fnBytesReadsTileRecordWrong)

end Rows
end Go.Proofs.Qxb6608512a
