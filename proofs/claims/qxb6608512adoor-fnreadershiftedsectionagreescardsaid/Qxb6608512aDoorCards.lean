/-
  DERIVED. GIVEN WITH THE SEED: THE CARDS: each row of Qxb6608512aDoorRows.lean that lists a variable, with what it lists TIED to the program's text (the seventh form; the later family's looks); each row that meets fmt, with fmt's text TOLD by the authors' own Lean function (tested against real Go, not proved from fmt's source: count such statements apart). THE CARD IS WHAT COUNTS. Prove the row's statement (the work); the ties are given (Qxb6608512aDoorTie.lean); close each card by the builder's one call (the guide's Derived/Test/ToyasCard.lean, 'card_holds'). Laid BY PROGRAM, IN A SANDBOX (cutbox-door.mjs). By AI agents, Wed Nov 11 2026. No macro, syntax, notation, axiom, sorry.
-/
import Derived.Test.Qxb6608512aDoorRows
import GoSem.ClaimSeven
namespace Go.Proofs.Qxb6608512aDoor
namespace Rows

/-- THE TIED CARD OF 'zzlaws_spill_b1.FnReaderSectionsJoin'. -/
def fnReaderSectionsJoinCard : Claim7 := { stood := { row := fnReaderSectionsJoinRow, standIns := [], harness := (true, "a61f83af2266ad7645d638d3f50f0aa8fce3ea2c0991ff809d9567bc2fa4a322"), looks := true }, kinds := [], alts := [], laidByText := true, laidKinds := [.sentinel], laidTests := true, laidLooks := .later }
def FnReaderSectionsJoinCardSaid : Prop := Claim7.holds Tryd.pinned (.plain (OpenSpec.ofChange fnReaderSectionsJoinSpec)) fnReaderSectionsJoinCard

/-- THE TIED CARD OF 'zzlaws_spill_b1.FnReaderShiftedSectionAgrees'. -/
def fnReaderShiftedSectionAgreesCard : Claim7 := { stood := { row := fnReaderShiftedSectionAgreesRow, standIns := [], harness := (true, "a61f83af2266ad7645d638d3f50f0aa8fce3ea2c0991ff809d9567bc2fa4a322"), looks := true }, kinds := [], alts := [], laidByText := true, laidKinds := [.sentinel], laidTests := true, laidLooks := .later }
def FnReaderShiftedSectionAgreesCardSaid : Prop := Claim7.holds Tryd.pinned (.plain (OpenSpec.ofChange fnReaderShiftedSectionAgreesSpec)) fnReaderShiftedSectionAgreesCard
end Rows
end Go.Proofs.Qxb6608512aDoor
