/-
  No cell of these rows narrows 'for every input' (looked for: loops, veiled, ifaces, maps, wideKeys, modest, calm, conditions, laid).
  DERIVED. THE GIVEN ROWS OF THIS SEAT. 6 by the template 'for every input the law returns true; each argument reads behind the call as it read before'; 0 by the template 'total and deterministic' (their statements: Qxb6608618aTotals.lean).
  GIVEN WITH THE SEED: the statements are not yours to turn. If you find one false, say at which input.
  Laid BY PROGRAM, IN A SANDBOX (cutbox-rows.mjs): the forced cells as the released guide's own fill.sh prints them over the translation 79a16348802eebf4… (all of the seat's roots in one cut). By AI agents, Wed Nov 11 2026. No macro, syntax, notation, axiom, sorry.
-/
import Derived.Test.Qxb6608618aChecked
import GoSem.Claim
import GoSem.ClaimJoined
import GoSem.ClaimMapViews
import Derived.JoinedTies
import Derived.KernelRfl
namespace Go.Proofs.Qxb6608618a
/- THE CELL 'sum', in the pinned program and in every row, IS THE sha256 OF THE DUMP (.gsa) THAT Qxb6608618aProg.lean LOADS. Nothing in Lean hashes anything: it is a label: what it is worth is what the hold of that sum in a sandbox is worth. -/
noncomputable def Try.pinned : Pinned := { name := "qxb6608618a", sum := "79a16348802eebf48afbbdeae2104208edea010456606c84c2b9f339e8249955", checked := Try.checked }
namespace Rows
def none {H : Type} : Left H := { results := [], args := [] }

/-- 'zzlaws_pkg_pdp_b1.FnSubvolNameCutAtAnyPlace': WHATEVER THE INPUT: true; the input reads as it did. -/
def fnSubvolNameCutAtAnyPlaceSpec : ChangeSpec := { name := "fnSubvolNameCutAtAnyPlace", fn := fun _ => fun
  | [d1, d2, d3] => { results := [.lit (.bool true)], args := [d1, d2, d3] }
  | _ => none }
def fnSubvolNameCutAtAnyPlaceRow : OpenClaim := { program := "qxb6608618a", sum := "79a16348802eebf48afbbdeae2104208edea010456606c84c2b9f339e8249955", func := "example.com/cormorant/cormorant/zzlaws_pkg_pdp_b1.FnSubvolNameCutAtAnyPlace", spec := "fnSubvolNameCutAtAnyPlace", inPlace := ["internal/bytealg.IndexByteString"], apart := false }
def FnSubvolNameCutAtAnyPlaceSaid : Prop := fnSubvolNameCutAtAnyPlaceRow.holds Try.pinned (OpenSpec.ofChange fnSubvolNameCutAtAnyPlaceSpec)

/-- ITS FALSE NEIGHBOUR: 'it returns false'. Refute it at one input. -/
def fnSubvolNameCutAtAnyPlaceWrong : ChangeSpec := { name := "fnSubvolNameCutAtAnyPlace", fn := fun _ => fun
  | [d1, d2, d3] => { results := [.lit (.bool false)], args := [d1, d2, d3] }
  | _ => none }
def FnSubvolNameCutAtAnyPlaceWrongFalsely : Prop := fnSubvolNameCutAtAnyPlaceRow.holds Try.pinned (OpenSpec.ofChange fnSubvolNameCutAtAnyPlaceWrong)

/-- 'zzlaws_pkg_pdp_b1.FnSubvolNameLastGoodReadStands': WHATEVER THE INPUT: true; the input reads as it did. -/
def fnSubvolNameLastGoodReadStandsSpec : ChangeSpec := { name := "fnSubvolNameLastGoodReadStands", fn := fun _ => fun
  | [d1, d2, d3] => { results := [.lit (.bool true)], args := [d1, d2, d3] }
  | _ => none }
def fnSubvolNameLastGoodReadStandsRow : OpenClaim := { program := "qxb6608618a", sum := "79a16348802eebf48afbbdeae2104208edea010456606c84c2b9f339e8249955", func := "example.com/cormorant/cormorant/zzlaws_pkg_pdp_b1.FnSubvolNameLastGoodReadStands", spec := "fnSubvolNameLastGoodReadStands", inPlace := ["internal/bytealg.IndexByteString"], apart := false }
def FnSubvolNameLastGoodReadStandsSaid : Prop := fnSubvolNameLastGoodReadStandsRow.holds Try.pinned (OpenSpec.ofChange fnSubvolNameLastGoodReadStandsSpec)

/-- ITS FALSE NEIGHBOUR: 'it returns false'. Refute it at one input. -/
def fnSubvolNameLastGoodReadStandsWrong : ChangeSpec := { name := "fnSubvolNameLastGoodReadStands", fn := fun _ => fun
  | [d1, d2, d3] => { results := [.lit (.bool false)], args := [d1, d2, d3] }
  | _ => none }
def FnSubvolNameLastGoodReadStandsWrongFalsely : Prop := fnSubvolNameLastGoodReadStandsRow.holds Try.pinned (OpenSpec.ofChange fnSubvolNameLastGoodReadStandsWrong)

/-- 'zzlaws_pkg_pdp_b1.FnDecideSplitAtAnyCut': WHATEVER THE INPUT: true; the input reads as it did. -/
def fnDecideSplitAtAnyCutSpec : ChangeSpec := { name := "fnDecideSplitAtAnyCut", fn := fun _ => fun
  | [d1, d2, d3] => { results := [.lit (.bool true)], args := [d1, d2, d3] }
  | _ => none }
def fnDecideSplitAtAnyCutRow : OpenClaim := { program := "qxb6608618a", sum := "79a16348802eebf48afbbdeae2104208edea010456606c84c2b9f339e8249955", func := "example.com/cormorant/cormorant/zzlaws_pkg_pdp_b1.FnDecideSplitAtAnyCut", spec := "fnDecideSplitAtAnyCut", unfollowed := true, recurses := true, apart := false }
def FnDecideSplitAtAnyCutSaid : Prop := fnDecideSplitAtAnyCutRow.holds Try.pinned (OpenSpec.ofChange fnDecideSplitAtAnyCutSpec)

/-- ITS FALSE NEIGHBOUR: 'it returns false'. Refute it at one input. -/
def fnDecideSplitAtAnyCutWrong : ChangeSpec := { name := "fnDecideSplitAtAnyCut", fn := fun _ => fun
  | [d1, d2, d3] => { results := [.lit (.bool false)], args := [d1, d2, d3] }
  | _ => none }
def FnDecideSplitAtAnyCutWrongFalsely : Prop := fnDecideSplitAtAnyCutRow.holds Try.pinned (OpenSpec.ofChange fnDecideSplitAtAnyCutWrong)

/-- 'zzlaws_pkg_pdp_b1.FnDecideInsertAtAnyPlace': WHATEVER THE INPUT: true; the input reads as it did. -/
def fnDecideInsertAtAnyPlaceSpec : ChangeSpec := { name := "fnDecideInsertAtAnyPlace", fn := fun _ => fun
  | [d1, d2, d3, d4] => { results := [.lit (.bool true)], args := [d1, d2, d3, d4] }
  | _ => none }
def fnDecideInsertAtAnyPlaceRow : OpenClaim := { program := "qxb6608618a", sum := "79a16348802eebf48afbbdeae2104208edea010456606c84c2b9f339e8249955", func := "example.com/cormorant/cormorant/zzlaws_pkg_pdp_b1.FnDecideInsertAtAnyPlace", spec := "fnDecideInsertAtAnyPlace", unfollowed := true, recurses := true, apart := false }
def FnDecideInsertAtAnyPlaceSaid : Prop := fnDecideInsertAtAnyPlaceRow.holds Try.pinned (OpenSpec.ofChange fnDecideInsertAtAnyPlaceSpec)

/-- ITS FALSE NEIGHBOUR: 'it returns false'. Refute it at one input. -/
def fnDecideInsertAtAnyPlaceWrong : ChangeSpec := { name := "fnDecideInsertAtAnyPlace", fn := fun _ => fun
  | [d1, d2, d3, d4] => { results := [.lit (.bool false)], args := [d1, d2, d3, d4] }
  | _ => none }
def FnDecideInsertAtAnyPlaceWrongFalsely : Prop := fnDecideInsertAtAnyPlaceRow.holds Try.pinned (OpenSpec.ofChange fnDecideInsertAtAnyPlaceWrong)

/-- 'zzlaws_pkg_pdp_b1.FnGidSplitAtAnyCut': WHATEVER THE INPUT: true; the input reads as it did. -/
def fnGidSplitAtAnyCutSpec : ChangeSpec := { name := "fnGidSplitAtAnyCut", fn := fun _ => fun
  | [d1, d2, d3, d4] => { results := [.lit (.bool true)], args := [d1, d2, d3, d4] }
  | _ => none }
def fnGidSplitAtAnyCutRow : OpenClaim := { program := "qxb6608618a", sum := "79a16348802eebf48afbbdeae2104208edea010456606c84c2b9f339e8249955", func := "example.com/cormorant/cormorant/zzlaws_pkg_pdp_b1.FnGidSplitAtAnyCut", spec := "fnGidSplitAtAnyCut", unfollowed := true, recurses := true, apart := false }
def FnGidSplitAtAnyCutSaid : Prop := fnGidSplitAtAnyCutRow.holds Try.pinned (OpenSpec.ofChange fnGidSplitAtAnyCutSpec)

/-- ITS FALSE NEIGHBOUR: 'it returns false'. Refute it at one input. -/
def fnGidSplitAtAnyCutWrong : ChangeSpec := { name := "fnGidSplitAtAnyCut", fn := fun _ => fun
  | [d1, d2, d3, d4] => { results := [.lit (.bool false)], args := [d1, d2, d3, d4] }
  | _ => none }
def FnGidSplitAtAnyCutWrongFalsely : Prop := fnGidSplitAtAnyCutRow.holds Try.pinned (OpenSpec.ofChange fnGidSplitAtAnyCutWrong)

/-- 'zzlaws_pkg_pdp_b1.FnGidInsertAtAnyPlace': WHATEVER THE INPUT: true; the input reads as it did. -/
def fnGidInsertAtAnyPlaceSpec : ChangeSpec := { name := "fnGidInsertAtAnyPlace", fn := fun _ => fun
  | [d1, d2, d3, d4, d5, d6] => { results := [.lit (.bool true)], args := [d1, d2, d3, d4, d5, d6] }
  | _ => none }
def fnGidInsertAtAnyPlaceRow : OpenClaim := { program := "qxb6608618a", sum := "79a16348802eebf48afbbdeae2104208edea010456606c84c2b9f339e8249955", func := "example.com/cormorant/cormorant/zzlaws_pkg_pdp_b1.FnGidInsertAtAnyPlace", spec := "fnGidInsertAtAnyPlace", unfollowed := true, recurses := true, apart := false }
def FnGidInsertAtAnyPlaceSaid : Prop := fnGidInsertAtAnyPlaceRow.holds Try.pinned (OpenSpec.ofChange fnGidInsertAtAnyPlaceSpec)

/-- ITS FALSE NEIGHBOUR: 'it returns false'. Refute it at one input. -/
def fnGidInsertAtAnyPlaceWrong : ChangeSpec := { name := "fnGidInsertAtAnyPlace", fn := fun _ => fun
  | [d1, d2, d3, d4, d5, d6] => { results := [.lit (.bool false)], args := [d1, d2, d3, d4, d5, d6] }
  | _ => none }
def FnGidInsertAtAnyPlaceWrongFalsely : Prop := fnGidInsertAtAnyPlaceRow.holds Try.pinned (OpenSpec.ofChange fnGidInsertAtAnyPlaceWrong)

end Rows
end Go.Proofs.Qxb6608618a
