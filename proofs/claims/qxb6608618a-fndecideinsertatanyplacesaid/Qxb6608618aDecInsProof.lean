/-
  THE PROOF OF 'Rows.FnDecideInsertAtAnyPlaceSaid': the frame; the walk lies in Qxb6608618aDecIns.lean.
-/
import Derived.Test.Qxb6608618aRows
import Derived.WalkKit
import Derived.ProofKit
import Derived.OpenShut
import Derived.ShutString
import Derived.ChangeOld
import Derived.Below
import Derived.Test.Qxb6608618aDecIns
import Derived.Test.Qxb6608618aDOpenB
namespace Go.Proofs.Qxb6608618a.fnDecideInsertAtAnyPlace
open Go.ChangeShapes Go.WideShapes Go.ChangeAt Go.RowKit
open Go.ChangeMaps (open_string shut_string)
set_option linter.unusedVariables false

theorem own : ownKnob Try.prog.godebug = none := by kernel_rfl
theorem laidOut : laidOutB Try.prog = true := by kernel_rfl

set_option maxRecDepth 100000 in
theorem lifted (os : Os) (started : os.Started) (H : Type) (enc : TypeId × Value → H) :
    ReturnsInHanded {} Try.checked os 6 .any (Rows.fnDecideInsertAtAnyPlaceSpec.pre6 enc Try.prog Try.f6 Rows.fnDecideInsertAtAnyPlaceRow.domain false) (Rows.fnDecideInsertAtAnyPlaceSpec.post enc Try.prog Try.f6 false true false false) := by
  refine returnsInHanded_of_change (C := Try.checked) own started (by kernel_rfl) Try.func6
    (ChangeSpec.witness6 (enc := enc) (C := Try.checked) false ⟨#[], #[.slice none 0 0, .int .i64 0, .agg #[.int .i64 0, .string ⟨#[]⟩, .int .i64 0, .string ⟨#[]⟩, .bool false], .agg #[.string ⟨#[]⟩, .int .u32 0, .int .i64 0, .int .u64 0, .int .u64 0, .string ⟨#[]⟩, .int .u8 0]], []⟩ 8 (by kernel_rfl) (by kernel_rfl) (by kernel_rfl) (by kernel_rfl)) ?_
  intro W base args ds gs before hval0 hW hcnd _
  have hval : ∀ (j : Nat) t v, Try.f6.params[j]? = some t → args[j]? = some v → Value.okWide Try.prog W .any base t v := hval0
  have hW' := hW
  obtain ⟨p, q, hA0, hV, rfl, hfz, hnd⟩ := hW
  have hA : DataW.TrodAll enc Try.prog W 0 (fun _ => true) true Try.f6.params.toList args.toList ds p := hA0
  rw [Try.params6] at hA hval
  obtain ⟨v0, vs0, d0, ds0, p0, q0, hargs, rfl, rfl, h0, r0⟩ := trodAll_cons hA
  obtain ⟨v1, vs1, d1, ds1, p1, q1, rfl, rfl, rfl, h1, r1⟩ := trodAll_cons r0
  obtain ⟨v2, vs2, d2, ds2, p2, q2, rfl, rfl, rfl, h2, r2⟩ := trodAll_cons r1
  obtain ⟨v3, vs3, d3, ds3, p3, q3, rfl, rfl, rfl, h3, r3⟩ := trodAll_cons r2
  obtain ⟨rfl, rfl, rfl⟩ := trodAll_nil r3
  obtain rfl : args = #[v0, v1, v2, v3] := by cases args; simp_all
  obtain ⟨rfl, rfl⟩ := trodVars_none hV
  obtain ⟨a, n, c, rfl⟩ := okWide_slice Try.underlying38 (hval 0 38 v0 rfl rfl)
  have k0 := h0
  have lt0 : ∀ x ∈ p0, x.block < W.heap.size := by obtain ⟨m, hm⟩ := k0; exact DataW.trod_lt m _ _ _ hm
  obtain ⟨rs, hz, ha, hnil⟩ : ∃ rs : List Rl, rs.length = n ∧ Rs W.heap.size W a c rs ∧ (a = none → n = 0 ∧ c = 0) := by
    obtain ⟨fuel, hf⟩ := h0
    exact open_rules hf
  have k1 := h1
  have lt1 : ∀ x ∈ p1, x.block < W.heap.size := by obtain ⟨m, hm⟩ := k1; exact DataW.trod_lt m _ _ _ hm
  obtain ⟨x, rfl, rfl, rfl, _⟩ := open_int Try.underlying3 (hval 1 3 v1 rfl rfl) h1
  have k2 := h2
  have lt2 : ∀ x ∈ p2, x.block < W.heap.size := by obtain ⟨m, hm⟩ := k2; exact DataW.trod_lt m _ _ _ hm
  obtain ⟨ns, rfl, _⟩ := okWide_struct Try.underlying49 (hval 2 49 v2 rfl rfl)
  obtain ⟨r, rfl⟩ : ∃ r : Rl, ns = #[.int .i64 r.eff, .string r.tgt, .int .i64 r.line, .string r.txt, .bool r.alw] := by
    obtain ⟨fuel, hf⟩ := h2
    obtain ⟨r, e⟩ := open_rule hf
    refine ⟨r, ?_⟩
    simp only [Value.cells] at e
    cases ns
    simpa using e
  have k3 := h3
  have lt3 : ∀ x ∈ p3, x.block < W.heap.size := by obtain ⟨m, hm⟩ := k3; exact DataW.trod_lt m _ _ _ hm
  obtain ⟨qs, rfl, _⟩ := okWide_struct Try.underlying25 (hval 3 25 v3 rfl rfl)
  obtain ⟨pp, u, hh, sv, sn, s, f, rfl⟩ : ∃ (pp : ByteArray) (u hh sv sn : Int) (s : ByteArray) (f : Int), qs = #[.string pp, .int .u32 u, .int .i64 hh, .int .u64 sv, .int .u64 sn, .string s, .int .u8 f] := by
    obtain ⟨fuel, hf⟩ := h3
    obtain ⟨pp, u, hh, sv, sn, s, f, e⟩ := open_req hf
    refine ⟨pp, u, hh, sv, sn, s, f, ?_⟩
    simp only [Value.cells] at e
    cases qs
    simpa using e
  clear hA0 hval0
  refine (dinsert_walk W a n c rs x r.eff r.tgt r.line r.txt r.alw pp u hh sv sn s f hz ha hnil).mono fun e W' ⟨he, bel⟩ => ?_
  subst he
  exact ⟨_, rfl, _, _, _, [], _, [], hW', trodAll_mk1 (shut_bool Try.underlying4 _), (trodAll_cons_mk (Below.trod laidOut (by kernel_rfl) (of_decide_eq_true (by kernel_rfl)) k0 bel lt0) (trodAll_cons_mk (Below.trod laidOut (by kernel_rfl) (of_decide_eq_true (by kernel_rfl)) k1 bel lt1) (trodAll_cons_mk (Below.trod laidOut (by kernel_rfl) (of_decide_eq_true (by kernel_rfl)) k2 bel lt2) (trodAll_cons_mk (Below.trod laidOut (by kernel_rfl) (of_decide_eq_true (by kernel_rfl)) k3 bel lt3) trodAll_mk0)))), rfl, bel.frame _, fun h => by cases h⟩

theorem over : Rows.fnDecideInsertAtAnyPlaceRow.holds Try.pinned (OpenSpec.ofChange Rows.fnDecideInsertAtAnyPlaceSpec) :=
  OpenClaim.holds_of_wide 6 Try.f6 rfl rfl rfl rfl rfl rfl rfl ⟨rfl, rfl, rfl, rfl, rfl⟩ rfl rfl rfl rfl rfl (by kernel_rfl) Try.func6 (by kernel_rfl)
    (of_decide_eq_true (by kernel_rfl)) (by unfold Func.isWrapper; first | (rw [if_pos (by decide +kernel)]; kernel_rfl) | (rw [if_neg (by decide +kernel)]; exact ⟨rfl, rfl⟩))
    (fun os started H enc _ => lifted os started H enc)

/-- THE STATEMENT -/
theorem proved : Rows.FnDecideInsertAtAnyPlaceSaid := over
end Go.Proofs.Qxb6608618a.fnDecideInsertAtAnyPlace
