import Derived.Test.Qxb6608618aDec
import Derived.ProofKit
import Derived.OpenShut
import Derived.Deep.Slices
import Derived.Deep.Strs
namespace Go.Proofs.Qxb6608618a
open Go.ChangeShapes Go.WideShapes Go.RowKit Go.Deep

section
variable {H : Type} {enc : TypeId × Value → H} {w : World} {spare : Nat → Bool} {held : Bool}

/-- One element for each place, as a list. -/
theorem list_of {α : Type} {n : Nat} {p : Nat → α → Prop} (h : ∀ i, i < n → ∃ x, p i x) : ∃ xs : List α, xs.length = n ∧ ∀ i x, xs[i]? = some x → i < n ∧ p i x := by
  induction n with
  | zero => exact ⟨[], rfl, fun i x hi => by simp at hi⟩
  | succ n ih =>
    obtain ⟨xs, hl, hx⟩ := ih (fun i hi => h i (by omega))
    obtain ⟨y, hy⟩ := h n (by omega)
    refine ⟨xs ++ [y], by simp [hl], fun i x hi => ?_⟩
    by_cases hin : i < n
    · rw [List.getElem?_append_left (by omega)] at hi
      exact ⟨by omega, (hx i x hi).2⟩
    · rw [List.getElem?_append_right (by omega), hl] at hi
      have hi0 : i - n = 0 := by
        have := (List.getElem?_eq_some_iff.1 hi).1
        simp at this
        omega
      rw [hi0] at hi
      simp at hi
      obtain rfl : i = n := by omega
      subst hi
      exact ⟨by omega, hy⟩

/-- The row's head is a plain place. -/
theorem plain {a : Addr} {v : Value} (h : w.cell? (a.add 0) = some v) : ∃ b o, a = ⟨b, o, none⟩ ∧ b < w.heap.size := by
  obtain ⟨b, o, s⟩ := a
  have hs : s = none := by simpa [Addr.add] using World.cell?_spot h
  subst hs
  rw [Addr.add_lit] at h
  exact ⟨b, o, rfl, World.block_lt_of_cell? w _ h⟩

theorem some_of {α : Type} {xs : List α} {i : Nat} {o : Option α} (g : o = xs[i]?) (h : i < xs.length) : ∃ y, o = some y := ⟨_, g.trans (List.getElem?_eq_getElem h)⟩

theorem cs3 : Try.prog.cellsOf 3 = 1 := by kernel_rfl
theorem cs4 : Try.prog.cellsOf 4 = 1 := by kernel_rfl
theorem cs5 : Try.prog.cellsOf 5 = 1 := by kernel_rfl
theorem cs9 : Try.prog.cellsOf 9 = 1 := by kernel_rfl
theorem cs22 : Try.prog.cellsOf 22 = 1 := by kernel_rfl
theorem cs23 : Try.prog.cellsOf 23 = 1 := by kernel_rfl
theorem cs25 : Try.prog.cellsOf 25 = 7 := by kernel_rfl
theorem cs49 : Try.prog.cellsOf 49 = 5 := by kernel_rfl

theorem open_req {fuel : Nat} {cs : List Value} {x : DataW H × List MemPlace} (h : DataW.trod enc Try.prog w 0 spare held fuel 25 cs = some x) :
    ∃ (p : ByteArray) (u hr sv sn : Int) (s : ByteArray) (f : Int), cs = [.string p, .int .u32 u, .int .i64 hr, .int .u64 sv, .int .u64 sn, .string s, .int .u8 f] := by
  obtain ⟨xs, n, _, rfl, hl, hlen, hf⟩ := DataW.trod_struct Try.underlying25 h
  rw [cs25] at hl
  have hx : xs.length = 7 := hlen
  match cs, hl with
  | [v0, v1, v2, v3, v4, v5, v6], _ =>
    obtain ⟨y0, g0⟩ := some_of (hf 0 _ rfl) (by omega)
    obtain ⟨y1, g1⟩ := some_of (hf 1 _ rfl) (by omega)
    obtain ⟨y2, g2⟩ := some_of (hf 2 _ rfl) (by omega)
    obtain ⟨y3, g3⟩ := some_of (hf 3 _ rfl) (by omega)
    obtain ⟨y4, g4⟩ := some_of (hf 4 _ rfl) (by omega)
    obtain ⟨y5, g5⟩ := some_of (hf 5 _ rfl) (by omega)
    obtain ⟨y6, g6⟩ := some_of (hf 6 _ rfl) (by omega)
    simp [cs3, cs5, cs9, cs22, cs23] at g0 g1 g2 g3 g4 g5 g6
    obtain ⟨p, r0, _, _⟩ := DataW.trod_string Try.underlying9 g0
    obtain ⟨u, r1, _, _⟩ := DataW.trod_int Try.underlying22 g1
    obtain ⟨hr, r2, _, _⟩ := DataW.trod_int Try.underlying3 g2
    obtain ⟨sv, r3, _, _⟩ := DataW.trod_int Try.underlying23 g3
    obtain ⟨sn, r4, _, _⟩ := DataW.trod_int Try.underlying23 g4
    obtain ⟨s, r5, _, _⟩ := DataW.trod_string Try.underlying9 g5
    obtain ⟨f, r6, _, _⟩ := DataW.trod_int Try.underlying5 g6
    simp at r0 r1 r2 r3 r4 r5 r6
    subst r0 r1 r2 r3 r4 r5 r6
    exact ⟨p, u, hr, sv, sn, s, f, rfl⟩

theorem open_rule {fuel : Nat} {cs : List Value} {x : DataW H × List MemPlace} (h : DataW.trod enc Try.prog w 0 spare held fuel 49 cs = some x) :
    ∃ r : Rl, cs = [.int .i64 r.eff, .string r.tgt, .int .i64 r.line, .string r.txt, .bool r.alw] := by
  obtain ⟨xs, n, _, rfl, hl, hlen, hf⟩ := DataW.trod_struct Try.underlying49 h
  rw [cs49] at hl
  have hx : xs.length = 5 := hlen
  match cs, hl with
  | [v0, v1, v2, v3, v4], _ =>
    obtain ⟨y0, g0⟩ := some_of (hf 0 _ rfl) (by omega)
    obtain ⟨y1, g1⟩ := some_of (hf 1 _ rfl) (by omega)
    obtain ⟨y2, g2⟩ := some_of (hf 2 _ rfl) (by omega)
    obtain ⟨y3, g3⟩ := some_of (hf 3 _ rfl) (by omega)
    obtain ⟨y4, g4⟩ := some_of (hf 4 _ rfl) (by omega)
    simp [cs3, cs4, cs9] at g0 g1 g2 g3 g4
    obtain ⟨e, r0, _, _⟩ := DataW.trod_int Try.underlying3 g0
    obtain ⟨t, r1, _, _⟩ := DataW.trod_string Try.underlying9 g1
    obtain ⟨l, r2, _, _⟩ := DataW.trod_int Try.underlying3 g2
    obtain ⟨y, r3, _, _⟩ := DataW.trod_string Try.underlying9 g3
    obtain ⟨b, r4, _⟩ := DataW.trod_bool Try.underlying4 g4
    simp at r0 r1 r2 r3 r4
    subst r0 r1 r2 r3 r4
    exact ⟨⟨e, t, l, y, b⟩, rfl⟩

/-- What a list of rules that came in tells the walk. -/
theorem open_rules {fuel : Nat} {u : Option Addr} {ul uc : Nat} {x : DataW H × List MemPlace} (h : DataW.trod enc Try.prog w 0 spare held fuel 38 [.slice u ul uc] = some x) : ∃ rs : List Rl, rs.length = ul ∧ Rs w.heap.size w u uc rs ∧ (u = none → ul = 0 ∧ uc = 0) := by
  rcases open_slice Try.underlying38 h with ⟨hcs, _⟩ | ⟨a, len, cap, m, n, D, Pl, hcs, _, hl, hm, hmm, _, hx⟩
  · simp at hcs
    obtain ⟨rfl, rfl, rfl⟩ := hcs
    exact ⟨[], rfl, ⟨by simp, fun i g hi => by simp at hi⟩, fun _ => ⟨rfl, rfl⟩⟩
  · simp at hcs
    obtain ⟨rfl, rfl, rfl⟩ := hcs
    have hlm : ul ≤ m := by rw [hmm]; split <;> omega
    have each : ∀ i, i < ul → ∃ r : Rl, w.cell? (a.add (i * 5)) = some (.int .i64 r.eff) ∧ w.cell? (a.add (i * 5 + 1)) = some (.string r.tgt) ∧ w.cell? (a.add (i * 5 + 2)) = some (.int .i64 r.line) ∧ w.cell? (a.add (i * 5 + 3)) = some (.string r.txt) ∧ w.cell? (a.add (i * 5 + 4)) = some (.bool r.alw) := by
      intro i hi
      obtain ⟨cs', h1, h2⟩ := hx i (by omega)
      rw [cs49] at h1
      obtain ⟨r, rfl⟩ := open_rule h2
      obtain ⟨_, hlen, hcell⟩ := World.cells?_some h1
      have e0 := hcell 0 (by omega)
      have e1 := hcell 1 (by omega)
      have e2 := hcell 2 (by omega)
      have e3 := hcell 3 (by omega)
      have e4 := hcell 4 (by omega)
      rw [add_add] at e0 e1 e2 e3 e4
      exact ⟨r, by simpa using e0, by simpa using e1, by simpa using e2, by simpa using e3, by simpa using e4⟩
    obtain ⟨rs, hl', hrs⟩ := list_of each
    refine ⟨rs, hl', ⟨by omega, fun i g hi => ?_⟩, fun h => by cases h⟩
    obtain ⟨hlt, e0, e1, e2, e3, e4⟩ := hrs i g hi
    obtain ⟨q, hq, _⟩ := each 0 (by omega)
    obtain ⟨b, o, rfl, hb⟩ := plain (by simpa using hq)
    rw [Addr.add_lit] at e0 e1 e2 e3 e4
    exact ⟨b, o, rfl, hb, e0, e1, e2, e3, e4⟩
end
end Go.Proofs.Qxb6608618a
