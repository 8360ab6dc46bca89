import Derived.Test.Qxb6608618aBounds
import Derived.ProofKit
import Derived.OpenShut
import Derived.Deep.Slices
import Derived.Deep.Strs
namespace Go.Proofs.Qxb6608618a
open Go.ChangeShapes Go.WideShapes Go.RowKit Go.Deep

section
variable {H : Type} {enc : TypeId × Value → H} {w : World} {spare : Nat → Bool} {held : Bool}

/-- One element for each place, as a list. -/
theorem list_of {α : Type} {n : Nat} {p : Nat → α → Prop} (h : ∀ i, i < n → ∃ x, p i x) : ∃ xs : List α, xs.length = n ∧ ∀ i x, xs[i]? = some x → i < n ∧ p i x := by
  induction n with
  | zero => exact ⟨[], rfl, fun i x hi => by simp at hi⟩
  | succ n ih =>
    obtain ⟨xs, hl, hx⟩ := ih (fun i hi => h i (by omega))
    obtain ⟨y, hy⟩ := h n (by omega)
    refine ⟨xs ++ [y], by simp [hl], fun i x hi => ?_⟩
    by_cases hin : i < n
    · rw [List.getElem?_append_left (by omega)] at hi
      exact ⟨by omega, (hx i x hi).2⟩
    · rw [List.getElem?_append_right (by omega), hl] at hi
      have hi0 : i - n = 0 := by
        have := (List.getElem?_eq_some_iff.1 hi).1
        simp at this
        omega
      rw [hi0] at hi
      simp at hi
      obtain rfl : i = n := by omega
      subst hi
      exact ⟨by omega, hy⟩

/-- The row's head is a plain place. -/
theorem plain {a : Addr} {v : Value} (h : w.cell? (a.add 0) = some v) : ∃ b o, a = ⟨b, o, none⟩ ∧ b < w.heap.size := by
  obtain ⟨b, o, s⟩ := a
  have hs : s = none := by simpa [Addr.add] using World.cell?_spot h
  subst hs
  rw [Addr.add_lit] at h
  exact ⟨b, o, rfl, World.block_lt_of_cell? w _ h⟩

/-- Three cells of one element. -/
theorem three_cells {e : TypeId} {f0 f1 f2 : Field} {n : Nat} {a : Addr} {i : Nat} {cs : List Value} {x : DataW H × List MemPlace} (he : Try.prog.underlying e = some (.struct #[f0, f1, f2])) (ce : Try.prog.cellsOf e = 3)
    (o0 : f0.offset = 0) (o1 : f1.offset = 1) (o2 : f2.offset = 2) (c0 : Try.prog.cellsOf f0.type = 1) (c1 : Try.prog.cellsOf f1.type = 1) (c2 : Try.prog.cellsOf f2.type = 1)
    (h1 : w.cells? 0 (a.add (i * Try.prog.cellsOf e)) (Try.prog.cellsOf e) = some cs) (h2 : DataW.trod enc Try.prog w 0 spare held n e cs = some x) :
    ∃ v0 v1 v2 y0 y1 y2 m, w.cell? (a.add (i * 3)) = some v0 ∧ w.cell? (a.add (i * 3 + 1)) = some v1 ∧ w.cell? (a.add (i * 3 + 2)) = some v2 ∧
      DataW.trod enc Try.prog w 0 spare held m f0.type [v0] = some y0 ∧ DataW.trod enc Try.prog w 0 spare held m f1.type [v1] = some y1 ∧ DataW.trod enc Try.prog w 0 spare held m f2.type [v2] = some y2 := by
  rw [ce] at h1
  obtain ⟨_, hlen, hcell⟩ := World.cells?_some h1
  obtain ⟨y0, y1, y2, m, _, _, g0, g1, g2⟩ := trod_struct3 he h2
  match cs, hlen with
  | [v0, v1, v2], _ =>
    simp [o0, o1, o2, c0, c1, c2] at g0 g1 g2
    have e0 := hcell 0 (by omega)
    have e1 := hcell 1 (by omega)
    have e2 := hcell 2 (by omega)
    rw [add_add] at e0 e1 e2
    exact ⟨v0, v1, v2, y0, y1, y2, m, by simpa using e0, by simpa using e1, by simpa using e2, g0, g1, g2⟩

theorem open_users {fuel : Nat} {u : Option Addr} {ul uc : Nat} {x : DataW H × List MemPlace} (h : DataW.trod enc Try.prog w 0 spare held fuel 51 [.slice u ul uc] = some x) : ∃ us : List Usr, us.length = ul ∧ Us w.heap.size w u us := by
  rcases open_slice Try.underlying51 h with ⟨hcs, _⟩ | ⟨a, len, cap, m, n, D, Pl, hcs, _, hl, hm, hmm, _, hx⟩
  · simp at hcs
    obtain ⟨rfl, rfl, rfl⟩ := hcs
    exact ⟨[], rfl, fun i g hi => by simp at hi⟩
  · simp at hcs
    obtain ⟨rfl, rfl, rfl⟩ := hcs
    have hlm : ul ≤ m := by rw [hmm]; split <;> omega
    have each : ∀ i, i < ul → ∃ q : Usr, w.cell? (a.add (i * 3)) = some (.string q.name) ∧ w.cell? (a.add (i * 3 + 1)) = some (.int .u32 q.uid) ∧ w.cell? (a.add (i * 3 + 2)) = some (.int .u32 q.gid) := by
      intro i hi
      obtain ⟨cs', h1, h2⟩ := hx i (by omega)
      obtain ⟨v0, v1, v2, y0, y1, y2, k, e0, e1, e2, g0, g1, g2⟩ := three_cells Try.underlying77 (by kernel_rfl) rfl rfl rfl (by kernel_rfl) (by kernel_rfl) (by kernel_rfl) h1 h2
      obtain ⟨s, r0, _, _⟩ := DataW.trod_string Try.underlying9 g0
      obtain ⟨p, r1, _, _⟩ := DataW.trod_int Try.underlying22 g1
      obtain ⟨q, r2, _, _⟩ := DataW.trod_int Try.underlying22 g2
      simp at r0 r1 r2
      subst r0 r1 r2
      exact ⟨⟨s, p, q⟩, e0, e1, e2⟩
    obtain ⟨us, hl, hus⟩ := list_of each
    refine ⟨us, hl, fun i g hi => ?_⟩
    obtain ⟨hlt, e0, e1, e2⟩ := hus i g hi
    obtain ⟨q, hq, _⟩ := each 0 (by omega)
    obtain ⟨b, o, rfl, hb⟩ := plain (by simpa using hq)
    rw [Addr.add_lit] at e0 e1 e2
    exact ⟨b, o, rfl, hb, e0, e1, e2⟩

/-- What a list of groups that came in tells the walk. -/
theorem open_groups {fuel : Nat} {u : Option Addr} {ul uc : Nat} {x : DataW H × List MemPlace} (h : DataW.trod enc Try.prog w 0 spare held fuel 52 [.slice u ul uc] = some x) : ∃ gs : List Grp, gs.length = ul ∧ Gs w.heap.size w u uc gs ∧ (u = none → ul = 0) ∧ Ms w gs := by
  rcases open_slice Try.underlying52 h with ⟨hcs, _⟩ | ⟨a, len, cap, m, n, D, Pl, hcs, _, hl, hm, hmm, _, hx⟩
  · simp at hcs
    obtain ⟨rfl, rfl, rfl⟩ := hcs
    exact ⟨[], rfl, ⟨by simp, fun i g hi => by simp at hi⟩, fun _ => rfl, fun i g hi => by simp at hi⟩
  · simp at hcs
    obtain ⟨rfl, rfl, rfl⟩ := hcs
    have hlm : ul ≤ m := by rw [hmm]; split <;> omega
    have each : ∀ i, i < ul → ∃ q : Grp, w.cell? (a.add (i * 3)) = some (.string q.name) ∧ w.cell? (a.add (i * 3 + 1)) = some (.int .u32 q.gid) ∧ w.cell? (a.add (i * 3 + 2)) = some (.slice q.ma q.ml q.mc) ∧ ∀ j, j < q.ml → ∃ b o s, q.ma = some ⟨b, o, none⟩ ∧ w.cell? ⟨b, o + j, none⟩ = some (.string s) := by
      intro i hi
      obtain ⟨cs', h1, h2⟩ := hx i (by omega)
      obtain ⟨v0, v1, v2, y0, y1, y2, k, e0, e1, e2, g0, g1, g2⟩ := three_cells Try.underlying65 (by kernel_rfl) rfl rfl rfl (by kernel_rfl) (by kernel_rfl) (by kernel_rfl) h1 h2
      obtain ⟨s, r0, _, _⟩ := DataW.trod_string Try.underlying9 g0
      obtain ⟨p, r1, _, _⟩ := DataW.trod_int Try.underlying22 g1
      simp at r0 r1
      subst r0 r1
      rcases open_strs Try.underlying63 Try.underlying9 (by kernel_rfl) g2 with ⟨hc2, _⟩ | ⟨a2, l2, c2, m2, Sx, hc2, _, hl2, _, hmm2, _, hx2⟩
      · simp at hc2
        subst hc2
        exact ⟨⟨s, p, none, 0, 0⟩, e0, e1, e2, fun j hj => absurd hj (Nat.not_lt_zero _)⟩
      · simp at hc2
        subst hc2
        refine ⟨⟨s, p, some a2, l2, c2⟩, e0, e1, e2, fun j hj => ?_⟩
        have hj' : j < l2 := hj
        have hj2 : j < m2 := by rw [hmm2]; split <;> omega
        have e := (hx2 j hj2).1
        have hz2 : 0 < m2 := by omega
        obtain ⟨b, o, rfl, hb⟩ := plain (hx2 0 hz2).1
        rw [Addr.add_lit] at e
        exact ⟨b, o, Sx j, rfl, e⟩
    obtain ⟨gs, hl', hgs⟩ := list_of each
    refine ⟨gs, hl', ⟨by omega, fun i g hi => ?_⟩, (fun h => by cases h), fun i g hi => (hgs i g hi).2.2.2.2⟩
    obtain ⟨hlt, e0, e1, e2, _⟩ := hgs i g hi
    obtain ⟨q, hq, _⟩ := each 0 (by omega)
    obtain ⟨b, o, rfl, hb⟩ := plain (by simpa using hq)
    rw [Addr.add_lit] at e0 e1 e2
    exact ⟨b, o, rfl, hb, e0, e1, e2⟩
end
end Go.Proofs.Qxb6608618a
