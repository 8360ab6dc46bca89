import Derived.Test.Qxb6608618aSplit
import Derived.Test.Qxb6608618aOpen
import Derived.OwnWalk
namespace Go.Proofs.Qxb6608618a
open Go.RowKit

/-- One group more, at place k. -/
def ins (gs : List Grp) (k : Nat) (g : Grp) : List Grp := gs.take k ++ ([g] ++ gs.drop k)

theorem ins_length {gs : List Grp} {k : Nat} {g : Grp} (hk : k ≤ gs.length) : (ins gs k g).length = gs.length + 1 := by
  simp [ins]; omega
theorem ins_lt {gs : List Grp} {k : Nat} {g : Grp} (hk : k ≤ gs.length) {i : Nat} (hi : i < k) : (ins gs k g)[i]? = gs[i]? := by
  unfold ins
  rw [List.getElem?_append_left (by simp; omega), List.getElem?_take, if_pos hi]
theorem ins_eq {gs : List Grp} {k : Nat} {g : Grp} (hk : k ≤ gs.length) : (ins gs k g)[k]? = some g := by
  unfold ins
  rw [List.getElem?_append_right (by simp; omega)]
  simp [Nat.min_eq_left hk]
theorem ins_gt {gs : List Grp} {k : Nat} {g : Grp} (hk : k ≤ gs.length) {i : Nat} (hi : k ≤ i) : (ins gs k g)[i + 1]? = gs[i]? := by
  unfold ins
  rw [List.getElem?_append_right (by simp; omega)]
  simp only [List.length_take, Nat.min_eq_left hk, List.singleton_append]
  rw [show i + 1 - k = (i - k) + 1 by omega, List.getElem?_cons_succ, List.getElem?_drop, show k + (i - k) = i by omega]

theorem first_ins_old {gs : List Grp} {nm : ByteArray} {g : Grp} {j k : Nat} (hk : k ≤ gs.length) (h : first gs nm = (j : Int)) (hjk : j < k) : first (ins gs k g) nm = (j : Int) := by
  obtain ⟨⟨q, hq, hit⟩, hno⟩ := first_spec h
  refine first_hit (g := q) (by rw [ins_lt hk hjk]; exact hq) (fun i h hi hig => ?_) hit
  rw [ins_lt hk (by omega)] at hig
  exact hno i h hi hig

theorem first_ins_new {gs : List Grp} {nm : ByteArray} {g : Grp} {k : Nat} (hk : k ≤ gs.length) (h : ∀ (i : Nat) (q : Grp), i < k → gs[i]? = some q → eqS q.name nm = false) (hg : eqS g.name nm = true) : first (ins gs k g) nm = (k : Int) := by
  refine first_hit (g := g) (ins_eq hk) (fun i q hi hig => ?_) hg
  rw [ins_lt hk hi] at hig
  exact h i q hi hig

theorem first_ins_later {gs : List Grp} {nm : ByteArray} {g : Grp} {j k : Nat} (hk : k ≤ gs.length) (h : first gs nm = (j : Int)) (hjk : k ≤ j) (hg : eqS g.name nm = false) : first (ins gs k g) nm = ((j + 1 : Nat) : Int) := by
  obtain ⟨⟨q, hq, hit⟩, hno⟩ := first_spec h
  refine first_hit (g := q) (by rw [ins_gt hk hjk]; exact hq) (fun i p hi hig => ?_) hit
  by_cases h1 : i < k
  · rw [ins_lt hk h1] at hig
    exact hno i p (by omega) hig
  · by_cases h2 : i = k
    · subst h2
      rw [ins_eq hk] at hig
      cases hig
      exact hg
    · obtain ⟨i', rfl⟩ : ∃ i', i = i' + 1 := ⟨i - 1, by omega⟩
      rw [ins_gt hk (by omega)] at hig
      exact hno i' p (by omega) hig

theorem first_ins_none {gs : List Grp} {nm : ByteArray} {g : Grp} {k : Nat} (hk : k ≤ gs.length) (h : first gs nm = -1) (hg : eqS g.name nm = false) : first (ins gs k g) nm = -1 := by
  refine first_none (fun i p _ hig => ?_)
  by_cases h1 : i < k
  · rw [ins_lt hk h1] at hig
    exact first_miss h i p hig
  · by_cases h2 : i = k
    · subst h2
      rw [ins_eq hk] at hig
      cases hig
      exact hg
    · obtain ⟨i', rfl⟩ : ∃ i', i = i' + 1 := ⟨i - 1, by omega⟩
      rw [ins_gt hk (by omega)] at hig
      exact first_miss h i' p hig

/-- A list of groups, as cells. -/
def gcells (gs : List Grp) : List Value := gs.flatMap (fun g => [.string g.name, .int .u32 g.gid, .slice g.ma g.ml g.mc])

theorem gcells_length (gs : List Grp) : (gcells gs).length = gs.length * 3 := by
  induction gs with
  | nil => rfl
  | cons g gs ih => simp only [gcells, List.flatMap_cons, List.length_append] at ih ⊢; rw [ih]; simp; omega

theorem gcells_at {gs : List Grp} {i : Nat} {g : Grp} (h : gs[i]? = some g) : (gcells gs)[i * 3]? = some (.string g.name) ∧ (gcells gs)[i * 3 + 1]? = some (.int .u32 g.gid) ∧ (gcells gs)[i * 3 + 2]? = some (.slice g.ma g.ml g.mc) := by
  induction gs generalizing i with
  | nil => simp at h
  | cons q gs ih =>
    cases i with
    | zero => simp at h; subst h; simp [gcells]
    | succ i =>
      rw [List.getElem?_cons_succ] at h
      obtain ⟨h1, h2, h3⟩ := ih h
      have e : gcells (q :: gs) = [.string q.name, .int .u32 q.gid, .slice q.ma q.ml q.mc] ++ gcells gs := by simp [gcells]
      rw [e]
      refine ⟨?_, ?_, ?_⟩
      · rw [List.getElem?_append_right (by simp; omega), ← h1]; congr 1; simp; omega
      · rw [List.getElem?_append_right (by simp; omega), ← h2]; congr 1; simp; omega
      · rw [List.getElem?_append_right (by simp; omega), ← h3]; congr 1; simp; omega

theorem gcells_one (gs : List Grp) : ∀ u ∈ gcells gs, u.oneCell' = true := by
  intro u hu
  simp only [gcells, List.mem_flatMap] at hu
  obtain ⟨g, _, hg⟩ := hu
  simp at hg
  rcases hg with rfl | rfl | rfl <;> rfl

/-- The cells of a list of groups lie where it begins. -/
theorem Gs.cells {B : Nat} {w : World} {a : Option Addr} {c : Nat} {gs : List Grp} (h : Gs B w a c gs) : ∀ ad, a = some ad → ∀ (j : Nat) u, (gcells gs)[j]? = some u → w.cell? (ad.add j) = some u := by
  intro ad had j u hu
  have hj := (List.getElem?_eq_some_iff.1 hu).1
  rw [gcells_length] at hj
  have hg : gs[j / 3]? = some (gs[j / 3]'(by omega)) := List.getElem?_eq_getElem (by omega)
  obtain ⟨b, o, h1, _, h3, h4, h5⟩ := h.2 (j / 3) _ hg
  obtain ⟨c1, c2, c3⟩ := gcells_at hg
  rw [had] at h1
  obtain rfl := Option.some.inj h1
  rw [Addr.add_lit]
  have hm : j = j / 3 * 3 ∨ j = j / 3 * 3 + 1 ∨ j = j / 3 * 3 + 2 := by omega
  rcases hm with e | e | e
  · rw [← e] at c1 h3
    rw [c1] at hu
    obtain rfl := Option.some.inj hu
    exact h3
  · rw [← e] at c2
    rw [Nat.add_assoc, ← e] at h4
    rw [c2] at hu
    obtain rfl := Option.some.inj hu
    exact h4
  · rw [← e] at c3
    rw [Nat.add_assoc, ← e] at h5
    rw [c3] at hu
    obtain rfl := Option.some.inj hu
    exact h5

/-- What the call owns reads as the groups. -/
theorem gs_of_owns {w : World} {base g n cap : Nat} {gs : List Grp} (h : w.ownsRow base 65 3 (.slice (some ⟨g, 0, none⟩) n cap) n (gcells gs)) (hz : gs.length = n) : Gs w.heap.size w (some ⟨g, 0, none⟩) cap gs := by
  obtain ⟨_, h2⟩ := h
  rcases h2 with ⟨h2, _⟩ | ⟨g', cap', cur, h2, _, h3, h4, _, h6, h7⟩
  · simp at h2
  · simp at h2
    obtain ⟨rfl, rfl⟩ := h2
    refine ⟨by omega, fun i q hq => ?_⟩
    have hi := (List.getElem?_eq_some_iff.1 hq).1
    obtain ⟨c1, c2, c3⟩ := gcells_at hq
    rw [← h7, List.getElem?_take] at c1 c2 c3
    rw [if_pos (by omega)] at c1 c2 c3
    have hb := (Array.getElem?_eq_some_iff.1 h3).1
    refine ⟨g, 0, rfl, hb, ?_, ?_, ?_⟩
    · rw [cell_of_row w g _ _ 65 (0, 0) h3]; simpa using c1
    · rw [cell_of_row w g _ _ 65 (0, 0) h3]; simpa using c2
    · rw [cell_of_row w g _ _ 65 (0, 0) h3]; simpa using c3

theorem ownsRow_chg {w w' : World} {S : Nat → Prop} {base : Nat} {e : TypeId} {size : Nat} {v : Value} {n : Nat} {xs : List Value} (h : w.ownsRow base e size v n xs) (hc : Chg S w w') (hn : ∀ k, v.ownBlock = some k → ¬ S k) : w'.ownsRow base e size v n xs := by
  refine ⟨h.1, ?_⟩
  rcases h.2 with hn' | ⟨g, cap, cur, rfl, hb, hgg, r⟩
  · exact .inl hn'
  · refine .inr ⟨g, cap, cur, rfl, hb, ?_, r⟩
    rw [hc.block g (Array.getElem?_eq_some_iff.1 hgg).1 (hn g rfl)]
    exact hgg

theorem gcells_append (xs ys : List Grp) : gcells (xs ++ ys) = gcells xs ++ gcells ys := by simp [gcells]
end Go.Proofs.Qxb6608618a
