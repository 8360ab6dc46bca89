import Derived.Test.Qxb6608618aDec5
import Derived.OwnWalk
namespace Go.Proofs.Qxb6608618a
open Go.RowKit

/-- One rule more, at place k. -/
def insR (rs : List Rl) (k : Nat) (g : Rl) : List Rl := rs.take k ++ ([g] ++ rs.drop k)

theorem insR_length {rs : List Rl} {k : Nat} {g : Rl} (hk : k ≤ rs.length) : (insR rs k g).length = rs.length + 1 := by
  simp [insR]; omega
theorem insR_lt {rs : List Rl} {k : Nat} {g : Rl} (hk : k ≤ rs.length) {i : Nat} (hi : i < k) : (insR rs k g)[i]? = rs[i]? := by
  unfold insR
  rw [List.getElem?_append_left (by simp; omega), List.getElem?_take, if_pos hi]
theorem insR_eq {rs : List Rl} {k : Nat} {g : Rl} (hk : k ≤ rs.length) : (insR rs k g)[k]? = some g := by
  unfold insR
  rw [List.getElem?_append_right (by simp; omega)]
  simp [Nat.min_eq_left hk]
theorem insR_gt {rs : List Rl} {k : Nat} {g : Rl} (hk : k ≤ rs.length) {i : Nat} (hi : k ≤ i) : (insR rs k g)[i + 1]? = rs[i]? := by
  unfold insR
  rw [List.getElem?_append_right (by simp; omega)]
  simp only [List.length_take, Nat.min_eq_left hk, List.singleton_append]
  rw [show i + 1 - k = (i - k) + 1 by omega, List.getElem?_cons_succ, List.getElem?_drop, show k + (i - k) = i by omega]

theorem fst_ins_old {rs : List Rl} {g : Rl} {j k : Nat} (hk : k ≤ rs.length) (h : fst rs = (j : Int)) (hjk : j < k) : fst (insR rs k g) = (j : Int) := by
  obtain ⟨⟨q, hq, hit⟩, hno⟩ := fst_spec h
  refine fst_hit (g := q) (by rw [insR_lt hk hjk]; exact hq) (fun i h hi hig => ?_) hit
  rw [insR_lt hk (by omega)] at hig
  exact hno i h hi hig

theorem fst_ins_new {rs : List Rl} {g : Rl} {k : Nat} (hk : k ≤ rs.length) (h : ∀ (i : Nat) (q : Rl), i < k → rs[i]? = some q → q.alw = false) (hg : g.alw = true) : fst (insR rs k g) = (k : Int) := by
  refine fst_hit (g := g) (insR_eq hk) (fun i q hi hig => ?_) hg
  rw [insR_lt hk hi] at hig
  exact h i q hi hig

theorem fst_ins_later {rs : List Rl} {g : Rl} {j k : Nat} (hk : k ≤ rs.length) (h : fst rs = (j : Int)) (hjk : k ≤ j) (hg : g.alw = false) : fst (insR rs k g) = ((j + 1 : Nat) : Int) := by
  obtain ⟨⟨q, hq, hit⟩, hno⟩ := fst_spec h
  refine fst_hit (g := q) (by rw [insR_gt hk hjk]; exact hq) (fun i p hi hig => ?_) hit
  by_cases h1 : i < k
  · rw [insR_lt hk h1] at hig
    exact hno i p (by omega) hig
  · by_cases h2 : i = k
    · subst h2
      rw [insR_eq hk] at hig
      cases hig
      exact hg
    · obtain ⟨i', rfl⟩ : ∃ i', i = i' + 1 := ⟨i - 1, by omega⟩
      rw [insR_gt hk (by omega)] at hig
      exact hno i' p (by omega) hig

theorem fst_ins_none {rs : List Rl} {g : Rl} {k : Nat} (hk : k ≤ rs.length) (h : fst rs = -1) (hg : g.alw = false) : fst (insR rs k g) = -1 := by
  refine fst_none (fun i p _ hig => ?_)
  by_cases h1 : i < k
  · rw [insR_lt hk h1] at hig
    exact fst_miss h i p hig
  · by_cases h2 : i = k
    · subst h2
      rw [insR_eq hk] at hig
      cases hig
      exact hg
    · obtain ⟨i', rfl⟩ : ∃ i', i = i' + 1 := ⟨i - 1, by omega⟩
      rw [insR_gt hk (by omega)] at hig
      exact fst_miss h i' p hig

/-- A list of rules, as cells. -/
def rcells (rs : List Rl) : List Value := rs.flatMap (fun r => [.int .i64 r.eff, .string r.tgt, .int .i64 r.line, .string r.txt, .bool r.alw])

theorem rcells_cons (r : Rl) (rs : List Rl) : rcells (r :: rs) = [.int .i64 r.eff, .string r.tgt, .int .i64 r.line, .string r.txt, .bool r.alw] ++ rcells rs := by simp [rcells]
theorem rcells_append (xs ys : List Rl) : rcells (xs ++ ys) = rcells xs ++ rcells ys := by simp [rcells]

theorem rcells_length (rs : List Rl) : (rcells rs).length = rs.length * 5 := by
  induction rs with
  | nil => rfl
  | cons g rs ih => rw [rcells_cons, List.length_append, ih]; simp; omega

theorem rcells_at {rs : List Rl} {i : Nat} {r : Rl} (h : rs[i]? = some r) : (rcells rs)[i * 5]? = some (.int .i64 r.eff) ∧ (rcells rs)[i * 5 + 1]? = some (.string r.tgt) ∧ (rcells rs)[i * 5 + 2]? = some (.int .i64 r.line) ∧ (rcells rs)[i * 5 + 3]? = some (.string r.txt) ∧ (rcells rs)[i * 5 + 4]? = some (.bool r.alw) := by
  induction rs generalizing i with
  | nil => simp at h
  | cons q rs ih =>
    cases i with
    | zero => simp at h; subst h; simp [rcells]
    | succ i =>
      rw [List.getElem?_cons_succ] at h
      obtain ⟨h1, h2, h3, h4, h5⟩ := ih h
      rw [rcells_cons]
      refine ⟨?_, ?_, ?_, ?_, ?_⟩
      · rw [List.getElem?_append_right (by simp; omega), ← h1]; congr 1; simp; omega
      · rw [List.getElem?_append_right (by simp; omega), ← h2]; congr 1; simp; omega
      · rw [List.getElem?_append_right (by simp; omega), ← h3]; congr 1; simp; omega
      · rw [List.getElem?_append_right (by simp; omega), ← h4]; congr 1; simp; omega
      · rw [List.getElem?_append_right (by simp; omega), ← h5]; congr 1; simp; omega

theorem rcells_one (rs : List Rl) : ∀ u ∈ rcells rs, u.oneCell' = true := by
  intro u hu
  simp only [rcells, List.mem_flatMap] at hu
  obtain ⟨g, _, hg⟩ := hu
  simp at hg
  rcases hg with rfl | rfl | rfl | rfl | rfl <;> rfl

/-- The cells of a list of rules lie where it begins. -/
theorem Rs.cells {B : Nat} {w : World} {a : Option Addr} {c : Nat} {rs : List Rl} (h : Rs B w a c rs) : ∀ ad, a = some ad → ∀ (j : Nat) u, (rcells rs)[j]? = some u → w.cell? (ad.add j) = some u := by
  intro ad had j u hu
  have hj := (List.getElem?_eq_some_iff.1 hu).1
  rw [rcells_length] at hj
  have hg : rs[j / 5]? = some (rs[j / 5]'(by omega)) := List.getElem?_eq_getElem (by omega)
  obtain ⟨b, o, h1, _, h3, h4, h5, h6, h7⟩ := h.2 (j / 5) _ hg
  obtain ⟨c1, c2, c3, c4, c5⟩ := rcells_at hg
  rw [had] at h1
  obtain rfl := Option.some.inj h1
  rw [Addr.add_lit]
  have hm : j = j / 5 * 5 ∨ j = j / 5 * 5 + 1 ∨ j = j / 5 * 5 + 2 ∨ j = j / 5 * 5 + 3 ∨ j = j / 5 * 5 + 4 := by omega
  rcases hm with e | e | e | e | e
  · rw [← e] at c1 h3
    rw [c1] at hu
    obtain rfl := Option.some.inj hu
    exact h3
  · rw [← e] at c2
    rw [Nat.add_assoc, ← e] at h4
    rw [c2] at hu
    obtain rfl := Option.some.inj hu
    exact h4
  · rw [← e] at c3
    rw [Nat.add_assoc, ← e] at h5
    rw [c3] at hu
    obtain rfl := Option.some.inj hu
    exact h5
  · rw [← e] at c4
    rw [Nat.add_assoc, ← e] at h6
    rw [c4] at hu
    obtain rfl := Option.some.inj hu
    exact h6
  · rw [← e] at c5
    rw [Nat.add_assoc, ← e] at h7
    rw [c5] at hu
    obtain rfl := Option.some.inj hu
    exact h7

/-- What the call owns reads as the rules. -/
theorem rs_of_owns {w : World} {base g n cap : Nat} {rs : List Rl} (h : w.ownsRow base 49 5 (.slice (some ⟨g, 0, none⟩) n cap) n (rcells rs)) (hz : rs.length = n) : Rs w.heap.size w (some ⟨g, 0, none⟩) cap rs := by
  obtain ⟨_, h2⟩ := h
  rcases h2 with ⟨h2, _⟩ | ⟨g', cap', cur, h2, _, h3, h4, _, h6, h7⟩
  · simp at h2
  · simp at h2
    obtain ⟨rfl, rfl⟩ := h2
    refine ⟨by omega, fun i q hq => ?_⟩
    have hi := (List.getElem?_eq_some_iff.1 hq).1
    obtain ⟨c1, c2, c3, c4, c5⟩ := rcells_at hq
    rw [← h7, List.getElem?_take] at c1 c2 c3 c4 c5
    rw [if_pos (by omega)] at c1 c2 c3 c4 c5
    have hb := (Array.getElem?_eq_some_iff.1 h3).1
    refine ⟨g, 0, rfl, hb, ?_, ?_, ?_, ?_, ?_⟩
    · rw [cell_of_row w g _ _ 49 (0, 0) h3]; simpa using c1
    · rw [cell_of_row w g _ _ 49 (0, 0) h3]; simpa using c2
    · rw [cell_of_row w g _ _ 49 (0, 0) h3]; simpa using c3
    · rw [cell_of_row w g _ _ 49 (0, 0) h3]; simpa using c4
    · rw [cell_of_row w g _ _ 49 (0, 0) h3]; simpa using c5

theorem ownsRow_turn {w w' : World} {S : Nat → Prop} {base : Nat} {e : TypeId} {size : Nat} {v : Value} {n : Nat} {xs : List Value} (h : w.ownsRow base e size v n xs) (hc : Chg S w w') (hn : ∀ k, v.ownBlock = some k → ¬ S k) : w'.ownsRow base e size v n xs := by
  refine ⟨h.1, ?_⟩
  rcases h.2 with hn' | ⟨g, cap, cur, rfl, hb, hgg, r⟩
  · exact .inl hn'
  · refine .inr ⟨g, cap, cur, rfl, hb, ?_, r⟩
    rw [hc.block g (Array.getElem?_eq_some_iff.1 hgg).1 (hn g rfl)]
    exact hgg
end Go.Proofs.Qxb6608618a
