import Derived.Test.Qxb6608618aRows
import Derived.Test.Qxb6608618aMem
import Derived.WalkKit
import Derived.WalkSpells
import Derived.WalkLawsBesides
import Derived.Deep.QuietTactic
import Derived.Deep.RegionWith
import Derived.Deep.DeepCutAuto
import Derived.BigQuiet
import Derived.BigRegion
import Derived.Laws.EntriesVeiled
namespace Go.Proofs.Qxb6608618a
open Go.RowKit

/-- A rule, as its five cells hold it. -/
structure Rl where
  eff : Int
  tgt : ByteArray
  line : Int
  txt : ByteArray
  alw : Bool

/-- The five cells of a rule. -/
def RlAt (w : World) (b p : Nat) (r : Rl) : Prop := w.cell? ⟨b, p, none⟩ = some (.int .i64 r.eff) ∧ w.cell? ⟨b, p + 1, none⟩ = some (.string r.tgt) ∧ w.cell? ⟨b, p + 2, none⟩ = some (.int .i64 r.line) ∧ w.cell? ⟨b, p + 3, none⟩ = some (.string r.txt) ∧ w.cell? ⟨b, p + 4, none⟩ = some (.bool r.alw)

theorem RlAt.below {B' : Nat} {w w' : World} {b p : Nat} {r : Rl} (h : RlAt w b p r) (hb : Below B' w w') (hB : b < B') : RlAt w' b p r := by
  obtain ⟨h0, h1, h2, h3, h4⟩ := h
  exact ⟨(hb.cell (p := ⟨b, p, none⟩) hB).trans h0, (hb.cell (p := ⟨b, p + 1, none⟩) hB).trans h1, (hb.cell (p := ⟨b, p + 2, none⟩) hB).trans h2, (hb.cell (p := ⟨b, p + 3, none⟩) hB).trans h3, (hb.cell (p := ⟨b, p + 4, none⟩) hB).trans h4⟩

/-- The slice that begins at 'a' reads as the rules 'rs', in blocks below B. -/
def Rs (B : Nat) (w : World) (a : Option Addr) (c : Nat) (rs : List Rl) : Prop :=
  rs.length ≤ c ∧ ∀ i r, rs[i]? = some r → ∃ b o, a = some ⟨b, o, none⟩ ∧ b < B ∧ RlAt w b (o + i * 5) r

theorem Rs.below {B B' : Nat} {w w' : World} {a : Option Addr} {c : Nat} {rs : List Rl} (h : Rs B w a c rs) (hb : Below B' w w') (hB : B ≤ B') : Rs B w' a c rs := by
  refine ⟨h.1, fun i g hi => ?_⟩
  obtain ⟨b, o, h1, h2, h3⟩ := h.2 i g hi
  exact ⟨b, o, h1, h2, h3.below hb (by omega)⟩

theorem Rs.mono {B B' : Nat} {w : World} {a : Option Addr} {c : Nat} {rs : List Rl} (h : Rs B w a c rs) (hB : B ≤ B') : Rs B' w a c rs := by
  refine ⟨h.1, fun i g hi => ?_⟩
  obtain ⟨b, o, h1, h2, h3⟩ := h.2 i g hi
  exact ⟨b, o, h1, by omega, h3⟩

theorem Rs.addr {B : Nat} {w : World} {a : Option Addr} {c : Nat} {rs : List Rl} (h : Rs B w a c rs) (h0 : 0 < rs.length) :
    ∃ b o, a = some ⟨b, o, none⟩ ∧ b < B ∧ ∀ i r, rs[i]? = some r → RlAt w b (o + i * 5) r := by
  obtain ⟨b, o, h1, h2, _⟩ := h.2 0 rs[0] (List.getElem?_eq_getElem h0)
  refine ⟨b, o, h1, h2, fun i g hi => ?_⟩
  obtain ⟨b', o', h1', _, h3'⟩ := h.2 i g hi
  rw [h1] at h1'
  simp only [Option.some.injEq, Addr.mk.injEq, and_true] at h1'
  obtain ⟨rfl, rfl⟩ := h1'
  exact h3'

theorem Rs.take {B : Nat} {w : World} {a : Option Addr} {c : Nat} {rs : List Rl} (h : Rs B w a c rs) (k : Nat) : Rs B w a c (rs.take k) := by
  refine ⟨by have := h.1; simp; omega, fun i g hi => ?_⟩
  rw [List.getElem?_take] at hi
  split at hi
  · exact h.2 i g hi
  · cases hi

theorem Rs.drop {B : Nat} {w : World} {a : Option Addr} {c : Nat} {rs : List Rl} (h : Rs B w a c rs) (k : Nat) : Rs B w (if c = k then a else Option.map (fun x => x.add (k * 5)) a) (c - k) (rs.drop k) := by
  refine ⟨by have := h.1; simp; omega, fun i g hi => ?_⟩
  rw [List.getElem?_drop] at hi
  have hl := (List.getElem?_eq_some_iff.1 hi).1
  have hc := h.1
  rw [if_neg (by omega)]
  obtain ⟨b, o, rfl, h2, h3⟩ := h.2 (k + i) g hi
  refine ⟨b, o + k * 5, by simp [Addr.add_lit], h2, ?_⟩
  rw [show o + k * 5 + i * 5 = o + (k + i) * 5 by omega]
  exact h3

/-- The place of the first rule that matches, or -1. -/
def fst (rs : List Rl) : Int := if rs.findIdx Rl.alw < rs.length then (rs.findIdx Rl.alw : Int) else -1

theorem fst_hit {rs : List Rl} {k : Nat} {g : Rl} (hk : rs[k]? = some g) (hno : ∀ (j : Nat) (h : Rl), j < k → rs[j]? = some h → h.alw = false) (hit : g.alw = true) : fst rs = (k : Int) := by
  obtain ⟨hlt, he⟩ := List.getElem?_eq_some_iff.1 hk
  have : rs.findIdx Rl.alw = k := by
    rw [List.findIdx_eq hlt]
    refine ⟨by rw [he]; exact hit, fun j hj => ?_⟩
    exact hno j _ hj (List.getElem?_eq_getElem (by omega))
  unfold fst
  rw [this, if_pos hlt]

theorem fst_none {rs : List Rl} (hno : ∀ (j : Nat) (h : Rl), j < rs.length → rs[j]? = some h → h.alw = false) : fst rs = -1 := by
  unfold fst
  rw [if_neg]
  intro hlt
  have := List.findIdx_getElem (w := hlt)
  have h2 := hno _ _ hlt (List.getElem?_eq_getElem hlt)
  rw [h2] at this
  cases this

theorem fst_cases (rs : List Rl) : fst rs = -1 ∨ ∃ (k : Nat) (g : Rl), fst rs = (k : Int) ∧ rs[k]? = some g := by
  unfold fst
  split
  · rename_i h
    exact .inr ⟨_, _, rfl, List.getElem?_eq_getElem h⟩
  · exact .inl rfl

theorem fst_spec {rs : List Rl} {k : Nat} (h : fst rs = (k : Int)) : (∃ g, rs[k]? = some g ∧ g.alw = true) ∧ ∀ (j : Nat) (g : Rl), j < k → rs[j]? = some g → g.alw = false := by
  unfold fst at h
  split at h
  · rename_i hlt
    have hk : rs.findIdx Rl.alw = k := by omega
    rw [hk] at hlt
    have := (List.findIdx_eq hlt).1 hk
    refine ⟨⟨_, List.getElem?_eq_getElem hlt, this.1⟩, fun j g hj hg => ?_⟩
    have h2 := this.2 j hj
    obtain ⟨_, he⟩ := List.getElem?_eq_some_iff.1 hg
    rw [he] at h2
    exact h2
  · omega

theorem fst_miss {rs : List Rl} (h : fst rs = -1) : ∀ (j : Nat) (g : Rl), rs[j]? = some g → g.alw = false := by
  intro j g hg
  have hjl := (List.getElem?_eq_some_iff.1 hg).1
  cases hq : g.alw with
  | false => rfl
  | true =>
    unfold fst at h
    split at h
    · omega
    · rename_i hn
      exfalso
      apply hn
      rw [List.findIdx_lt_length]
      exact ⟨g, List.mem_of_getElem? hg, hq⟩

theorem fst_take {rs : List Rl} {j k : Nat} (h : fst rs = (j : Int)) (hjk : j < k) : fst (rs.take k) = (j : Int) := by
  obtain ⟨⟨g, hg, hit⟩, hno⟩ := fst_spec h
  refine fst_hit (g := g) (by rw [List.getElem?_take, if_pos hjk]; exact hg) (fun i h hi hig => ?_) hit
  rw [List.getElem?_take, if_pos (by omega)] at hig
  exact hno i h hi hig

theorem fst_drop {rs : List Rl} {j k : Nat} (h : fst rs = (j : Int)) (hjk : k ≤ j) : fst (rs.drop k) = ((j - k : Nat) : Int) := by
  obtain ⟨⟨g, hg, hit⟩, hno⟩ := fst_spec h
  refine fst_hit (g := g) (by rw [List.getElem?_drop, show k + (j - k) = j by omega]; exact hg) (fun i h hi hig => ?_) hit
  rw [List.getElem?_drop] at hig
  exact hno (k + i) h (by omega) hig

theorem fst_drop_none {rs : List Rl} {k : Nat} (h : fst rs = -1) : fst (rs.drop k) = -1 := by
  refine fst_none (fun j g _ hg => ?_)
  rw [List.getElem?_drop] at hg
  exact fst_miss h _ g hg

/-- The verdict's two numbers. -/
def vE (rs : List Rl) (i : Int) : Int := if 0 ≤ i then (rs[i.toNat]?.map Rl.eff).getD 0 else 0
def vL (rs : List Rl) (i : Int) : Int := if 0 ≤ i then (rs[i.toNat]?.map Rl.line).getD 0 else 0
theorem vE_hit {rs : List Rl} {k : Nat} {g : Rl} (h : rs[k]? = some g) : vE rs (k : Int) = g.eff := by
  unfold vE
  rw [if_pos (by omega), Int.toNat_natCast, h]
  rfl
theorem vL_hit {rs : List Rl} {k : Nat} {g : Rl} (h : rs[k]? = some g) : vL rs (k : Int) = g.line := by
  unfold vL
  rw [if_pos (by omega), Int.toNat_natCast, h]
  rfl

theorem firstAlways_any (w : World) (B : Nat) (a : Option Addr) (n c : Nat) (rs : List Rl) (hz : rs.length = n) (hn : n ≤ 1048576) (ha : Rs B w a c rs) :
    Calls Try.prog 22 #[.slice a n c] w fun e w' => e = .returned (.int .i64 (fst rs)) ∧ w = w' := by
  go_enter Try.func22, Try.ntmps22
  go_wp2
  go_loop [3] (fun i => ∃ k : Nat, k ≤ n ∧ i = .int .i64 k ∧ ∀ (j : Nat) (h : Rl), j < k → rs[j]? = some h → h.alw = false) (fun i => n - (intOf i).toNat)
  case atStart => exact ⟨0, Nat.zero_le _, rfl, fun j h hj => absurd hj (Nat.not_lt_zero _)⟩
  case round =>
    obtain ⟨k, hk, rfl, hno⟩ := hrel
    have HNO : Hid (∀ (j : Nat) (h : Rl), j < k → rs[j]? = some h → h.alw = false) := hno
    by_cases hlt : k < n
    · obtain ⟨b1, o1, rfl, hb1, hcs⟩ := ha.addr (by omega)
      obtain ⟨g, hg⟩ : ∃ g, rs[k]? = some g := ⟨_, List.getElem?_eq_getElem (by omega)⟩
      obtain ⟨e0, e1, e2, e3, e4⟩ := hcs k g hg
      have l1 : (k : Int) < (n : Int) := by omega
      have HG : Hid (rs[k]? = some g) := hg
      obtain ⟨d, hd⟩ : ∃ d, g.alw = d := ⟨_, rfl⟩
      have HD : Hid (g.alw = d) := hd
      rw [hd] at e4
      clear e0 e1 e2 e3 hcs hno hg hd
      cases d
      · go_wp2
        go_round
        case rel =>
          refine ⟨k + 1, by omega, by go_num, fun j h hj hjg => ?_⟩
          by_cases hjk : j = k
          · subst hjk
            rw [HG.out] at hjg
            cases hjg
            exact HD.out
          · exact HNO.out j h (by omega) hjg
        case measure => simp [intOf]; omega
      · go_wp2
        go_ret
        exact ⟨by rw [fst_hit HG.out HNO.out HD.out]; rfl, rfl⟩
    · go_wp2
      go_ret
      refine ⟨?_, rfl⟩
      rw [fst_none (fun j h hj => HNO.out j h (by omega))]
      rfl
end Go.Proofs.Qxb6608618a
