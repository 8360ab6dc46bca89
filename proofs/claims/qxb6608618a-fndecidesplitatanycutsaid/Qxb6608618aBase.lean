import Derived.Test.Qxb6608618aRows
import Derived.WalkKit
import Derived.WalkSpells
import Derived.WalkLawsBesides
import Derived.Deep.QuietTactic
import Derived.BigQuiet
import Derived.BigRegion
namespace Go.Proofs.Qxb6608618a
open Go.RowKit

/-- Are two strings one? -/
def eqS (s n : ByteArray) : Bool := s.toList == n.toList

/-- A group, as its three cells hold it. -/
structure Grp where
  name : ByteArray
  gid : Int
  ma : Option Addr
  ml : Nat
  mc : Nat

/-- The slice that begins at 'a' reads as the groups 'gs', in blocks below B. -/
def Gs (B : Nat) (w : World) (a : Option Addr) (c : Nat) (gs : List Grp) : Prop :=
  gs.length ≤ c ∧ ∀ i g, gs[i]? = some g → ∃ b o, a = some ⟨b, o, none⟩ ∧ b < B ∧ w.cell? ⟨b, o + i * 3, none⟩ = some (.string g.name) ∧ w.cell? ⟨b, o + i * 3 + 1, none⟩ = some (.int .u32 g.gid) ∧ w.cell? ⟨b, o + i * 3 + 2, none⟩ = some (.slice g.ma g.ml g.mc)

theorem Gs.below {B B' : Nat} {w w' : World} {a : Option Addr} {c : Nat} {gs : List Grp} (h : Gs B w a c gs) (hb : Below B' w w') (hB : B ≤ B') : Gs B w' a c gs := by
  refine ⟨h.1, fun i g hi => ?_⟩
  obtain ⟨b, o, h1, h2, h3, h4, h5⟩ := h.2 i g hi
  exact ⟨b, o, h1, h2, (hb.cell (p := ⟨b, o + i * 3, none⟩) (by show b < B'; omega)).trans h3, (hb.cell (p := ⟨b, o + i * 3 + 1, none⟩) (by show b < B'; omega)).trans h4, (hb.cell (p := ⟨b, o + i * 3 + 2, none⟩) (by show b < B'; omega)).trans h5⟩

theorem Gs.mono {B B' : Nat} {w : World} {a : Option Addr} {c : Nat} {gs : List Grp} (h : Gs B w a c gs) (hB : B ≤ B') : Gs B' w a c gs := by
  refine ⟨h.1, fun i g hi => ?_⟩
  obtain ⟨b, o, h1, h2, h3⟩ := h.2 i g hi
  exact ⟨b, o, h1, by omega, h3⟩

theorem Gs.addr {B : Nat} {w : World} {a : Option Addr} {c : Nat} {gs : List Grp} (h : Gs B w a c gs) (h0 : 0 < gs.length) :
    ∃ b o, a = some ⟨b, o, none⟩ ∧ b < B ∧ ∀ i g, gs[i]? = some g → w.cell? ⟨b, o + i * 3, none⟩ = some (.string g.name) ∧ w.cell? ⟨b, o + i * 3 + 1, none⟩ = some (.int .u32 g.gid) ∧ w.cell? ⟨b, o + i * 3 + 2, none⟩ = some (.slice g.ma g.ml g.mc) := by
  obtain ⟨b, o, h1, h2, _⟩ := h.2 0 gs[0] (List.getElem?_eq_getElem h0)
  refine ⟨b, o, h1, h2, fun i g hi => ?_⟩
  obtain ⟨b', o', h1', _, h3'⟩ := h.2 i g hi
  rw [h1] at h1'
  simp only [Option.some.injEq, Addr.mk.injEq, and_true] at h1'
  obtain ⟨rfl, rfl⟩ := h1'
  exact h3'

/-- The place of the first group so named, or -1. -/
def first (gs : List Grp) (nm : ByteArray) : Int := if gs.findIdx (fun g => eqS g.name nm) < gs.length then (gs.findIdx (fun g => eqS g.name nm) : Int) else -1

theorem first_hit {gs : List Grp} {nm : ByteArray} {k : Nat} {g : Grp} (hk : gs[k]? = some g) (hno : ∀ j h, j < k → gs[j]? = some h → eqS h.name nm = false) (hit : eqS g.name nm = true) : first gs nm = (k : Int) := by
  obtain ⟨hlt, he⟩ := List.getElem?_eq_some_iff.1 hk
  have : gs.findIdx (fun g => eqS g.name nm) = k := by
    rw [List.findIdx_eq hlt]
    refine ⟨by rw [he]; exact hit, fun j hj => ?_⟩
    exact hno j _ hj (List.getElem?_eq_getElem (by omega))
  unfold first
  rw [this, if_pos hlt]

theorem first_none {gs : List Grp} {nm : ByteArray} (hno : ∀ j h, j < gs.length → gs[j]? = some h → eqS h.name nm = false) : first gs nm = -1 := by
  unfold first
  rw [if_neg]
  intro hlt
  have := List.findIdx_getElem (w := hlt)
  have h2 := hno _ _ hlt (List.getElem?_eq_getElem hlt)
  rw [h2] at this
  cases this

theorem eqName_any (s nm : ByteArray) (g : Int) (ma : Option Addr) (ml mc : Nat) (nb : Nat) (w : World) (hn : w.cell? ⟨nb, 0, none⟩ = some (.string nm)) (hb : nb < w.heap.size) :
    Calls Try.prog 37 #[.agg #[.string s, .int .u32 g, .slice ma ml mc], .pointer (some ⟨nb, 0, none⟩)] w fun e w' => e = .returned (.bool (eqS s nm)) ∧ Below w.heap.size w w' := by
  go_enter Try.func37, Try.ntmps37
  go_wp2
  go_ret
  exact ⟨rfl, (Below.refl _ _).alloc (Nat.le_refl _) _⟩

theorem index_any (w : World) (B : Nat) (a : Option Addr) (n c : Nat) (gs : List Grp) (nm : ByteArray) (nb : Nat) (hz : gs.length = n) (hn : n ≤ 1048576) (hB : B ≤ w.heap.size) (ha : Gs B w a c gs) (hnm : w.cell? ⟨nb, 0, none⟩ = some (.string nm)) (hnb : nb < w.heap.size) :
    Calls Try.prog 36 #[.slice a n c, .func (.func 37) #[] #[.pointer (some ⟨nb, 0, none⟩)]] w fun e w' => e = .returned (.int .i64 (first gs nm)) ∧ Below w.heap.size w w' := by
  go_enter Try.func36, Try.ntmps36
  go_wp2
  go_loopw [8] (fun i wr => ∃ k : Nat, k ≤ n ∧ i = .int .i64 k ∧ Below w.heap.size w wr ∧ ∀ j h, j < k → gs[j]? = some h → eqS h.name nm = false) (fun i _ => n - (intOf i).toNat)
  case atStart => exact ⟨0, Nat.zero_le _, rfl, Below.refl _ _, fun j h hj => absurd hj (Nat.not_lt_zero _)⟩
  case round =>
    obtain ⟨k, hk, rfl, hbl, hno⟩ := hrel
    have HNO : Hid (∀ j h, j < k → gs[j]? = some h → eqS h.name nm = false) := hno
    by_cases hlt : k < n
    · obtain ⟨b1, o1, rfl, hb1, hcs⟩ := ha.addr (by omega)
      obtain ⟨g, hg⟩ : ∃ g, gs[k]? = some g := ⟨_, List.getElem?_eq_getElem (by omega)⟩
      obtain ⟨e0, e1, e2⟩ := hcs k g hg
      have c0 : wr.cell? ⟨b1, o1 + k * 3, none⟩ = some (.string g.name) := (hbl.cell (p := ⟨b1, o1 + k * 3, none⟩) (by show b1 < _; omega)).trans e0
      have c1 : wr.cell? ⟨b1, o1 + k * 3 + 1, none⟩ = some (.int .u32 g.gid) := (hbl.cell (p := ⟨b1, o1 + k * 3 + 1, none⟩) (by show b1 < _; omega)).trans e1
      have c2 : wr.cell? ⟨b1, o1 + k * 3 + 2, none⟩ = some (.slice g.ma g.ml g.mc) := (hbl.cell (p := ⟨b1, o1 + k * 3 + 2, none⟩) (by show b1 < _; omega)).trans e2
      have cn : wr.cell? ⟨nb, 0, none⟩ = some (.string nm) := (hbl.cell (p := ⟨nb, 0, none⟩) hnb).trans hnm
      have hsz := hbl.size
      have l1 : (k : Int) < (n : Int) := by omega
      have HG : Hid (gs[k]? = some g) := hg
      clear e0 e1 e2 hcs hno hg
      go_wp2_with (go_at_call 37; refine (eqName_any g.name nm g.gid g.ma g.ml g.mc nb wr cn (by omega)).mono ?_; rintro e w1 ⟨rfl, hb2⟩)
      · have hit : eqS g.name nm = true := by assumption
        go_ret
        exact ⟨by rw [first_hit HG.out HNO.out hit]; rfl, hbl.trans (hb2.mono hsz)⟩
      · have miss : eqS g.name nm = false := by first | assumption | simpa using (by assumption : ¬ eqS g.name nm = true)
        go_roundw
        case rel =>
          refine ⟨k + 1, by omega, by go_num, hbl.trans (hb2.mono hsz), fun j h hj hjg => ?_⟩
          by_cases hjk : j = k
          · subst hjk
            rw [HG.out] at hjg
            cases hjg
            exact miss
          · exact HNO.out j h (by omega) hjg
        case measure => simp [intOf]; omega
    · go_wp2_with fail
      go_ret
      refine ⟨?_, hbl⟩
      rw [first_none (fun j h hj => HNO.out j h (by omega))]
      rfl
end Go.Proofs.Qxb6608618a
