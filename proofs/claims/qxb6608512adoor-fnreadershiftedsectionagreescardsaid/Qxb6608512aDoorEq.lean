import Derived.Test.Qxb6608512aDoorRead
import Derived.WalkSpells
namespace Go.Proofs.Qxb6608512aDoor
open Go.RowKit

/-- Two slices of one and the same content: zzEq says yes. -/
theorem eq_any (w : World) (B : Nat) (a b : Option Addr) (n c c' : Nat) (zs : List Int) (hz : zs.length = n) (hn : n ≤ 1048576) (ha : Rd B w a c zs) (hb : Rd B w b c' zs) :
    Calls Tryd.prog 12 #[.slice a n c, .slice b n c'] w fun e w' => e = .returned (.bool true) ∧ ∀ B, Below B w w' := by
  by_cases h0 : n = 0
  · subst h0
    go_enter Tryd.func12, Tryd.ntmps12
    go_wp2
    refine wp_loop_rounds 1 ?_
    rw [rounds_succ]
    go_wp2
    go_ret
    exact ⟨rfl, fun B => Below.refl _ _⟩
  · obtain ⟨b1, o1, rfl, hb1, hc1⟩ := ha.cells (by omega)
    obtain ⟨b2, o2, rfl, hb2, hc2⟩ := hb.cells (by omega)
    clear ha hb
    go_enter Tryd.func12, Tryd.ntmps12
    go_wp2
    go_loopw [5] (fun i wr => ∃ k : Nat, k ≤ n ∧ i = .int .i64 k ∧ ∃ q, wr = w.drewN q) (fun i _ => n - (intOf i).toNat)
    case atStart => exact ⟨0, Nat.zero_le _, rfl, 0, rfl⟩
    case round =>
      obtain ⟨k, hk, rfl, q, rfl⟩ := hrel
      by_cases hlt : k < n
      · have e1 := hc1 k (by omega)
        have e2 := hc2 k (by omega)
        have l1 : (k : Int) < (n : Int) := by omega
        go_wp2
        go_quiet (fail)
        go_wp2
        go_roundw
        case rel => exact ⟨k + 1, by omega, by go_num, _, rfl⟩
        case measure => simp [intOf]; omega
      · go_wp2
        go_ret
        exact ⟨rfl, fun B => below_drewN (Below.refl _ _) _⟩

/-- zzClone: nil stays nil; else a new row of the same content. -/
theorem clone_any (w : World) (B : Nat) (a : Option Addr) (n c : Nat) (zs : List Int) (hz : zs.length = n) (hn : n ≤ 1048576) (hB : B ≤ w.heap.size) (ha : Rd B w a c zs) (hnil : a = none → n = 0) :
    Calls Tryd.prog 7 #[.slice a n c] w fun e w' => ∃ a' c', e = .returned (.slice a' n c') ∧ Rd w'.heap.size w' a' c' zs ∧ Below w.heap.size w w' := by
  have q22 : ∀ (w : World) (a : Option Addr) (n c n' c' : Nat), (binOp .eql 22 (.slice a n c) (.slice none n' c')).run Tryd.prog w = .ok (.bool a.isNone) w := fun w a n c n' c' => Lib.run_eql_slice_nil w _ _ a n c n' c' Tryd.underlying22
  cases a with
  | none =>
    obtain rfl := hnil rfl
    have : zs = [] := List.eq_nil_of_length_eq_zero hz
    subst this
    go_enter Tryd.func7, Tryd.ntmps7
    go_wp2
    go_ret
    exact ⟨none, 0, rfl, ⟨by simp, by simp⟩, Below.refl _ _⟩
  | some x =>
    obtain ⟨i0, hi, hz0, hz1, hz2⟩ := info_parts info5
    go_enter Tryd.func7, Tryd.ntmps7
    go_wp2_with (at_make; refine wpList_make_full _ rfl _ _ 22 rfl w.heap.size 5 i0 (.int .u8 0) 1 Tryd.underlying22 hi hz0 hz1 .i64 .i64 _ _ n rfl rfl rfl rfl (by rw [hz2]; omega) (by unfold maxLen; omega) (Nat.le_refl _) ?_; intro w1 hown hgrow)
    have hb1 : Below w.heap.size w w1 := (Below.refl _ _).grown hgrow (Nat.le_refl _) (fun k e => by cases e)
    have hs : w.heap.size < w1.heap.size := (hown.lt w.heap.size rfl).2
    go_loopw [4] (fun i wr => ∃ k : Nat, k ≤ n ∧ i = .int .i64 k ∧ Below w.heap.size w wr ∧ w.heap.size < wr.heap.size ∧ ∃ xs, wr.ownsRow w.heap.size 5 1 (.slice (some ⟨w.heap.size, 0, none⟩) n n) n xs ∧ ∀ j, j < k → xs[j]? = some (.int .u8 (zs.getD j 0))) (fun i _ => n - (intOf i).toNat)
    case atStart => exact ⟨0, Nat.zero_le _, rfl, hb1, hs, _, hown, fun j hj => absurd hj (Nat.not_lt_zero _)⟩
    case round =>
      obtain ⟨k, hk, rfl, hbl, hsz, xs, ho, hx⟩ := hrel
      by_cases hlt : k < n
      · obtain ⟨b1, o1, hxe, hlb, hc1⟩ := ha.cells (by omega)
        obtain rfl := Option.some.inj hxe
        have e1 : wr.cell? ⟨b1, o1 + k, none⟩ = some (.int .u8 (zs.getD k 0)) := (hbl.cell (p := ⟨b1, o1 + k, none⟩) (by show b1 < _; omega)).trans (hc1 k (by omega))
        have l1 : (k : Int) < (n : Int) := by omega
        have hxl : xs.length = n := by simpa using ho.1
        have e2 : wr.cell? ⟨w.heap.size, k, none⟩ = some xs[k] := by rw [ho.cellAt k (by omega)]; simp
        have e3 := ho.frozenAt k
        obtain ⟨y, hy⟩ : ∃ y, y = zs.getD k 0 := ⟨_, rfl⟩
        rw [← hy] at e1
        have HY : Hid (y = zs.getD k 0) := hy
        have R := ho.stored k (.int .u8 y)
        have HR : Hid _ := R
        clear R hown hgrow hb1 hs hc1 hy
        go_wp2
        go_roundw
        case rel =>
          refine ⟨k + 1, by omega, by go_num, hbl.setCell (by exact Nat.le_refl _) _, by simpa using hsz, _, HR.out.1, fun j hj => ?_⟩
          by_cases hjk : j = k
          · subst hjk
            rw [← HY.out, List.getElem?_set_self (by omega)]
          · rw [List.getElem?_set_ne (by omega)]
            exact hx j (by omega)
        case measure => simp [intOf]; omega
      · go_wp2
        go_ret
        refine ⟨_, _, rfl, ⟨by omega, fun j hj => ?_⟩, hbl⟩
        exact ⟨w.heap.size, 0, rfl, hsz, by rw [Nat.zero_add, ho.cellAt j (by omega)]; exact hx j (by omega)⟩

theorem bound3_yes (w : World) (a : Option Addr) (len cap : Nat) (x y z : Int) (h : len ≤ 1048576) :
    Calls Tryd.prog 5 #[.slice a len cap, .int .i64 x, .int .i64 y, .int .i64 z] w fun e w' => e = .returned (.bool true) ∧ w = w' := by
  go_enter Tryd.func5, Tryd.ntmps5
  go_wp2
  go_ret
  exact ⟨rfl, rfl⟩

theorem bound3_no (w : World) (a : Option Addr) (len cap : Nat) (x y z : Int) (h : ¬ len ≤ 1048576) :
    Calls Tryd.prog 5 #[.slice a len cap, .int .i64 x, .int .i64 y, .int .i64 z] w fun e w' => e = .returned (.bool false) ∧ w = w' := by
  have h' : (1048576 : Int) < (len : Int) := by omega
  go_enter Tryd.func5, Tryd.ntmps5
  go_wp2
  go_ret
  exact ⟨rfl, rfl⟩

theorem bound2_yes (w : World) (a : Option Addr) (len cap : Nat) (x y : Int) (h : len ≤ 1048576) :
    Calls Tryd.prog 13 #[.slice a len cap, .int .i64 x, .int .i64 y] w fun e w' => e = .returned (.bool true) ∧ w = w' := by
  go_enter Tryd.func13, Tryd.ntmps13
  go_wp2
  go_ret
  exact ⟨rfl, rfl⟩

theorem bound2_no (w : World) (a : Option Addr) (len cap : Nat) (x y : Int) (h : ¬ len ≤ 1048576) :
    Calls Tryd.prog 13 #[.slice a len cap, .int .i64 x, .int .i64 y] w fun e w' => e = .returned (.bool false) ∧ w = w' := by
  have h' : (1048576 : Int) < (len : Int) := by omega
  go_enter Tryd.func13, Tryd.ntmps13
  go_wp2
  go_ret
  exact ⟨rfl, rfl⟩

/-- What the reading of a slice of bytes gives the walks. -/
theorem rd_of {w : World} {x : Addr} {len cap : Nat} {zs : List Int} (hl : len ≤ cap) (hz : zs.length = cap) (hc : ∀ i, i < zs.length → w.cell? (x.add i) = some (.int .u8 (zs.getD i 0))) : Rd w.heap.size w (some x) cap (zs.take len) := by
  refine ⟨by simp; omega, fun i hi => ?_⟩
  simp only [List.length_take] at hi
  have h0 := hc 0 (by omega)
  obtain ⟨b, o, s⟩ := x
  have hs : s = none := by simpa [Addr.add] using World.cell?_spot h0
  subst hs
  have hi' := hc i (by omega)
  rw [Addr.add_lit] at hi'
  exact ⟨b, o, rfl, World.block_lt_of_cell? w _ hi', by rw [hi']; simp [show i < len by omega]⟩
end Go.Proofs.Qxb6608512aDoor
