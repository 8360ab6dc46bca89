import Derived.Test.Qxb6608618aDec2
import Derived.Deep.RegionHeld3
namespace Go.Proofs.Qxb6608618a
open Go.RowKit

theorem info73 : (Try.prog.info? 73).map (fun i => (i.zero, i.size, i.bytes)) = some (some (.agg #[.int .i64 0, .string ByteArray.empty, .int .i64 0, .string ByteArray.empty, .nilFunc]), 5, 56) := by kernel_rfl

/-- The matcher's cell. -/
def mv : Bool → Value | true => .func (.func 35) #[] #[] | false => .nilFunc

/-- Place j of the row holds the rule r. -/
def Fv (cs : List Value) (j : Nat) (r : Rl) : Prop := cs[j * 5]? = some (.int .i64 r.eff) ∧ cs[j * 5 + 1]? = some (.string r.tgt) ∧ cs[j * 5 + 2]? = some (.int .i64 r.line) ∧ cs[j * 5 + 3]? = some (.string r.txt) ∧ cs[j * 5 + 4]? = some (mv r.alw)

/-- One more rule laid. -/
def five (cs : List Value) (k : Nat) (r : Rl) : List Value := ((((cs.set (k * 5) (.int .i64 r.eff)).set (k * 5 + 1) (.string r.tgt)).set (k * 5 + 2) (.int .i64 r.line)).set (k * 5 + 3) (.string r.txt)).set (k * 5 + 4) (mv r.alw)

theorem five_set {n k : Nat} {cs : List Value} {rs : List Rl} {r : Rl} (hl : cs.length = n * 5) (hlt : k < n) (hg : rs[k]? = some r) (hcon : ∀ (j : Nat) (h : Rl), j < k → rs[j]? = some h → Fv cs j h) : ∀ (j : Nat) (h : Rl), j < k + 1 → rs[j]? = some h → Fv (five cs k r) j h := by
  intro j h hj hjg
  by_cases hjk : j = k
  · subst hjk
    rw [hg] at hjg
    cases hjg
    unfold Fv five
    refine ⟨?_, ?_, ?_, ?_, ?_⟩
    · rw [List.getElem?_set_ne (by omega), List.getElem?_set_ne (by omega), List.getElem?_set_ne (by omega), List.getElem?_set_ne (by omega), List.getElem?_set_self (by omega)]
    · rw [List.getElem?_set_ne (by omega), List.getElem?_set_ne (by omega), List.getElem?_set_ne (by omega), List.getElem?_set_self (by simp; omega)]
    · rw [List.getElem?_set_ne (by omega), List.getElem?_set_ne (by omega), List.getElem?_set_self (by simp; omega)]
    · rw [List.getElem?_set_ne (by omega), List.getElem?_set_self (by simp; omega)]
    · rw [List.getElem?_set_self (by simp; omega)]
  · obtain ⟨h0, h1, h2, h3, h4⟩ := hcon j h (by omega) hjg
    unfold Fv five
    refine ⟨?_, ?_, ?_, ?_, ?_⟩ <;>
      rw [List.getElem?_set_ne (by omega), List.getElem?_set_ne (by omega), List.getElem?_set_ne (by omega), List.getElem?_set_ne (by omega), List.getElem?_set_ne (by omega)] <;> assumption

/-- A list of rules at the head of block lb. -/
def Lst (w : World) (lb : Nat) (rs : List Rl) : Prop :=
  ∃ a c cb cs, w.cell? ⟨lb, 0, none⟩ = some (.slice a rs.length c) ∧ (0 < rs.length → a = some ⟨cb, 0, none⟩ ∧ Blk w cb cs 73) ∧ rs.length ≤ c ∧ ∀ (j : Nat) (r : Rl), rs[j]? = some r → Fv cs j r

theorem far5 {B : Nat} {wr : World} (G k : Nat) (v0 v1 v2 v3 v4 : Value) (hB : B ≤ G) : Below B wr (((((wr.setCell ⟨G, k * 5, none⟩ v0).setCell ⟨G, k * 5 + 1, none⟩ v1).setCell ⟨G, k * 5 + 2, none⟩ v2).setCell ⟨G, k * 5 + 3, none⟩ v3).setCell ⟨G, k * 5 + 4, none⟩ v4) :=
  (((((Below.refl B wr).setCell (p := ⟨G, k * 5, none⟩) hB _).setCell (p := ⟨G, k * 5 + 1, none⟩) hB _).setCell (p := ⟨G, k * 5 + 2, none⟩) hB _).setCell (p := ⟨G, k * 5 + 3, none⟩) hB _).setCell (p := ⟨G, k * 5 + 4, none⟩) hB _

theorem blk5 {wr : World} {G k : Nat} {cs : List Value} {r : Rl} {v4 : Value} (h : Blk wr G cs 73) (hv : mv r.alw = v4) : Blk (((((wr.setCell ⟨G, k * 5, none⟩ (.int .i64 r.eff)).setCell ⟨G, k * 5 + 1, none⟩ (.string r.tgt)).setCell ⟨G, k * 5 + 2, none⟩ (.int .i64 r.line)).setCell ⟨G, k * 5 + 3, none⟩ (.string r.txt)).setCell ⟨G, k * 5 + 4, none⟩ v4) G (five cs k r) 73 := by
  subst hv
  exact ((((h.set (k * 5) _).set (k * 5 + 1) _).set (k * 5 + 2) _).set (k * 5 + 3) _).set (k * 5 + 4) _

theorem Blk.drew {w : World} {b : Nat} {cs : List Value} {t : TypeId} (h : Blk w b cs t) : Blk w.drew b cs t := h

theorem keep_far {w wr : World} {b1 q j : Nat} {v : Value} (hb1 : b1 < w.heap.size) : (wr.setCell ⟨w.heap.size, q, none⟩ v).cell? ⟨b1, j, none⟩ = wr.cell? ⟨b1, j, none⟩ := World.cell?_setCell_far _ _ _ _ (by show w.heap.size ≠ b1; omega)

theorem far5b {w wr : World} {k : Nat} {g : Rl} (hs2 : w.heap.size ≤ wr.heap.size) : Below w.heap.size wr ((((((((wr.setCell ⟨w.heap.size, k * 5, none⟩ (.int .i64 g.eff)).setCell ⟨w.heap.size, k * 5 + 1, none⟩ (.string g.tgt)).setCell ⟨w.heap.size, k * 5 + 2, none⟩ (.int .i64 g.line)).setCell ⟨w.heap.size, k * 5 + 3, none⟩ (.string g.txt)).setCell ⟨w.heap.size, k * 5 + 4, none⟩ (.func (.func 35) #[] #[])).alloc (.cells #[.int .i64 g.eff, .string g.tgt, .int .i64 g.line, .string g.txt, .func (.func 35) #[] #[]] 73)).alloc (.cells #[.int .i64 g.eff, .string g.tgt, .int .i64 g.line, .string g.txt, .func (.func 35) #[] #[]] 73)).drew) := by
  have hf := (far5 (B := w.heap.size) (wr := wr) w.heap.size k (.int .i64 g.eff) (.string g.tgt) (.int .i64 g.line) (.string g.txt) (.func (.func 35) #[] #[]) (Nat.le_refl _))
  have hs := hf.size
  exact ((hf.alloc (by omega) _).alloc (by simp; omega) _).drew

theorem blk5b {w wr : World} {k : Nat} {cs : List Value} {g : Rl} (h : Blk wr w.heap.size cs 73) (hd : g.alw = true) : Blk ((((((((wr.setCell ⟨w.heap.size, k * 5, none⟩ (.int .i64 g.eff)).setCell ⟨w.heap.size, k * 5 + 1, none⟩ (.string g.tgt)).setCell ⟨w.heap.size, k * 5 + 2, none⟩ (.int .i64 g.line)).setCell ⟨w.heap.size, k * 5 + 3, none⟩ (.string g.txt)).setCell ⟨w.heap.size, k * 5 + 4, none⟩ (.func (.func 35) #[] #[])).alloc (.cells #[.int .i64 g.eff, .string g.tgt, .int .i64 g.line, .string g.txt, .func (.func 35) #[] #[]] 73)).alloc (.cells #[.int .i64 g.eff, .string g.tgt, .int .i64 g.line, .string g.txt, .func (.func 35) #[] #[]] 73)).drew) w.heap.size (five cs k g) 73 := by
  have h1 := blk5 (k := k) (r := g) (v4 := .func (.func 35) #[] #[]) h (by rw [hd]; rfl)
  have h2 := h1.old (.cells #[.int .i64 g.eff, .string g.tgt, .int .i64 g.line, .string g.txt, .func (.func 35) #[] #[]] 73)
  have h3 := h2.old (.cells #[.int .i64 g.eff, .string g.tgt, .int .i64 g.line, .string g.txt, .func (.func 35) #[] #[]] 73)
  exact h3.drew

theorem keep5 {w wr : World} {b1 o1 k : Nat} {g : Rl} (hb1 : b1 < w.heap.size) (hs2 : w.heap.size ≤ wr.heap.size) (c0 : wr.cell? ⟨b1, o1 + k * 5, none⟩ = some (.int .i64 g.eff)) (c1 : wr.cell? ⟨b1, o1 + k * 5 + 1, none⟩ = some (.string g.tgt)) (c2 : wr.cell? ⟨b1, o1 + k * 5 + 2, none⟩ = some (.int .i64 g.line)) (c3 : wr.cell? ⟨b1, o1 + k * 5 + 3, none⟩ = some (.string g.txt)) :
    ((((((((wr.setCell ⟨w.heap.size, k * 5, none⟩ (.int .i64 g.eff)).setCell ⟨w.heap.size, k * 5 + 1, none⟩ (.string g.tgt)).setCell ⟨w.heap.size, k * 5 + 2, none⟩ (.int .i64 g.line)).setCell ⟨w.heap.size, k * 5 + 3, none⟩ (.string g.txt)).setCell ⟨w.heap.size, k * 5 + 4, none⟩ (.func (.func 35) #[] #[])).alloc (.cells #[.int .i64 g.eff, .string g.tgt, .int .i64 g.line, .string g.txt, .func (.func 35) #[] #[]] 73)).alloc (.cells #[.int .i64 g.eff, .string g.tgt, .int .i64 g.line, .string g.txt, .func (.func 35) #[] #[]] 73)).drew).cell? ⟨b1, o1 + k * 5, none⟩ = some (.int .i64 g.eff) ∧ ((((((((wr.setCell ⟨w.heap.size, k * 5, none⟩ (.int .i64 g.eff)).setCell ⟨w.heap.size, k * 5 + 1, none⟩ (.string g.tgt)).setCell ⟨w.heap.size, k * 5 + 2, none⟩ (.int .i64 g.line)).setCell ⟨w.heap.size, k * 5 + 3, none⟩ (.string g.txt)).setCell ⟨w.heap.size, k * 5 + 4, none⟩ (.func (.func 35) #[] #[])).alloc (.cells #[.int .i64 g.eff, .string g.tgt, .int .i64 g.line, .string g.txt, .func (.func 35) #[] #[]] 73)).alloc (.cells #[.int .i64 g.eff, .string g.tgt, .int .i64 g.line, .string g.txt, .func (.func 35) #[] #[]] 73)).drew).cell? ⟨b1, o1 + k * 5 + 1, none⟩ = some (.string g.tgt) ∧ ((((((((wr.setCell ⟨w.heap.size, k * 5, none⟩ (.int .i64 g.eff)).setCell ⟨w.heap.size, k * 5 + 1, none⟩ (.string g.tgt)).setCell ⟨w.heap.size, k * 5 + 2, none⟩ (.int .i64 g.line)).setCell ⟨w.heap.size, k * 5 + 3, none⟩ (.string g.txt)).setCell ⟨w.heap.size, k * 5 + 4, none⟩ (.func (.func 35) #[] #[])).alloc (.cells #[.int .i64 g.eff, .string g.tgt, .int .i64 g.line, .string g.txt, .func (.func 35) #[] #[]] 73)).alloc (.cells #[.int .i64 g.eff, .string g.tgt, .int .i64 g.line, .string g.txt, .func (.func 35) #[] #[]] 73)).drew).cell? ⟨b1, o1 + k * 5 + 2, none⟩ = some (.int .i64 g.line) ∧ ((((((((wr.setCell ⟨w.heap.size, k * 5, none⟩ (.int .i64 g.eff)).setCell ⟨w.heap.size, k * 5 + 1, none⟩ (.string g.tgt)).setCell ⟨w.heap.size, k * 5 + 2, none⟩ (.int .i64 g.line)).setCell ⟨w.heap.size, k * 5 + 3, none⟩ (.string g.txt)).setCell ⟨w.heap.size, k * 5 + 4, none⟩ (.func (.func 35) #[] #[])).alloc (.cells #[.int .i64 g.eff, .string g.tgt, .int .i64 g.line, .string g.txt, .func (.func 35) #[] #[]] 73)).alloc (.cells #[.int .i64 g.eff, .string g.tgt, .int .i64 g.line, .string g.txt, .func (.func 35) #[] #[]] 73)).drew).cell? ⟨b1, o1 + k * 5 + 3, none⟩ = some (.string g.txt) :=
  ⟨((far5b hs2).cell (p := ⟨b1, o1 + k * 5, none⟩) hb1).trans c0, ((far5b hs2).cell (p := ⟨b1, o1 + k * 5 + 1, none⟩) hb1).trans c1, ((far5b hs2).cell (p := ⟨b1, o1 + k * 5 + 2, none⟩) hb1).trans c2, ((far5b hs2).cell (p := ⟨b1, o1 + k * 5 + 3, none⟩) hb1).trans c3⟩

set_option maxHeartbeats 2000000 in
theorem list_any (w : World) (a : Option Addr) (n c : Nat) (rs : List Rl) (hz : rs.length = n) (hn : n ≤ 1048576) (ha : Rs w.heap.size w a c rs) (hnil : a = none → n = 0) :
    Calls Try.prog 20 #[.slice a n c] w fun e w' => ∃ lb, e = .returned (.pointer (some ⟨lb, 0, none⟩)) ∧ w.heap.size ≤ lb ∧ Lst w' lb rs ∧ Below w.heap.size w w' := by
  have q38 : ∀ (w : World) (a : Option Addr) (n c n' c' : Nat), (binOp .eql 38 (.slice a n c) (.slice none n' c')).run Try.prog w = .ok (.bool a.isNone) w := fun w a n c n' c' => Lib.run_eql_slice_nil w _ _ a n c n' c' Try.underlying38
  obtain ⟨i0, hi, hz0, hz1, hz2⟩ := info_parts info73
  cases a with
  | none =>
    obtain rfl := hnil rfl
    obtain rfl : rs = [] := List.eq_nil_of_length_eq_zero hz
    go_enter Try.func20, Try.ntmps20
    go_wp2
    go_ret
    refine ⟨w.heap.size, rfl, Nat.le_refl _, ⟨none, 0, 0, [], by simp, by simp, by simp, by simp⟩, (Below.refl _ _).alloc (Nat.le_refl _) _⟩
  | some x =>
    clear hnil
    go_enter Try.func20, Try.ntmps20
    go_wp2_with (at_make; refine wpList_make_own w rfl _ _ 67 rfl w.heap.size 73 i0 _ 5 Try.underlying67 hi hz0 hz1 .i64 .i64 _ n rfl rfl rfl (by rw [hz2]; omega) (by unfold maxLen; omega) (Nat.le_refl _) ?_; intro w1 hown hgrow)
    obtain ⟨cur, hcur, hcl, _, _⟩ := blk_of_owns hown
    have hb1 : Below w.heap.size w w1 := (Below.refl _ _).grown hgrow (Nat.le_refl _) (fun k e => by cases e)
    have HST : Hid (Below w.heap.size w w1 ∧ Blk w1 w.heap.size cur 73 ∧ cur.length = n * 5) := ⟨hb1, hcur, hcl⟩
    clear hown hgrow hcur hcl hb1
    go_loopw [3, 4] (fun o i wr => ∃ k : Nat, k ≤ n ∧ i = .int .i64 k ∧ o = .slice (some ⟨w.heap.size, 0, none⟩) k n ∧ Below w.heap.size w wr ∧ ∃ cs, Blk wr w.heap.size cs 73 ∧ cs.length = n * 5 ∧ ∀ (j : Nat) (h : Rl), j < k → rs[j]? = some h → Fv cs j h) (fun _ i _ => n - (intOf i).toNat)
    case atStart => exact ⟨0, Nat.zero_le _, rfl, rfl, HST.out.1, cur, HST.out.2.1, HST.out.2.2, fun j h hj => absurd hj (Nat.not_lt_zero _)⟩
    case round =>
      obtain ⟨k, hk, rfl, rfl, hbl, cs, hC, hcl, hcon⟩ := hrel
      clear HST
      have HBL : Hid (Below w.heap.size w wr) := hbl
      have HC : Hid (Blk wr w.heap.size cs 73) := hC
      have HCL : Hid (cs.length = n * 5) := hcl
      have HCON : Hid (∀ (j : Nat) (h : Rl), j < k → rs[j]? = some h → Fv cs j h) := hcon
      by_cases hlt : k < n
      · obtain ⟨b1, o1, hxe, hb1, hcs⟩ := ha.addr (by omega)
        obtain rfl := Option.some.inj hxe
        obtain ⟨g, hg⟩ : ∃ g, rs[k]? = some g := ⟨_, List.getElem?_eq_getElem (by omega)⟩
        obtain ⟨c0, c1, c2, c3, c4⟩ := (hcs k g hg).below hbl hb1
        have l1 : (k : Int) < (n : Int) := by omega
        have hlt' := hC.lt
        have d0 := hC.cell (j := k * 5) (List.getElem?_eq_getElem (by omega))
        have d1 := hC.cell (j := k * 5 + 1) (List.getElem?_eq_getElem (by omega))
        have d2 := hC.cell (j := k * 5 + 2) (List.getElem?_eq_getElem (by omega))
        have d3 := hC.cell (j := k * 5 + 3) (List.getElem?_eq_getElem (by omega))
        have d4 := hC.cell (j := k * 5 + 4) (List.getElem?_eq_getElem (by omega))
        have f0 := hC.free (k * 5)
        have f1 := hC.free (k * 5 + 1)
        have f2 := hC.free (k * 5 + 2)
        have f3 := hC.free (k * 5 + 3)
        have f4 := hC.free (k * 5 + 4)
        generalize cs[k * 5] = x0 at d0
        generalize cs[k * 5 + 1] = x1 at d1
        generalize cs[k * 5 + 2] = x2 at d2
        generalize cs[k * 5 + 3] = x3 at d3
        generalize cs[k * 5 + 4] = x4 at d4
        have HG : Hid (rs[k]? = some g) := hg
        obtain ⟨d, hd⟩ : ∃ d, g.alw = d := ⟨_, rfl⟩
        have HD : Hid (g.alw = d) := hd
        rw [hd] at c4
        clear hcs hg hC hcl hbl hcon hd
        cases d
        · go_wp2
          go_region
          go_wp2
          go_roundw
          case rel =>
            have hf := (far5 (B := w.heap.size) (wr := wr) w.heap.size k (.int .i64 g.eff) (.string g.tgt) (.int .i64 g.line) (.string g.txt) .nilFunc (Nat.le_refl _))
            have hs := hf.size
            have hs2 := HBL.out.size
            refine ⟨k + 1, by omega, by go_num, rfl, (HBL.out.trans (hf.alloc (by omega) _)).drew, five cs k g, ((blk5 HC.out (by rw [HD.out]; rfl)).old _), by simpa [five] using HCL.out, five_set HCL.out hlt HG.out HCON.out⟩
          case measure => simp [intOf]; omega
        · have n1 := World.new_ne wr ⟨b1, o1 + k * 5, none⟩ c0
          have hs2 : w.heap.size ≤ wr.heap.size := HBL.out.size
          have hne1 : w.heap.size ≠ b1 := by omega
          have hne2 : b1 ≠ w.heap.size := by omega
          go_wp2
          go_region_held3 (fun w' => w'.cell? ⟨b1, o1 + k * 5, none⟩ = some (.int .i64 g.eff) ∧ w'.cell? ⟨b1, o1 + k * 5 + 1, none⟩ = some (.string g.tgt) ∧ w'.cell? ⟨b1, o1 + k * 5 + 2, none⟩ = some (.int .i64 g.line) ∧ w'.cell? ⟨b1, o1 + k * 5 + 3, none⟩ = some (.string g.txt)) (first | (go_keep; done) | exact keep5 hb1 hs2 c0 c1 c2 c3) (first | (go_at_call 32; refine (match_any _ g.eff g.line g.tgt g.txt).mono ?_; rintro e w1 ⟨rfl, rfl⟩))
          go_wp2
          go_roundw
          case rel => exact ⟨k + 1, by omega, by go_num, rfl, HBL.out.trans (far5b hs2), five cs k g, blk5b HC.out HD.out, by simpa [five] using HCL.out, five_set HCL.out hlt HG.out HCON.out⟩
          case measure => simp [intOf]; omega
      · obtain rfl : k = n := by omega
        have h0 := hC.lt
        clear hC hcl hcon hbl
        go_wp2
        go_ret
        refine ⟨wr.heap.size, rfl, HBL.out.size, ⟨_, k, w.heap.size, cs, ?_, fun _ => ⟨rfl, HC.out.old _⟩, by omega, fun j r hj => HCON.out j r (by have := (List.getElem?_eq_some_iff.1 hj).1; omega) hj⟩, HBL.out.alloc HBL.out.size _⟩
        rw [hz]
        simp
end Go.Proofs.Qxb6608618a
