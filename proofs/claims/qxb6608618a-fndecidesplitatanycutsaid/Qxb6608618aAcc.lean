import Derived.Test.Qxb6608618aGid
import Derived.Test.Qxb6608618aMem
import Derived.Deep.DeepCutAuto
namespace Go.Proofs.Qxb6608618a
open Go.RowKit

theorem info79 : (Try.prog.info? 79).map (fun i => (i.zero, i.size, i.bytes)) = some (some (.agg #[.string ByteArray.empty, .int .u32 0, .int .u32 0]), 3, 24) := by kernel_rfl
theorem info80 : (Try.prog.info? 80).map (fun i => (i.zero, i.size, i.bytes)) = some (some (.agg #[.string ByteArray.empty, .int .u32 0, .slice none 0 0]), 3, 48) := by kernel_rfl

/-- A user, as its three cells hold it. -/
structure Usr where
  name : ByteArray
  uid : Int
  gid : Int

def Us (B : Nat) (w : World) (a : Option Addr) (us : List Usr) : Prop :=
  ∀ i g, us[i]? = some g → ∃ b o, a = some ⟨b, o, none⟩ ∧ b < B ∧ w.cell? ⟨b, o + i * 3, none⟩ = some (.string g.name) ∧ w.cell? ⟨b, o + i * 3 + 1, none⟩ = some (.int .u32 g.uid) ∧ w.cell? ⟨b, o + i * 3 + 2, none⟩ = some (.int .u32 g.gid)

theorem Us.below {B B' : Nat} {w w' : World} {a : Option Addr} {us : List Usr} (h : Us B w a us) (hb : Below B' w w') (hB : B ≤ B') : Us B w' a us := by
  intro i g hi
  obtain ⟨b, o, h1, h2, h3, h4, h5⟩ := h i g hi
  exact ⟨b, o, h1, h2, (hb.cell (p := ⟨b, o + i * 3, none⟩) (by show b < B'; omega)).trans h3, (hb.cell (p := ⟨b, o + i * 3 + 1, none⟩) (by show b < B'; omega)).trans h4, (hb.cell (p := ⟨b, o + i * 3 + 2, none⟩) (by show b < B'; omega)).trans h5⟩

theorem Us.addr {B : Nat} {w : World} {a : Option Addr} {us : List Usr} (h : Us B w a us) (h0 : 0 < us.length) :
    ∃ b o, a = some ⟨b, o, none⟩ ∧ b < B ∧ ∀ i g, us[i]? = some g → w.cell? ⟨b, o + i * 3, none⟩ = some (.string g.name) ∧ w.cell? ⟨b, o + i * 3 + 1, none⟩ = some (.int .u32 g.uid) ∧ w.cell? ⟨b, o + i * 3 + 2, none⟩ = some (.int .u32 g.gid) := by
  obtain ⟨b, o, h1, h2, _⟩ := h 0 us[0] (List.getElem?_eq_getElem h0)
  refine ⟨b, o, h1, h2, fun i g hi => ?_⟩
  obtain ⟨b', o', h1', _, h3'⟩ := h i g hi
  rw [h1] at h1'
  simp only [Option.some.injEq, Addr.mk.injEq, and_true] at h1'
  obtain ⟨rfl, rfl⟩ := h1'
  exact h3'

theorem three_set {n k : Nat} {cs : List Value} {gs : List Grp} {g : Grp} (hl : cs.length = n * 3) (hlt : k < n) (hg : gs[k]? = some g)
    (hcon : ∀ j h, j < k → gs[j]? = some h → cs[j * 3]? = some (.string h.name) ∧ cs[j * 3 + 1]? = some (.int .u32 h.gid) ∧ cs[j * 3 + 2]? = some (.slice h.ma h.ml h.mc)) :
    ∀ j h, j < k + 1 → gs[j]? = some h → (((cs.set (k * 3) (.string g.name)).set (k * 3 + 1) (.int .u32 g.gid)).set (k * 3 + 2) (.slice g.ma g.ml g.mc))[j * 3]? = some (.string h.name) ∧
      (((cs.set (k * 3) (.string g.name)).set (k * 3 + 1) (.int .u32 g.gid)).set (k * 3 + 2) (.slice g.ma g.ml g.mc))[j * 3 + 1]? = some (.int .u32 h.gid) ∧ (((cs.set (k * 3) (.string g.name)).set (k * 3 + 1) (.int .u32 g.gid)).set (k * 3 + 2) (.slice g.ma g.ml g.mc))[j * 3 + 2]? = some (.slice h.ma h.ml h.mc) := by
  intro j h hj hjg
  by_cases hjk : j = k
  · subst hjk
    rw [hg] at hjg
    cases hjg
    refine ⟨?_, ?_, ?_⟩
    · rw [List.getElem?_set_ne (by omega), List.getElem?_set_ne (by omega), List.getElem?_set_self (by omega)]
    · rw [List.getElem?_set_ne (by omega), List.getElem?_set_self (by rw [List.length_set]; omega)]
    · rw [List.getElem?_set_self (by rw [List.length_set, List.length_set]; omega)]
  · obtain ⟨h0, h1, h2⟩ := hcon j h (by omega) hjg
    refine ⟨?_, ?_, ?_⟩
    · rw [List.getElem?_set_ne (by omega), List.getElem?_set_ne (by omega), List.getElem?_set_ne (by omega)]; exact h0
    · rw [List.getElem?_set_ne (by omega), List.getElem?_set_ne (by omega), List.getElem?_set_ne (by omega)]; exact h1
    · rw [List.getElem?_set_ne (by omega), List.getElem?_set_ne (by omega), List.getElem?_set_ne (by omega)]; exact h2

set_option maxHeartbeats 1000000 in
theorem accounts_any (w : World) (B : Nat) (u : Option Addr) (ul uc : Nat) (us : List Usr) (a : Option Addr) (n c : Nat) (gs : List Grp) (hul : us.length = ul) (hul2 : ul ≤ 1048576) (hu : Us B w u us) (hz : gs.length = n) (hn : n ≤ 1048576) (hB : B ≤ w.heap.size) (ha : Gs B w a c gs) (hnil : a = none → n = 0) :
    Calls Try.prog 28 #[.slice u ul uc, .slice a n c] w fun e w' => ∃ u' ul' uc' a' c', e = .returned (.agg #[.slice u' ul' uc', .slice a' n c']) ∧ Gs w'.heap.size w' a' c' gs ∧ Below w.heap.size w w' := by
  have q51 : ∀ (w : World) (a : Option Addr) (n c n' c' : Nat), (binOp .neq 51 (.slice a n c) (.slice none n' c')).run Try.prog w = .ok (.bool (!a.isNone)) w := fun w a n c n' c' => run_neq_slice_nil_any w _ _ a n c n' c' Try.underlying51
  have q52 : ∀ (w : World) (a : Option Addr) (n c n' c' : Nat), (binOp .neq 52 (.slice a n c) (.slice none n' c')).run Try.prog w = .ok (.bool (!a.isNone)) w := fun w a n c n' c' => run_neq_slice_nil_any w _ _ a n c n' c' Try.underlying52
  obtain ⟨i0, hi, hz0, hz1, hz2⟩ := info_parts info79
  obtain ⟨j0, ji, jz0, jz1, jz2⟩ := info_parts info80
  have HNIL : Hid (a = none → n = 0) := hnil
  clear hnil
  go_enter Try.func28, Try.ntmps28
  go_upto_if 9 with fail
  go_cut [] (fun wx => Below w.heap.size w wx ∧ Blk wx w.heap.size [.slice none 0 0, .slice none 0 0] 60 ∧ ∃ u' ul' uc', Blk wx (w.heap.size + 1) [.slice u' ul' uc', .slice none 0 0] 60)
  case first =>
    have hR0 : Blk ((w.alloc (.cells #[.slice none 0 0, .slice none 0 0] 60)).alloc (.cells #[.slice none 0 0, .slice none 0 0] 60)) w.heap.size [.slice none 0 0, .slice none 0 0] 60 := (Blk.new w [.slice none 0 0, .slice none 0 0] 60).old _
    have hA0 : Blk ((w.alloc (.cells #[.slice none 0 0, .slice none 0 0] 60)).alloc (.cells #[.slice none 0 0, .slice none 0 0] 60)) (w.heap.size + 1) [.slice none 0 0, .slice none 0 0] 60 := by
      have := Blk.new (w.alloc (.cells #[.slice none 0 0, .slice none 0 0] 60)) [.slice none 0 0, .slice none 0 0] 60
      simpa using this
    have hb0 : Below w.heap.size w ((w.alloc (.cells #[.slice none 0 0, .slice none 0 0] 60)).alloc (.cells #[.slice none 0 0, .slice none 0 0] 60)) := ((Below.refl w.heap.size w).alloc (Nat.le_refl _) _).alloc (by simp) _
    have HR0 : Hid _ := hR0
    have HA0 : Hid _ := hA0
    have HB0 : Hid _ := hb0
    clear hR0 hA0 hb0
    cases u with
    | none =>
      go_wp2_with fail
      go_meet
      exact ⟨HB0.out, HR0.out, _, _, _, HA0.out⟩
    | some x =>
      go_wp2_with (at_make; refine wpList_make_full _ rfl _ _ 57 rfl w.heap.size 79 i0 _ 3 Try.underlying57 hi hz0 hz1 .i64 .i64 _ _ ul rfl rfl rfl rfl (by rw [hz2]; omega) (by unfold maxLen; omega) (by simp; omega) ?_; intro w1 hown hgrow; have hA1 := Blk.chg HA0.out (Chg.grown (S := fun _ => False) hgrow (fun k e => by cases e)) (fun h => h); have c0 := hA1.cell (j := 0) rfl; have f0 := hA1.free 0)
      have hR1 := Blk.chg HR0.out (Chg.grown (S := fun _ => False) hgrow (fun k e => by cases e)) (fun h => h)
      have hb1 : Below w.heap.size w w1 := HB0.out.grown hgrow (by simp; omega) (fun k e => by cases e)
      obtain ⟨cur, hcur, hcl, _, _⟩ := blk_of_owns hown
      simp only [World.size_alloc] at hcur
      have hst : Below w.heap.size w (w1.setCell ⟨w.heap.size + 1, 0, none⟩ (.slice (some ⟨w.heap.size + 1 + 1, 0, none⟩) ul ul)) ∧ Blk (w1.setCell ⟨w.heap.size + 1, 0, none⟩ (.slice (some ⟨w.heap.size + 1 + 1, 0, none⟩) ul ul)) w.heap.size [.slice none 0 0, .slice none 0 0] 60 ∧
          Blk (w1.setCell ⟨w.heap.size + 1, 0, none⟩ (.slice (some ⟨w.heap.size + 1 + 1, 0, none⟩) ul ul)) (w.heap.size + 1) [.slice (some ⟨w.heap.size + 1 + 1, 0, none⟩) ul ul, .slice none 0 0] 60 ∧ ∃ cs, Blk (w1.setCell ⟨w.heap.size + 1, 0, none⟩ (.slice (some ⟨w.heap.size + 1 + 1, 0, none⟩) ul ul)) (w.heap.size + 1 + 1) cs 79 ∧ cs.length = ul * 3 :=
        ⟨hb1.setCell (by show _ ≤ w.heap.size + 1; omega) _, hR1.other (p := ⟨w.heap.size + 1, 0, none⟩) (by show w.heap.size + 1 ≠ w.heap.size; omega) _, hA1.set 0 _, cur, hcur.other (p := ⟨w.heap.size + 1, 0, none⟩) (by show w.heap.size + 1 ≠ w.heap.size + 1 + 1; omega) _, hcl⟩
      have HST : Hid _ := hst
      clear hst hR1 hb1 hA1 hcur hcl c0 f0 hown hgrow HR0 HA0 HB0
      go_loopw [6] (fun i wr => ∃ k : Nat, k ≤ ul ∧ i = .int .i64 k ∧ Below w.heap.size w wr ∧ Blk wr w.heap.size [.slice none 0 0, .slice none 0 0] 60 ∧ Blk wr (w.heap.size + 1) [.slice (some ⟨w.heap.size + 1 + 1, 0, none⟩) ul ul, .slice none 0 0] 60 ∧ ∃ cs, Blk wr (w.heap.size + 1 + 1) cs 79 ∧ cs.length = ul * 3) (fun i _ => ul - (intOf i).toNat)
      case atStart => exact ⟨0, Nat.zero_le _, rfl, HST.out⟩
      case round =>
        obtain ⟨k, hk, rfl, hbl, hR, hA, cs, hC, hcl⟩ := hrel
        clear HST
        have HBL : Hid (Below w.heap.size w wr) := hbl
        have HR : Hid (Blk wr w.heap.size [.slice none 0 0, .slice none 0 0] 60) := hR
        have HA : Hid (Blk wr (w.heap.size + 1) [.slice (some ⟨w.heap.size + 1 + 1, 0, none⟩) ul ul, .slice none 0 0] 60) := hA
        have HC : Hid (Blk wr (w.heap.size + 1 + 1) cs 79) := hC
        have HCL : Hid (cs.length = ul * 3) := hcl
        by_cases hlt : k < ul
        · obtain ⟨b1, o1, hxe, hb1, hcs⟩ := hu.addr (by omega)
          obtain rfl := Option.some.inj hxe
          obtain ⟨g, hg⟩ : ∃ g, us[k]? = some g := ⟨_, List.getElem?_eq_getElem (by omega)⟩
          obtain ⟨e0, e1, e2⟩ := hcs k g hg
          have c0 : wr.cell? ⟨b1, o1 + k * 3, none⟩ = some (.string g.name) := (hbl.cell (p := ⟨b1, o1 + k * 3, none⟩) (by show b1 < _; omega)).trans e0
          have c1 : wr.cell? ⟨b1, o1 + k * 3 + 1, none⟩ = some (.int .u32 g.uid) := (hbl.cell (p := ⟨b1, o1 + k * 3 + 1, none⟩) (by show b1 < _; omega)).trans e1
          have c2 : wr.cell? ⟨b1, o1 + k * 3 + 2, none⟩ = some (.int .u32 g.gid) := (hbl.cell (p := ⟨b1, o1 + k * 3 + 2, none⟩) (by show b1 < _; omega)).trans e2
          have a0 := hA.cell (j := 0) rfl
          have l1 : (k : Int) < (ul : Int) := by omega
          have d0 := hC.cell (j := k * 3) (List.getElem?_eq_getElem (by omega))
          have d1 := hC.cell (j := k * 3 + 1) (List.getElem?_eq_getElem (by omega))
          have d2 := hC.cell (j := k * 3 + 2) (List.getElem?_eq_getElem (by omega))
          have f0 := hC.free (k * 3)
          have f1 := hC.free (k * 3 + 1)
          have f2 := hC.free (k * 3 + 2)
          generalize cs[k * 3] = x0 at d0
          generalize cs[k * 3 + 1] = x1 at d1
          generalize cs[k * 3 + 2] = x2 at d2
          clear e0 e1 e2 hcs hg hR hA hC hcl hbl
          go_wp2
          go_region
          go_wp2
          go_roundw
          case rel =>
            have hb' := ((HBL.out.setCell (p := ⟨w.heap.size + 1 + 1, k * 3, none⟩) (by show _ ≤ w.heap.size + 1 + 1; omega) (.string g.name)).setCell (p := ⟨w.heap.size + 1 + 1, k * 3 + 1, none⟩) (by show _ ≤ w.heap.size + 1 + 1; omega) (.int .u32 g.uid)).setCell (p := ⟨w.heap.size + 1 + 1, k * 3 + 2, none⟩) (by show _ ≤ w.heap.size + 1 + 1; omega) (.int .u32 g.gid)
            have hC' := ((HC.out.set (k * 3) (.string g.name)).set (k * 3 + 1) (.int .u32 g.uid)).set (k * 3 + 2) (.int .u32 g.gid)
            have hR' := ((HR.out.other (p := ⟨w.heap.size + 1 + 1, k * 3, none⟩) (by show w.heap.size + 1 + 1 ≠ w.heap.size; omega) (.string g.name)).other (p := ⟨w.heap.size + 1 + 1, k * 3 + 1, none⟩) (by show w.heap.size + 1 + 1 ≠ w.heap.size; omega) (.int .u32 g.uid)).other (p := ⟨w.heap.size + 1 + 1, k * 3 + 2, none⟩) (by show w.heap.size + 1 + 1 ≠ w.heap.size; omega) (.int .u32 g.gid)
            have hA' := ((HA.out.other (p := ⟨w.heap.size + 1 + 1, k * 3, none⟩) (by show w.heap.size + 1 + 1 ≠ w.heap.size + 1; omega) (.string g.name)).other (p := ⟨w.heap.size + 1 + 1, k * 3 + 1, none⟩) (by show w.heap.size + 1 + 1 ≠ w.heap.size + 1; omega) (.int .u32 g.uid)).other (p := ⟨w.heap.size + 1 + 1, k * 3 + 2, none⟩) (by show w.heap.size + 1 + 1 ≠ w.heap.size + 1; omega) (.int .u32 g.gid)
            exact ⟨k + 1, by omega, by go_num, hb'.drew, hR', hA', _, hC', by simpa using HCL.out⟩
          case measure => simp [intOf]; omega
        · go_wp2
          go_meet
          exact ⟨HBL.out, HR.out, _, _, _, HA.out⟩
  case rest =>
    obtain ⟨hbw, hR, u', ul', uc', hA⟩ := hcut
    have HBW : Hid (Below w.heap.size w wc) := hbw
    have HR : Hid (Blk wc w.heap.size [.slice none 0 0, .slice none 0 0] 60) := hR
    have HA : Hid (Blk wc (w.heap.size + 1) [.slice u' ul' uc', .slice none 0 0] 60) := hA
    have r0 := hR.cell (j := 0) rfl
    have r1 := hR.cell (j := 1) rfl
    have rf0 := hR.free 0
    have rf1 := hR.free 1
    have a0 := hA.cell (j := 0) rfl
    have a1 := hA.cell (j := 1) rfl
    have af1 := hA.free 1
    cases a with
    | none =>
      obtain rfl := HNIL.out rfl
      clear hbw hR hA
      go_wp2_with fail
      refine bodyPost_ret (v := .agg #[.slice u' ul' uc', .slice none 0 0]) (by simp [results, Try.results28, go_sem, r0, r1]) rfl ⟨u', ul', uc', none, 0, rfl, ⟨by omega, fun i g hi => ?_⟩, (HBW.out.setCell (by exact Nat.le_refl _) _).setCell (by exact Nat.le_refl _) _⟩
      have := (List.getElem?_eq_some_iff.1 hi).1
      omega
    | some x =>
      go_wp2_with (at_make; refine wpList_make_full _ rfl _ _ 58 rfl w.heap.size 80 j0 _ 3 Try.underlying58 ji jz0 jz1 .i64 .i64 _ _ n rfl rfl rfl rfl (by rw [jz2]; omega) (by unfold maxLen; omega) (by have := hbw.size; omega) ?_; intro w1 hown hgrow; have hA1 := Blk.chg HA.out (Chg.grown (S := fun _ => False) hgrow (fun k e => by cases e)) (fun h => h); have c1 := hA1.cell (j := 1) rfl; have f1 := hA1.free 1)
      obtain ⟨cur, hcur, hcl, _, _⟩ := blk_of_owns hown
      have hR1 := Blk.chg HR.out (Chg.grown (S := fun _ => False) hgrow (fun k e => by cases e)) (fun h => h)
      have hb1 : Below w.heap.size w w1 := HBW.out.grown hgrow HBW.out.size (fun k e => by cases e)
      have hlA := HA.out.lt
      obtain ⟨G, hG⟩ : ∃ G, wc.heap.size = G := ⟨_, rfl⟩
      rw [hG] at hcur hlA
      simp only [hG]
      have hst : Below w.heap.size w (w1.setCell ⟨w.heap.size + 1, 1, none⟩ (.slice (some ⟨G, 0, none⟩) n n)) ∧ Blk (w1.setCell ⟨w.heap.size + 1, 1, none⟩ (.slice (some ⟨G, 0, none⟩) n n)) w.heap.size [.slice none 0 0, .slice none 0 0] 60 ∧
          Blk (w1.setCell ⟨w.heap.size + 1, 1, none⟩ (.slice (some ⟨G, 0, none⟩) n n)) (w.heap.size + 1) [.slice u' ul' uc', .slice (some ⟨G, 0, none⟩) n n] 60 ∧ Blk (w1.setCell ⟨w.heap.size + 1, 1, none⟩ (.slice (some ⟨G, 0, none⟩) n n)) G cur 80 :=
        ⟨hb1.setCell (by show _ ≤ w.heap.size + 1; omega) _, hR1.other (p := ⟨w.heap.size + 1, 1, none⟩) (by show w.heap.size + 1 ≠ w.heap.size; omega) _, hA1.set 1 _, hcur.other (p := ⟨w.heap.size + 1, 1, none⟩) (by show w.heap.size + 1 ≠ G; omega) _⟩
      have HST : Hid _ := hst
      clear hst hR1 hb1 hA1 hcur c1 f1 hown hgrow HR HA HBW r0 r1 rf0 rf1 a0 a1 af1 hbw hR hA hG
      go_loopw [7] (fun i wr => ∃ k : Nat, k ≤ n ∧ i = .int .i64 k ∧ Below w.heap.size w wr ∧ Blk wr w.heap.size [.slice none 0 0, .slice none 0 0] 60 ∧ Blk wr (w.heap.size + 1) [.slice u' ul' uc', .slice (some ⟨G, 0, none⟩) n n] 60 ∧ ∃ cs, Blk wr G cs 80 ∧ cs.length = n * 3 ∧ ∀ j h, j < k → gs[j]? = some h → cs[j * 3]? = some (.string h.name) ∧ cs[j * 3 + 1]? = some (.int .u32 h.gid) ∧ cs[j * 3 + 2]? = some (.slice h.ma h.ml h.mc)) (fun i _ => n - (intOf i).toNat)
      case atStart => exact ⟨0, Nat.zero_le _, rfl, HST.out.1, HST.out.2.1, HST.out.2.2.1, cur, HST.out.2.2.2, hcl, fun j h hj => absurd hj (Nat.not_lt_zero _)⟩
      case round =>
        obtain ⟨k, hk, rfl, hbl, hR, hA, cs, hC, hcl, hcon⟩ := hrel
        clear HST
        have HBL : Hid (Below w.heap.size w wr) := hbl
        have HR : Hid (Blk wr w.heap.size [.slice none 0 0, .slice none 0 0] 60) := hR
        have HA : Hid (Blk wr (w.heap.size + 1) [.slice u' ul' uc', .slice (some ⟨G, 0, none⟩) n n] 60) := hA
        have HC : Hid (Blk wr G cs 80) := hC
        have HCL : Hid (cs.length = n * 3) := hcl
        have HCON : Hid (∀ j h, j < k → gs[j]? = some h → cs[j * 3]? = some (.string h.name) ∧ cs[j * 3 + 1]? = some (.int .u32 h.gid) ∧ cs[j * 3 + 2]? = some (.slice h.ma h.ml h.mc)) := hcon
        by_cases hlt : k < n
        · obtain ⟨b1, o1, hxe, hb1, hcs⟩ := ha.addr (by omega)
          obtain rfl := Option.some.inj hxe
          obtain ⟨g, hg⟩ : ∃ g, gs[k]? = some g := ⟨_, List.getElem?_eq_getElem (by omega)⟩
          obtain ⟨e0, e1, e2⟩ := hcs k g hg
          have c0 : wr.cell? ⟨b1, o1 + k * 3, none⟩ = some (.string g.name) := (hbl.cell (p := ⟨b1, o1 + k * 3, none⟩) (by show b1 < _; omega)).trans e0
          have c1 : wr.cell? ⟨b1, o1 + k * 3 + 1, none⟩ = some (.int .u32 g.gid) := (hbl.cell (p := ⟨b1, o1 + k * 3 + 1, none⟩) (by show b1 < _; omega)).trans e1
          have c2 : wr.cell? ⟨b1, o1 + k * 3 + 2, none⟩ = some (.slice g.ma g.ml g.mc) := (hbl.cell (p := ⟨b1, o1 + k * 3 + 2, none⟩) (by show b1 < _; omega)).trans e2
          have a0 := hA.cell (j := 1) rfl
          have l1 : (k : Int) < (n : Int) := by omega
          have d0 := hC.cell (j := k * 3) (List.getElem?_eq_getElem (by omega))
          have d1 := hC.cell (j := k * 3 + 1) (List.getElem?_eq_getElem (by omega))
          have d2 := hC.cell (j := k * 3 + 2) (List.getElem?_eq_getElem (by omega))
          have f0 := hC.free (k * 3)
          have f1 := hC.free (k * 3 + 1)
          have f2 := hC.free (k * 3 + 2)
          generalize cs[k * 3] = x0 at d0
          generalize cs[k * 3 + 1] = x1 at d1
          generalize cs[k * 3 + 2] = x2 at d2
          have HG : Hid (gs[k]? = some g) := hg
          clear e0 e1 e2 hcs hg hR hA hC hcl hbl hcon
          go_wp2
          go_region
          go_wp2
          go_roundw
          case rel =>
            have hb' := ((HBL.out.setCell (p := ⟨G, k * 3, none⟩) (by show _ ≤ G; omega) (.string g.name)).setCell (p := ⟨G, k * 3 + 1, none⟩) (by show _ ≤ G; omega) (.int .u32 g.gid)).setCell (p := ⟨G, k * 3 + 2, none⟩) (by show _ ≤ G; omega) (.slice g.ma g.ml g.mc)
            have hC' := ((HC.out.set (k * 3) (.string g.name)).set (k * 3 + 1) (.int .u32 g.gid)).set (k * 3 + 2) (.slice g.ma g.ml g.mc)
            have hR' := ((HR.out.other (p := ⟨G, k * 3, none⟩) (by show G ≠ w.heap.size; omega) (.string g.name)).other (p := ⟨G, k * 3 + 1, none⟩) (by show G ≠ w.heap.size; omega) (.int .u32 g.gid)).other (p := ⟨G, k * 3 + 2, none⟩) (by show G ≠ w.heap.size; omega) (.slice g.ma g.ml g.mc)
            have hA' := ((HA.out.other (p := ⟨G, k * 3, none⟩) (by show G ≠ w.heap.size + 1; omega) (.string g.name)).other (p := ⟨G, k * 3 + 1, none⟩) (by show G ≠ w.heap.size + 1; omega) (.int .u32 g.gid)).other (p := ⟨G, k * 3 + 2, none⟩) (by show G ≠ w.heap.size + 1; omega) (.slice g.ma g.ml g.mc)
            refine ⟨k + 1, by omega, by go_num, hb'.drew, hR', hA', _, hC', by simpa using HCL.out, fun j h hj hjg => ?_⟩
            exact three_set HCL.out hlt HG.out HCON.out j h hj hjg
          case measure => simp [intOf]; omega
        · have r0 := hR.cell (j := 0) rfl
          have r1 := hR.cell (j := 1) rfl
          have rf0 := hR.free 0
          have rf1 := hR.free 1
          have a0 := hA.cell (j := 0) rfl
          have a1 := hA.cell (j := 1) rfl
          clear hR hA hC hcl hcon hbl
          go_wp2
          refine bodyPost_ret (v := .agg #[.slice u' ul' uc', .slice (some ⟨G, 0, none⟩) n n]) (by simp [results, Try.results28, go_sem, r0, r1]) rfl ⟨u', ul', uc', some ⟨G, 0, none⟩, n, rfl, ⟨by omega, fun i g hi => ?_⟩, (HBL.out.setCell (by exact Nat.le_refl _) _).setCell (by exact Nat.le_refl _) _⟩
          have hin := (List.getElem?_eq_some_iff.1 hi).1
          obtain ⟨t0, t1, t2⟩ := HCON.out i g (by omega) hi
          have hC' := (HC.out.other (p := ⟨w.heap.size, 0, none⟩) (by show w.heap.size ≠ G; omega) (.slice u' ul' uc')).other (p := ⟨w.heap.size, 1, none⟩) (by show w.heap.size ≠ G; omega) (.slice (some ⟨G, 0, none⟩) n n)
          exact ⟨G, 0, rfl, hC'.lt, by rw [Nat.zero_add]; exact hC'.cell t0, by rw [Nat.zero_add]; exact hC'.cell t1, by rw [Nat.zero_add]; exact hC'.cell t2⟩
end Go.Proofs.Qxb6608618a
