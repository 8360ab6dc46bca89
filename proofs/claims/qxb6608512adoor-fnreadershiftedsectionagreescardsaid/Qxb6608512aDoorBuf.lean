import Derived.Test.Qxb6608512aDoorSec
import Derived.BigRegion
namespace Go.Proofs.Qxb6608512aDoor
open Go.RowKit

/-- A store into a block of S. -/
theorem Chg.put {S : Nat → Prop} {w0 w : World} (h : Chg S w0 w) (b j : Nat) (hb : S b) (u : Value) : Chg S w0 (w.setCell ⟨b, j, none⟩ u) := h.trans (Chg.setCell w (p := ⟨b, j, none⟩) hb u)

theorem readErr_any (w : World) (bb : Nat) (v0 v1 v2 v3 v4 v5 v6 : Value) (hb : Blk w bb [v0, v1, v2, v3, v4, v5, v6] 60) :
    Calls Tryd.prog 45 #[.pointer (some ⟨bb, 0, none⟩)] w fun e w' => e = .returned v4 ∧ w' = w.setCell ⟨bb, 4, none⟩ .nilIface := by
  have c4 := hb.cell (j := 4) rfl
  have f4 := hb.free 4
  clear hb
  go_enter Tryd.func45, Tryd.ntmps45
  go_wp2
  go_ret
  exact ⟨rfl, rfl⟩

theorem bufRead_have (w : World) (bb gb : Nat) (r wp : Nat) (v1 v4 v5 v6 : Value) (buf : List Value) (pend : List Int) (g o plen pcap : Nat) (cur : List Value) (t : TypeId)
    (hb : Blk w bb [.slice (some ⟨gb, 0, none⟩) 32768 32768, v1, .int .i64 r, .int .i64 wp, v4, v5, v6] 60) (hbuf : Blk w gb buf 5) (hbl : buf.length = 32768) (hrw : r < wp) (hw : wp ≤ 32768)
    (hpd : (buf.drop r).take (wp - r) = ints pend) (hg : Blk w g cur t) (hfit : o + plen ≤ cur.length) (hp : 0 < plen) (hgb : g ≠ gb) (hgbb : g ≠ bb) (hbg : gb ≠ bb) :
    Calls Tryd.prog 42 #[.pointer (some ⟨bb, 0, none⟩), .slice (some ⟨g, o, none⟩) plen pcap] w fun e w' => ∃ n v5' v6', e = .returned (.tuple #[.int .i64 ((n : Nat) : Int), .nilIface]) ∧ n = min plen (wp - r) ∧
      Blk w' g (splice cur o (ints (pend.take n))) t ∧ Blk w' bb [.slice (some ⟨gb, 0, none⟩) 32768 32768, v1, .int .i64 ((r + n : Nat) : Int), .int .i64 wp, v4, v5', v6'] 60 ∧ Chg (fun k => k = g ∨ k = bb) w w' := by
  have c0 := hb.cell (j := 0) rfl
  have c2 := hb.cell (j := 2) rfl
  have c3 := hb.cell (j := 3) rfl
  have hne : ((plen : Int) == 0) = false := by simp; omega
  have hrw' : ((r : Int) == (wp : Int)) = false := by simp; omega
  have l1 : (r : Int) ≤ (wp : Int) := by omega
  have l2 : (wp : Int) ≤ 32768 := by omega
  have hr3 : ¬ (32768 : Nat) = r := by omega
  obtain ⟨n, hn⟩ : ∃ n, n = min plen (wp - r) := ⟨_, rfl⟩
  obtain ⟨cs, hcs⟩ : ∃ cs, cs = ints (pend.take n) := ⟨_, rfl⟩
  have hpl : pend.length = wp - r := by
    have := congrArg List.length hpd
    rw [ints_length] at this
    simp at this; omega
  have hcl : cs.length = n := by rw [hcs, ints_length]; simp; omega
  have hpi : ∀ j, j < wp - r → buf[r + j]? = some (.int .u8 (pend.getD j 0)) := by
    intro j hj
    have e := congrArg (fun l => l[j]?) hpd
    simp only [ints, List.getElem?_take, List.getElem?_drop, List.getElem?_map, hj, if_true] at e
    rw [e]
    simp [show j < pend.length by omega]
  have hsrc : ∀ j v, cs[j]? = some v → w.cell? ((⟨gb, r, none⟩ : Addr).add j) = some v := by
    intro j v hv
    have hj : j < n := by rw [← hcl]; exact (List.getElem?_eq_some_iff.1 hv).1
    rw [Addr.add_lit, hbuf.cell (hpi j (by omega))]
    rw [hcs] at hv
    simp only [ints, List.getElem?_map, Option.map_eq_some_iff] at hv
    obtain ⟨x, hx, rfl⟩ := hv
    rw [List.getElem?_take, if_pos hj] at hx
    simp [hx]
  obtain ⟨C, hrun, hB1, hC1⟩ := copy_run_row (P := Tryd.prog) w 22 22 3 5 Tryd.underlying22 size5 ⟨gb, r, none⟩ plen pcap (wp - r) (32768 - r) g o cur t hg cs (by rw [hcl, hn]; exact Nat.min_comm _ _) hsrc (by omega) (by rw [hcs]; exact ints_one _)
  rw [hcl] at hrun
  have HN : Hid (n = min plen (wp - r)) := hn
  have hn0 : 0 < n := by omega
  have hn1 : n ≤ wp - r := by omega
  have hb1 := hb.chg hC1 (fun e => hgbb e.symm)
  have hbuf1 := hbuf.chg hC1 (fun e => hgb e.symm)
  rw [hcs] at hB1
  have HB1 : Hid _ := hB1
  have HBB : Hid _ := hb1
  have HC1 : Hid _ := hC1
  obtain ⟨W, hW⟩ : ∃ W, w.setRow g C = W := ⟨_, rfl⟩
  rw [hW] at hrun hb1 hbuf1 HB1 HBB HC1
  have d0 := hb1.cell (j := 0) rfl
  have d2 := hb1.cell (j := 2) rfl
  have d5 := hb1.cell (j := 5) rfl
  have d6 := hb1.cell (j := 6) rfl
  have f2 := hb1.free 2
  have f5 := hb1.free 5
  have f6 := hb1.free 6
  have dx := hbuf1.cell (hpi (n - 1) (by omega))
  rw [show r + (n - 1) = r + n - 1 by omega] at dx
  obtain ⟨y, hy⟩ : ∃ y, pend.getD (n - 1) 0 = y := ⟨_, rfl⟩
  rw [hy] at dx
  clear hn hcs hcl hpl hpi hsrc hb hbuf hg hB1 hb1 hbuf1 hC1 hW hy hpd hfit
  go_enter Tryd.func42, Tryd.ntmps42
  go_wp2
  go_quiet (fail)
  go_wp2
  go_region
  go_wp2
  go_region
  go_wp2
  go_ret2
  have hBg : Blk (W.drewN (nq + 1)) g (splice cur o (ints (pend.take n))) t := HB1.out
  have hBb : Blk (W.drewN (nq + 1)) bb [.slice (some ⟨gb, 0, none⟩) 32768 32768, v1, .int .i64 r, .int .i64 wp, v4, v5, v6] 60 := HBB.out
  have hbb' := ((hBb.set 2 (.int .i64 ((r : Int) + (n : Int)))).set 5 (.int .i64 (wrap64 y))).set 6 (.int .i64 (-1))
  refine ⟨n, .int .i64 (wrap64 y), .int .i64 (-1), rfl, HN.out, ((hBg.other (p := ⟨bb, 2, none⟩) (fun e => hgbb e.symm) _).other (p := ⟨bb, 5, none⟩) (fun e => hgbb e.symm) _).other (p := ⟨bb, 6, none⟩) (fun e => hgbb e.symm) _, ?_, ?_⟩
  · rw [show ((r + n : Nat) : Int) = (r : Int) + (n : Int) from by omega]
    exact hbb'
  · refine Chg.trans (b := W) (HC1.out.mono (fun k _ e => .inl e)) ?_
    exact ((((Chg.drewN (fun k => k = g ∨ k = bb) W (nq + 1)).put bb 2 (Or.inr rfl) _).put bb 5 (Or.inr rfl) _).put bb 6 (Or.inr rfl) _).trans (Chg.drew _ _)
end Go.Proofs.Qxb6608512aDoor
