import Derived.Test.Qxb6608512aDoorBuf
namespace Go.Proofs.Qxb6608512aDoor
open Go.RowKit

/-- Nothing buffered and an error kept: it is handed out, once. -/
theorem bufRead_err (w : World) (bb : Nat) (r plen pcap T : Nat) (x : Addr) (p : Option Addr) (v0 v1 v5 v6 : Value)
    (hb : Blk w bb [v0, v1, .int .i64 r, .int .i64 r, .iface T (.pointer (some x)), v5, v6] 60) (hp : 0 < plen) :
    Calls Tryd.prog 42 #[.pointer (some ⟨bb, 0, none⟩), .slice p plen pcap] w fun e w' => e = .returned (.tuple #[.int .i64 0, .iface T (.pointer (some x))]) ∧
      Blk w' bb [v0, v1, .int .i64 r, .int .i64 r, .nilIface, v5, v6] 60 ∧ Chg (fun k => k = bb) w w' := by
  have c2 := hb.cell (j := 2) rfl
  have c3 := hb.cell (j := 3) rfl
  have c4 := hb.cell (j := 4) rfl
  have hne : ((plen : Int) == 0) = false := by simp; omega
  go_enter Tryd.func42, Tryd.ntmps42
  go_wp2
  go_quiet (fail)
  go_wp2_with (go_at_call 45; refine (readErr_any _ _ _ _ _ _ _ _ _ (show Blk (w.drewN _) bb _ 60 from hb)).mono ?_; rintro e w' ⟨rfl, rfl⟩)
  go_ret2
  have hbd : Blk (w.drewN nq) bb [v0, v1, .int .i64 r, .int .i64 r, .iface T (.pointer (some x)), v5, v6] 60 := hb
  exact ⟨rfl, hbd.set 4 .nilIface, (Chg.drewN (fun k => k = bb) w nq).put bb 4 rfl _⟩

theorem splice_mid {α : Type} (L : List α) (o : Nat) (cs : List α) (j : Nat) (hj : j < cs.length) (ho : o ≤ L.length) : (splice L o cs)[o + j]? = cs[j]? := by
  unfold splice
  rw [List.getElem?_append_right (by simp; omega), List.length_take, Nat.min_eq_left ho, Nat.add_sub_cancel_left, List.getElem?_append_left hj]

theorem splice_last {w : World} {g o n : Nat} {cur : List Value} {t : TypeId} {zs : List Int} (h : Blk w g (splice cur o (ints (zs.take n))) t) (hn : 0 < n) (hz : n ≤ zs.length) (ho : o ≤ cur.length) :
    ∃ y, w.cell? ⟨g, o + (n - 1), none⟩ = some (.int .u8 y) := by
  have e : (splice cur o (ints (zs.take n)))[o + (n - 1)]? = some (.int .u8 zs[n - 1]) := by
    rw [splice_mid _ _ _ _ (by rw [ints_length]; simp; omega) ho]
    simp [ints, show n - 1 < n by omega, show n - 1 < zs.length by omega]
  exact ⟨_, h.cell e⟩

theorem method_secRead (a : Addr) (w : World) : (method 188 49 (.pointer (some a)) "Read").run Tryd.prog w = .ok (46, .pointer (some a)) w := by kernel_rfl

/-- Nothing buffered, a great read: straight into p. -/
theorem bufRead_big (w : World) (B rb sb bb off lim : Nat) (zs : List Int) (T : Nat) (x : Addr) (r g o plen pcap : Nat) (v5 v6 : Value) (gb : Nat) (cur : List Value) (t : TypeId)
    (hz : zs.length ≤ 1048576) (hr : Src w B rb zs) (hs : Sec w sb rb off lim) (hl : lim ≤ maxLen) (he : w.cell? ⟨0, 0, none⟩ = some (.iface T (.pointer (some x))))
    (hb : Blk w bb [.slice (some ⟨gb, 0, none⟩) 32768 32768, .iface 49 (.pointer (some ⟨sb, 0, none⟩)), .int .i64 r, .int .i64 r, .nilIface, v5, v6] 60)
    (hg : Blk w g cur t) (hfit : o + plen ≤ cur.length) (hg0 : g ≠ 0) (hp : 32768 ≤ plen) (hpc : plen ≤ pcap) (hgs : g ≠ sb) (hgb : g ≠ bb) (hsb : sb ≠ bb) :
    Calls Tryd.prog 42 #[.pointer (some ⟨bb, 0, none⟩), .slice (some ⟨g, o, none⟩) plen pcap] w fun e w' => ∃ n err v5' v6', e = .returned (.tuple #[.int .i64 ((n : Nat) : Int), err]) ∧ n = min plen (rest zs off lim).length ∧
      Blk w' g (splice cur o (ints ((rest zs off lim).take n))) t ∧ Sec w' sb rb (off + n) lim ∧ Blk w' bb [.slice (some ⟨gb, 0, none⟩) 32768 32768, .iface 49 (.pointer (some ⟨sb, 0, none⟩)), .int .i64 r, .int .i64 r, .nilIface, v5', v6'] 60 ∧
      Chg (fun k => k = g ∨ k = sb ∨ k = bb) w w' ∧ ((err = .nilIface ∧ 0 < n) ∨ (err = .iface T (.pointer (some x)) ∧ rest zs (off + n) lim = [])) := by
  have c0 := hb.cell (j := 0) rfl
  have c1 := hb.cell (j := 1) rfl
  have c2 := hb.cell (j := 2) rfl
  have c3 := hb.cell (j := 3) rfl
  have c4 := hb.cell (j := 4) rfl
  have hne : ((plen : Int) == 0) = false := by simp; omega
  have hpi : (32768 : Int) ≤ (plen : Int) := by omega
  have hmt := method_secRead ⟨sb, 0, none⟩
  go_enter Tryd.func42, Tryd.ntmps42
  go_wp2
  go_quiet (fail)
  go_wp2_with fail
  refine (secRead_any (w.drewN nq) B sb rb off lim zs g o plen pcap cur t (.iface T (.pointer (some x))) (by exact hr) (by exact hs) hl (by exact he) (by exact hg) hfit hg0 (by omega) hpc hgs).mono ?_
  rintro e w1 ⟨n, err, rfl, hn, hB1, hS1, hC1, her⟩
  have hb1 : Blk w1 bb [.slice (some ⟨gb, 0, none⟩) 32768 32768, .iface 49 (.pointer (some ⟨sb, 0, none⟩)), .int .i64 r, .int .i64 r, .nilIface, v5, v6] 60 :=
    Blk.chg (show Blk (w.drewN nq) bb _ 60 from hb) hC1 (by simp; omega)
  have HN : Hid (n = min plen (rest zs off lim).length) := hn
  have hnl : n ≤ plen := by omega
  have hnr : n ≤ (rest zs off lim).length := by omega
  have d4 := hb1.cell (j := 4) rfl
  have d5 := hb1.cell (j := 5) rfl
  have d6 := hb1.cell (j := 6) rfl
  have f4 := hb1.free 4
  have f5 := hb1.free 5
  have f6 := hb1.free 6
  have HC : Hid (Chg (fun k => k = g ∨ k = sb ∨ k = bb) w w1) := (Chg.drewN _ w nq).trans (hC1.mono (fun k _ h => by rcases h with h | h; exact .inl h; exact .inr (.inl h)))
  have HB : Hid (Blk w1 bb [.slice (some ⟨gb, 0, none⟩) 32768 32768, .iface 49 (.pointer (some ⟨sb, 0, none⟩)), .int .i64 r, .int .i64 r, .nilIface, v5, v6] 60) := hb1
  have HG : Hid (Blk w1 g (splice cur o (ints ((rest zs off lim).take n))) t) := hB1
  have HS : Hid (Sec w1 sb rb (off + n) lim) := hS1
  have hn20 : n ≤ 1048576 := by have := rest_length zs off lim; omega
  have fin : ∀ W v5' v6', Blk W bb [.slice (some ⟨gb, 0, none⟩) 32768 32768, .iface 49 (.pointer (some ⟨sb, 0, none⟩)), .int .i64 r, .int .i64 r, .nilIface, v5', v6'] 60 → Chg (fun k => k = bb) w1 W →
      Blk W g (splice cur o (ints ((rest zs off lim).take n))) t ∧ Sec W sb rb (off + n) lim ∧ Blk W bb [.slice (some ⟨gb, 0, none⟩) 32768 32768, .iface 49 (.pointer (some ⟨sb, 0, none⟩)), .int .i64 r, .int .i64 r, .nilIface, v5', v6'] 60 ∧ Chg (fun k => k = g ∨ k = sb ∨ k = bb) w W := by
    intro W v5' v6' h1 h2
    obtain ⟨i, j, hsx⟩ := HS.out
    exact ⟨HG.out.chg h2 hgb, ⟨i, j, hsx.chg h2 hsb⟩, h1, HC.out.trans (h2.mono (fun k _ h => .inr (.inr h)))⟩
  have FIN : Hid _ := fin
  by_cases hn0 : n = 0
  · have hev : err = .iface T (.pointer (some x)) ∧ rest zs (off + n) lim = [] := by
      rcases her with ⟨_, h⟩ | h
      · omega
      · exact h
    obtain ⟨rfl, hq⟩ := hev
    have HQ : Hid (rest zs (off + n) lim = []) := hq
    subst hn0
    clear c0 c1 c2 c3 c4 hb hg hr hs he hn hB1 hS1 hC1 hb1 hmt her hq fin
    go_wp2_with (go_at_call 45; refine (readErr_any _ _ _ _ _ _ _ _ _ (show Blk (w1.setCell ⟨bb, 4, none⟩ (.iface T (.pointer (some x)))) bb _ 60 from HB.out.set 4 _)).mono ?_; rintro e w' ⟨rfl, rfl⟩)
    go_ret2
    have h1 := (HB.out.set 4 (.iface T (.pointer (some x)))).set 4 .nilIface
    exact ⟨0, _, _, _, rfl, HN.out, (FIN.out _ _ _ h1 (((Chg.refl (fun k => k = bb) w1).put bb 4 rfl _).put bb 4 rfl _)).1, (FIN.out _ _ _ h1 (((Chg.refl (fun k => k = bb) w1).put bb 4 rfl _).put bb 4 rfl _)).2.1, h1, (FIN.out _ _ _ h1 (((Chg.refl (fun k => k = bb) w1).put bb 4 rfl _).put bb 4 rfl _)).2.2.2, .inr ⟨rfl, HQ.out⟩⟩
  · obtain ⟨y, hy⟩ := splice_last hB1 (by omega) hnr (by omega)
    clear c0 c1 c2 c3 c4 hb hg hr hs he hn hB1 hS1 hC1 hb1 hmt fin
    rcases her with ⟨rfl, hq⟩ | ⟨rfl, hq⟩
    · go_wp2_with (go_at_call 45; refine (readErr_any _ _ _ _ _ _ _ _ _ (show Blk (((w1.setCell ⟨bb, 4, none⟩ .nilIface).setCell ⟨bb, 5, none⟩ _).setCell ⟨bb, 6, none⟩ _) bb _ 60 from ((HB.out.set 4 _).set 5 _).set 6 _)).mono ?_; rintro e w' ⟨rfl, rfl⟩)
      go_ret2
      have h1 := (((HB.out.set 4 .nilIface).set 5 (.int .i64 (wrap64 y))).set 6 (.int .i64 (-1))).set 4 .nilIface
      have h2 := ((((Chg.refl (fun k => k = bb) w1).put bb 4 rfl .nilIface).put bb 5 rfl (.int .i64 (wrap64 y))).put bb 6 rfl (.int .i64 (-1))).put bb 4 rfl .nilIface
      have F := FIN.out _ _ _ h1 h2
      exact ⟨n, _, _, _, rfl, HN.out, F.1, F.2.1, F.2.2.1, F.2.2.2, .inl ⟨rfl, hq⟩⟩
    · have HQ : Hid (rest zs (off + n) lim = []) := hq
      clear hq
      go_wp2_with (go_at_call 45; refine (readErr_any _ _ _ _ _ _ _ _ _ (show Blk (((w1.setCell ⟨bb, 4, none⟩ (.iface T (.pointer (some x)))).setCell ⟨bb, 5, none⟩ _).setCell ⟨bb, 6, none⟩ _) bb _ 60 from ((HB.out.set 4 _).set 5 _).set 6 _)).mono ?_; rintro e w' ⟨rfl, rfl⟩)
      go_ret2
      have h1 := (((HB.out.set 4 (.iface T (.pointer (some x)))).set 5 (.int .i64 (wrap64 y))).set 6 (.int .i64 (-1))).set 4 .nilIface
      have h2 := ((((Chg.refl (fun k => k = bb) w1).put bb 4 rfl (.iface T (.pointer (some x)))).put bb 5 rfl (.int .i64 (wrap64 y))).put bb 6 rfl (.int .i64 (-1))).put bb 4 rfl .nilIface
      have F := FIN.out _ _ _ h1 h2
      exact ⟨n, _, _, _, rfl, HN.out, F.1, F.2.1, F.2.2.1, F.2.2.2, .inr ⟨rfl, HQ.out⟩⟩
end Go.Proofs.Qxb6608512aDoor
