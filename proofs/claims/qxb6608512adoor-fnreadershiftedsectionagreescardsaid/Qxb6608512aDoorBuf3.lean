import Derived.Test.Qxb6608512aDoorBuf2
import Derived.Test.Qxb6608512aDoorSec2
namespace Go.Proofs.Qxb6608512aDoor
open Go.RowKit

theorem src_chg {w w' : World} {S : Nat → Prop} {B rb : Nat} {zs : List Int} (h : Src w B rb zs) (hc : Chg S w w') (h0 : ¬ S rb) (hB : B ≤ w.heap.size) (hS : ∀ k, k < B → ¬ S k) : Src w' B rb zs := by
  obtain ⟨a, c, i, j, hb, hr⟩ := h
  exact ⟨a, c, i, j, hb.chg hc h0, hr.below (hc.below hB hS) (Nat.le_refl _)⟩

theorem blk_drew {w w' : World} {S : Nat → Prop} {b : Nat} {cs : List Value} {t : TypeId} (h : Blk w b cs t) (hc : Chg S w.drew w') (hn : ¬ S b) : Blk w' b cs t := Blk.chg (show Blk w.drew b cs t from h) hc hn

theorem sec_chg {w w' : World} {S : Nat → Prop} {sb rb off lim : Nat} (h : Sec w sb rb off lim) (hc : Chg S w w') (h0 : ¬ S sb) : Sec w' sb rb off lim := by
  obtain ⟨i, j, hb⟩ := h
  exact ⟨i, j, hb.chg hc h0⟩

theorem eof_chg {w w' : World} {S : Nat → Prop} {v : Value} (h : w.cell? ⟨0, 0, none⟩ = some v) (hc : Chg S w w') (h0 : ¬ S 0) : w'.cell? ⟨0, 0, none⟩ = some v :=
  (World.cell?_of_block (hc.block 0 (World.block_lt_of_cell? w _ h) h0)).trans h

set_option maxHeartbeats 1000000 in
theorem bufRead_small_nil (w : World) (B rb sb bb gb off lim : Nat) (zs : List Int) (T : Nat) (x : Addr) (r g o plen pcap : Nat) (v5 v6 : Value) (buf cur : List Value) (t : TypeId)
    (hr : Src w B rb zs) (hs : Sec w sb rb off lim) (hl : lim ≤ maxLen) (he : w.cell? ⟨0, 0, none⟩ = some (.iface T (.pointer (some x))))
    (hb : Blk w bb [.slice (some ⟨gb, 0, none⟩) 32768 32768, .iface 49 (.pointer (some ⟨sb, 0, none⟩)), .int .i64 r, .int .i64 r, .nilIface, v5, v6] 60) (hbuf : Blk w gb buf 5) (hbl : buf.length = 32768)
    (hg : Blk w g cur t) (hfit : o + plen ≤ cur.length) (hp : 0 < plen) (hps : plen < 32768) (hB0 : 0 < B) (hBr : B ≤ rb) (hrs : rb < sb) (hsb : sb < bb) (hbg : bb < gb) (hgg : gb < g) (hgood : Good zs off lim 32768) :
    Calls Tryd.prog 42 #[.pointer (some ⟨bb, 0, none⟩), .slice (some ⟨g, o, none⟩) plen pcap] w fun e w' => ∃ n0, n0 = min 32768 (rest zs off lim).length ∧ 0 < n0 ∧ Sec w' sb rb (off + n0) lim ∧ Chg (fun k => k = g ∨ k = sb ∨ k = bb ∨ k = gb) w w' ∧
      Blk w' gb (splice buf 0 (ints ((rest zs off lim).take n0))) 5 ∧
      ((n0 = 0 ∧ e = .returned (.tuple #[.int .i64 0, .nilIface]) ∧ Blk w' g cur t ∧ Blk w' bb [.slice (some ⟨gb, 0, none⟩) 32768 32768, .iface 49 (.pointer (some ⟨sb, 0, none⟩)), .int .i64 0, .int .i64 0, .nilIface, v5, v6] 60) ∨
       (0 < n0 ∧ ∃ n v5' v6', n = min plen n0 ∧ e = .returned (.tuple #[.int .i64 ((n : Nat) : Int), .nilIface]) ∧ Blk w' g (splice cur o (ints ((rest zs off lim).take n))) t ∧
        Blk w' bb [.slice (some ⟨gb, 0, none⟩) 32768 32768, .iface 49 (.pointer (some ⟨sb, 0, none⟩)), .int .i64 ((n : Nat) : Int), .int .i64 ((n0 : Nat) : Int), .nilIface, v5', v6'] 60)) := by
  have c0 := hb.cell (j := 0) rfl
  have c1 := hb.cell (j := 1) rfl
  have c2 := hb.cell (j := 2) rfl
  have c3 := hb.cell (j := 3) rfl
  have c4 := hb.cell (j := 4) rfl
  have f2 := hb.free 2
  have f3 := hb.free 3
  have hne : ((plen : Int) == 0) = false := by simp; omega
  have hpi : ((32768 : Int) ≤ (plen : Int)) = False := by simp; omega
  have HPS : Hid (plen < 32768) := hps
  have HBL : Hid (buf.length = 32768) := hbl
  have HF0 : Hid (0 + 32768 ≤ buf.length) := by show _ ≤ _; omega
  have hbs := hb.lt
  clear hps hbl
  have hmt := method_secRead ⟨sb, 0, none⟩
  go_enter Tryd.func42, Tryd.ntmps42
  go_wp2
  go_quiet (fail)
  go_wp2
  have hCa : Chg (fun k => k = bb) w (((w.drewN nq).setCell ⟨bb, 2, none⟩ (.int .i64 0)).setCell ⟨bb, 3, none⟩ (.int .i64 0)) := ((Chg.drewN (fun k => k = bb) w nq).put bb 2 rfl _).put bb 3 rfl _
  have hba : Blk (((w.drewN nq).setCell ⟨bb, 2, none⟩ (.int .i64 0)).setCell ⟨bb, 3, none⟩ (.int .i64 0)) bb [.slice (some ⟨gb, 0, none⟩) 32768 32768, .iface 49 (.pointer (some ⟨sb, 0, none⟩)), .int .i64 0, .int .i64 0, .nilIface, v5, v6] 60 :=
    ((show Blk (w.drewN nq) bb _ 60 from hb).set 2 _).set 3 _
  generalize (((w.drewN nq).setCell ⟨bb, 2, none⟩ (.int .i64 0)).setCell ⟨bb, 3, none⟩ (.int .i64 0)) = wa at *
  have hra := src_chg hr hCa (by omega) (by omega) (by omega)
  have hsa := sec_chg hs hCa (by omega)
  have hea := eof_chg he hCa (by omega)
  have hbufa := hbuf.chg hCa (by omega)
  have hga := hg.chg hCa (by omega)
  have HBA : Hid _ := hba
  have HGA : Hid (Blk wa g cur t) := hga
  have HCA : Hid (Chg (fun k => k = bb) w wa) := hCa
  have a0 := hba.cell (j := 0) rfl
  have a1 := hba.cell (j := 1) rfl
  have a4 := hba.cell (j := 4) rfl
  clear c0 c1 c2 c3 c4 f2 f3 hr hs he hb hbuf hg
  go_region_with (go_at_call 46; refine (secRead_nil _ B sb rb off lim zs gb 0 32768 32768 buf 5 (.iface T (.pointer (some x))) (by exact hra) (by exact hsa) hl (by exact hea) (by exact hbufa) HF0.out (by omega) (by omega) (by omega) (by omega) hgood).mono ?_; rintro e w1 ⟨n0, rfl, hn, hB1, hS1, hC1, hlast⟩; have hb1 := blk_drew HBA.out hC1 (by omega); have d4 := hb1.cell (j := 4) rfl; have f4 := hb1.free 4; have HN : Hid _ := hn; have HL : Hid _ := hlast; clear hn hlast)
  all_goals
    have hn20 : n0 ≤ 32768 := by have := HN.out; omega
    have hnr : n0 ≤ (rest zs off lim).length := by have := HN.out; omega
    have hgb1 := (blk_drew HGA.out hC1 (by omega)).other (p := ⟨bb, 4, none⟩) (by show bb ≠ g; omega) .nilIface
    have hbb1 := hb1.set 4 .nilIface
    have hbf1 := hB1.other (p := ⟨bb, 4, none⟩) (by show bb ≠ gb; omega) .nilIface
    have hsc1 : Sec (w1.setCell ⟨bb, 4, none⟩ .nilIface) sb rb (off + n0) lim := sec_chg hS1 ((Chg.refl (fun k => k = bb) w1).put bb 4 rfl .nilIface) (by omega)
    have hCh : Chg (fun k => k = g ∨ k = sb ∨ k = bb ∨ k = gb) w (w1.setCell ⟨bb, 4, none⟩ .nilIface) :=
      (((HCA.out.mono (fun k _ h => .inr (.inr (.inl h)))).trans (Chg.drew _ wa)).trans (hC1.mono (fun k _ h => by rcases h with h | h; exact .inr (.inr (.inr h)); exact .inr (.inl h)))).put bb 4 (.inr (.inr (.inl rfl))) _
    generalize w1.setCell ⟨bb, 4, none⟩ .nilIface = wb at *
    have e3 := hbb1.cell (j := 3) rfl
    have e4 := hbb1.cell (j := 4) rfl
    have g3 := hbb1.free 3
    have HX1 : Hid (Blk wb g cur t) := hgb1
    have HX2 : Hid (Blk wb bb [.slice (some ⟨gb, 0, none⟩) 32768 32768, .iface 49 (.pointer (some ⟨sb, 0, none⟩)), .int .i64 0, .int .i64 0, .nilIface, v5, v6] 60) := hbb1
    have HX3 : Hid (Blk wb gb (splice buf 0 (ints (List.take n0 (rest zs off lim)))) 5) := hbf1
    have HX4 : Hid (Sec wb sb rb (off + n0) lim) := hsc1
    have HX5 : Hid (Chg (fun k => k = g ∨ k = sb ∨ k = bb ∨ k = gb) w wb) := hCh
    clear hgb1 hbb1 hbf1 hsc1 hCh hb1 hB1 hS1 hC1 d4 f4 a0 a1 a4 hra hsa hea hbufa hga HBA HGA HCA hba hCa hmt
    by_cases hn0 : n0 = 0
    · have := HL.out
      omega
    · have hne0 : ((n0 : Int) == 0) = false := by simp; omega
      go_wp2
      have hgc := HX1.out.other (p := ⟨bb, 3, none⟩) (by show bb ≠ g; omega) (.int .i64 n0)
      have hbc : Blk (wb.setCell ⟨bb, 3, none⟩ (.int .i64 n0)) bb [.slice (some ⟨gb, 0, none⟩) 32768 32768, .iface 49 (.pointer (some ⟨sb, 0, none⟩)), .int .i64 0, .int .i64 n0, .nilIface, v5, v6] 60 := HX2.out.set 3 (.int .i64 n0)
      have hfc := HX3.out.other (p := ⟨bb, 3, none⟩) (by show bb ≠ gb; omega) (.int .i64 n0)
      have hsc := sec_chg HX4.out ((Chg.refl (fun k => k = bb) wb).put bb 3 rfl (.int .i64 n0)) (by omega)
      have hCc := HX5.out.put bb 3 (.inr (.inr (.inl rfl))) (.int .i64 n0)
      generalize wb.setCell ⟨bb, 3, none⟩ (.int .i64 n0) = wc at *
      obtain ⟨n, hn⟩ : ∃ n, n = min plen n0 := ⟨_, rfl⟩
      obtain ⟨cs, hcs⟩ : ∃ cs, cs = ints ((rest zs off lim).take n) := ⟨_, rfl⟩
      have hcl : cs.length = n := by rw [hcs, ints_length]; simp; omega
      have hbufl : 0 ≤ buf.length := Nat.zero_le _
      have hpi2 : ∀ j, j < n0 → (splice buf 0 (ints (List.take n0 (rest zs off lim))))[j]? = some (.int .u8 ((rest zs off lim).getD j 0)) := by
        intro j hj
        have := splice_mid buf 0 (ints (List.take n0 (rest zs off lim))) j (by rw [ints_length]; simp; omega) hbufl
        rw [Nat.zero_add] at this
        rw [this]
        simp [ints, hj, show j < (rest zs off lim).length by omega]
      have hsrc : ∀ j v, cs[j]? = some v → wc.cell? ((⟨gb, 0, none⟩ : Addr).add j) = some v := by
        intro j v hv
        have hj : j < n := by rw [← hcl]; exact (List.getElem?_eq_some_iff.1 hv).1
        rw [Addr.add_lit, Nat.zero_add, hfc.cell (hpi2 j (by omega))]
        rw [hcs] at hv
        simp only [ints, List.getElem?_map, Option.map_eq_some_iff] at hv
        obtain ⟨x, hx, rfl⟩ := hv
        rw [List.getElem?_take, if_pos hj] at hx
        simp [hx]
      obtain ⟨C, hrun, hB2, hC2⟩ := copy_run_row (P := Tryd.prog) wc 22 22 3 5 Tryd.underlying22 size5 ⟨gb, 0, none⟩ plen pcap n0 32768 g o cur t hgc cs (by rw [hcl, hn]; exact Nat.min_comm _ _) hsrc (by omega) (by rw [hcs]; exact ints_one _)
      rw [hcl] at hrun
      rw [hcs] at hB2
      have HN2 : Hid (n = min plen n0) := hn
      have hn1 : 0 < n := by omega
      have hn2 : n ≤ n0 := by omega
      have hbd := hbc.chg hC2 (by omega)
      have hfd := hfc.chg hC2 (by omega)
      have hsd := sec_chg hsc hC2 (by omega)
      have hCd := hCc.trans (hC2.mono (fun k _ h => .inl h))
      generalize wc.setRow g C = W at *
      have hrun1 : (Builtin.copy_ #[22, 22] 3 #[.slice (some ⟨g, o, none⟩) plen pcap, .slice (some ⟨gb, 0, none⟩) n0 32768]).run Tryd.prog wc.drew = .ok (.int .i64 n) W.drew := hrun 1
      have b0 := hbc.cell (j := 0) rfl
      have b2 := hbc.cell (j := 2) rfl
      have b3 := hbc.cell (j := 3) rfl
      have d0 := hbd.cell (j := 0) rfl
      have d2 := hbd.cell (j := 2) rfl
      have d5 := hbd.cell (j := 5) rfl
      have d6 := hbd.cell (j := 6) rfl
      have f2 := hbd.free 2
      have f5 := hbd.free 5
      have f6 := hbd.free 6
      obtain ⟨y, hy⟩ : ∃ y, (rest zs off lim).getD (n - 1) 0 = y := ⟨_, rfl⟩
      have dx := hfd.cell (hpi2 (n - 1) (by omega))
      rw [hy] at dx
      have HY1 : Hid (Blk W g (splice cur o (ints ((rest zs off lim).take n))) t) := hB2
      have HY2 : Hid (Blk W bb [.slice (some ⟨gb, 0, none⟩) 32768 32768, .iface 49 (.pointer (some ⟨sb, 0, none⟩)), .int .i64 0, .int .i64 n0, .nilIface, v5, v6] 60) := hbd
      have HY3 : Hid (Blk W gb (splice buf 0 (ints (List.take n0 (rest zs off lim)))) 5) := hfd
      have HY4 : Hid (Sec W sb rb (off + n0) lim) := hsd
      have HY5 : Hid (Chg (fun k => k = g ∨ k = sb ∨ k = bb ∨ k = gb) w W) := hCd
      clear hgc hbc hfc hsc hCc hn hcs hcl hbufl hpi2 hsrc hrun hB2 hC2 hbd hfd hsd hCd hy HX1 HX2 HX3 HX4 HX5 e3 e4 g3 hfit
      go_region
      go_wp2
      go_region
      go_wp2
      go_ret2
      have k1 := ((HY1.out.other (p := ⟨bb, 2, none⟩) (by show bb ≠ g; omega) (.int .i64 n)).other (p := ⟨bb, 5, none⟩) (by show bb ≠ g; omega) (.int .i64 (wrap64 y))).other (p := ⟨bb, 6, none⟩) (by show bb ≠ g; omega) (.int .i64 (-1))
      have k2 := ((HY2.out.set 2 (.int .i64 n)).set 5 (.int .i64 (wrap64 y))).set 6 (.int .i64 (-1))
      have k3 := ((HY3.out.other (p := ⟨bb, 2, none⟩) (by show bb ≠ gb; omega) (.int .i64 n)).other (p := ⟨bb, 5, none⟩) (by show bb ≠ gb; omega) (.int .i64 (wrap64 y))).other (p := ⟨bb, 6, none⟩) (by show bb ≠ gb; omega) (.int .i64 (-1))
      have kc := (((Chg.refl (fun k => k = bb) W).put bb 2 rfl (.int .i64 n)).put bb 5 rfl (.int .i64 (wrap64 y))).put bb 6 rfl (.int .i64 (-1))
      have k4 := sec_chg HY4.out kc (by omega)
      have k5 := HY5.out.trans (kc.mono (fun k _ h => .inr (.inr (.inl h))))
      exact ⟨n0, HN.out, HL.out, k4, (k5.trans (Chg.drew _ _)).trans (Chg.drew _ _), k3, .inr ⟨by omega, n, _, _, HN2.out, rfl, k1, k2⟩⟩

set_option maxHeartbeats 1000000 in
theorem bufRead_small_eof (w : World) (B rb sb bb gb off lim : Nat) (zs : List Int) (T : Nat) (x : Addr) (r g o plen pcap : Nat) (v5 v6 : Value) (buf cur : List Value) (t : TypeId)
    (hr : Src w B rb zs) (hs : Sec w sb rb off lim) (hl : lim ≤ maxLen) (he : w.cell? ⟨0, 0, none⟩ = some (.iface T (.pointer (some x))))
    (hb : Blk w bb [.slice (some ⟨gb, 0, none⟩) 32768 32768, .iface 49 (.pointer (some ⟨sb, 0, none⟩)), .int .i64 r, .int .i64 r, .nilIface, v5, v6] 60) (hbuf : Blk w gb buf 5) (hbl : buf.length = 32768)
    (hg : Blk w g cur t) (hfit : o + plen ≤ cur.length) (hp : 0 < plen) (hps : plen < 32768) (hB0 : 0 < B) (hBr : B ≤ rb) (hrs : rb < sb) (hsb : sb < bb) (hbg : bb < gb) (hgg : gb < g) (hgood : ¬ Good zs off lim 32768) :
    Calls Tryd.prog 42 #[.pointer (some ⟨bb, 0, none⟩), .slice (some ⟨g, o, none⟩) plen pcap] w fun e w' => ∃ n0, n0 = min 32768 (rest zs off lim).length ∧ rest zs (off + n0) lim = [] ∧ Sec w' sb rb (off + n0) lim ∧ Chg (fun k => k = g ∨ k = sb ∨ k = bb ∨ k = gb) w w' ∧
      Blk w' gb (splice buf 0 (ints ((rest zs off lim).take n0))) 5 ∧
      ((n0 = 0 ∧ e = .returned (.tuple #[.int .i64 0, (.iface T (.pointer (some x)))]) ∧ Blk w' g cur t ∧ Blk w' bb [.slice (some ⟨gb, 0, none⟩) 32768 32768, .iface 49 (.pointer (some ⟨sb, 0, none⟩)), .int .i64 0, .int .i64 0, .nilIface, v5, v6] 60) ∨
       (0 < n0 ∧ ∃ n v5' v6', n = min plen n0 ∧ e = .returned (.tuple #[.int .i64 ((n : Nat) : Int), .nilIface]) ∧ Blk w' g (splice cur o (ints ((rest zs off lim).take n))) t ∧
        Blk w' bb [.slice (some ⟨gb, 0, none⟩) 32768 32768, .iface 49 (.pointer (some ⟨sb, 0, none⟩)), .int .i64 ((n : Nat) : Int), .int .i64 ((n0 : Nat) : Int), (.iface T (.pointer (some x))), v5', v6'] 60)) := by
  have c0 := hb.cell (j := 0) rfl
  have c1 := hb.cell (j := 1) rfl
  have c2 := hb.cell (j := 2) rfl
  have c3 := hb.cell (j := 3) rfl
  have c4 := hb.cell (j := 4) rfl
  have f2 := hb.free 2
  have f3 := hb.free 3
  have hne : ((plen : Int) == 0) = false := by simp; omega
  have hpi : ((32768 : Int) ≤ (plen : Int)) = False := by simp; omega
  have HPS : Hid (plen < 32768) := hps
  have HBL : Hid (buf.length = 32768) := hbl
  have HF0 : Hid (0 + 32768 ≤ buf.length) := by show _ ≤ _; omega
  have hbs := hb.lt
  clear hps hbl
  have hmt := method_secRead ⟨sb, 0, none⟩
  go_enter Tryd.func42, Tryd.ntmps42
  go_wp2
  go_quiet (fail)
  go_wp2
  have hCa : Chg (fun k => k = bb) w (((w.drewN nq).setCell ⟨bb, 2, none⟩ (.int .i64 0)).setCell ⟨bb, 3, none⟩ (.int .i64 0)) := ((Chg.drewN (fun k => k = bb) w nq).put bb 2 rfl _).put bb 3 rfl _
  have hba : Blk (((w.drewN nq).setCell ⟨bb, 2, none⟩ (.int .i64 0)).setCell ⟨bb, 3, none⟩ (.int .i64 0)) bb [.slice (some ⟨gb, 0, none⟩) 32768 32768, .iface 49 (.pointer (some ⟨sb, 0, none⟩)), .int .i64 0, .int .i64 0, .nilIface, v5, v6] 60 :=
    ((show Blk (w.drewN nq) bb _ 60 from hb).set 2 _).set 3 _
  generalize (((w.drewN nq).setCell ⟨bb, 2, none⟩ (.int .i64 0)).setCell ⟨bb, 3, none⟩ (.int .i64 0)) = wa at *
  have hra := src_chg hr hCa (by omega) (by omega) (by omega)
  have hsa := sec_chg hs hCa (by omega)
  have hea := eof_chg he hCa (by omega)
  have hbufa := hbuf.chg hCa (by omega)
  have hga := hg.chg hCa (by omega)
  have HBA : Hid _ := hba
  have HGA : Hid (Blk wa g cur t) := hga
  have HCA : Hid (Chg (fun k => k = bb) w wa) := hCa
  have a0 := hba.cell (j := 0) rfl
  have a1 := hba.cell (j := 1) rfl
  have a4 := hba.cell (j := 4) rfl
  clear c0 c1 c2 c3 c4 f2 f3 hr hs he hb hbuf hg
  go_region_with (go_at_call 46; refine (secRead_eof _ B sb rb off lim zs gb 0 32768 32768 buf 5 (.iface T (.pointer (some x))) (by exact hra) (by exact hsa) hl (by exact hea) (by exact hbufa) HF0.out (by omega) (by omega) (by omega) (by omega) hgood).mono ?_; rintro e w1 ⟨n0, rfl, hn, hB1, hS1, hC1, hlast⟩; have hb1 := blk_drew HBA.out hC1 (by omega); have d4 := hb1.cell (j := 4) rfl; have f4 := hb1.free 4; have HN : Hid _ := hn; have HL : Hid _ := hlast; clear hn hlast)
  all_goals
    have hn20 : n0 ≤ 32768 := by have := HN.out; omega
    have hnr : n0 ≤ (rest zs off lim).length := by have := HN.out; omega
    have hgb1 := (blk_drew HGA.out hC1 (by omega)).other (p := ⟨bb, 4, none⟩) (by show bb ≠ g; omega) (.iface T (.pointer (some x)))
    have hbb1 := hb1.set 4 (.iface T (.pointer (some x)))
    have hbf1 := hB1.other (p := ⟨bb, 4, none⟩) (by show bb ≠ gb; omega) (.iface T (.pointer (some x)))
    have hsc1 : Sec (w1.setCell ⟨bb, 4, none⟩ (.iface T (.pointer (some x)))) sb rb (off + n0) lim := sec_chg hS1 ((Chg.refl (fun k => k = bb) w1).put bb 4 rfl (.iface T (.pointer (some x)))) (by omega)
    have hCh : Chg (fun k => k = g ∨ k = sb ∨ k = bb ∨ k = gb) w (w1.setCell ⟨bb, 4, none⟩ (.iface T (.pointer (some x)))) :=
      (((HCA.out.mono (fun k _ h => .inr (.inr (.inl h)))).trans (Chg.drew _ wa)).trans (hC1.mono (fun k _ h => by rcases h with h | h; exact .inr (.inr (.inr h)); exact .inr (.inl h)))).put bb 4 (.inr (.inr (.inl rfl))) _
    generalize w1.setCell ⟨bb, 4, none⟩ (.iface T (.pointer (some x))) = wb at *
    have e3 := hbb1.cell (j := 3) rfl
    have e4 := hbb1.cell (j := 4) rfl
    have g3 := hbb1.free 3
    have HX1 : Hid (Blk wb g cur t) := hgb1
    have HX2 : Hid (Blk wb bb [.slice (some ⟨gb, 0, none⟩) 32768 32768, .iface 49 (.pointer (some ⟨sb, 0, none⟩)), .int .i64 0, .int .i64 0, (.iface T (.pointer (some x))), v5, v6] 60) := hbb1
    have HX3 : Hid (Blk wb gb (splice buf 0 (ints (List.take n0 (rest zs off lim)))) 5) := hbf1
    have HX4 : Hid (Sec wb sb rb (off + n0) lim) := hsc1
    have HX5 : Hid (Chg (fun k => k = g ∨ k = sb ∨ k = bb ∨ k = gb) w wb) := hCh
    clear hgb1 hbb1 hbf1 hsc1 hCh hb1 hB1 hS1 hC1 d4 f4 a0 a1 a4 hra hsa hea hbufa hga HBA HGA HCA hba hCa hmt
    by_cases hn0 : n0 = 0
    · subst hn0
      go_wp2_with (go_at_call 45; refine (readErr_any _ _ _ _ _ _ _ _ _ HX2.out).mono ?_; rintro e w' ⟨rfl, rfl⟩)
      go_ret2
      have kc := (Chg.refl (fun k => k = bb) wb).put bb 4 rfl .nilIface
      exact ⟨0, HN.out, HL.out, sec_chg HX4.out kc (by omega), HX5.out.trans (kc.mono (fun k _ h => .inr (.inr (.inl h)))), HX3.out.other (p := ⟨bb, 4, none⟩) (by show bb ≠ gb; omega) _, .inl ⟨rfl, rfl, HX1.out.other (p := ⟨bb, 4, none⟩) (by show bb ≠ g; omega) _, HX2.out.set 4 .nilIface⟩⟩
    · have hne0 : ((n0 : Int) == 0) = false := by simp; omega
      go_wp2
      have hgc := HX1.out.other (p := ⟨bb, 3, none⟩) (by show bb ≠ g; omega) (.int .i64 n0)
      have hbc : Blk (wb.setCell ⟨bb, 3, none⟩ (.int .i64 n0)) bb [.slice (some ⟨gb, 0, none⟩) 32768 32768, .iface 49 (.pointer (some ⟨sb, 0, none⟩)), .int .i64 0, .int .i64 n0, (.iface T (.pointer (some x))), v5, v6] 60 := HX2.out.set 3 (.int .i64 n0)
      have hfc := HX3.out.other (p := ⟨bb, 3, none⟩) (by show bb ≠ gb; omega) (.int .i64 n0)
      have hsc := sec_chg HX4.out ((Chg.refl (fun k => k = bb) wb).put bb 3 rfl (.int .i64 n0)) (by omega)
      have hCc := HX5.out.put bb 3 (.inr (.inr (.inl rfl))) (.int .i64 n0)
      generalize wb.setCell ⟨bb, 3, none⟩ (.int .i64 n0) = wc at *
      obtain ⟨n, hn⟩ : ∃ n, n = min plen n0 := ⟨_, rfl⟩
      obtain ⟨cs, hcs⟩ : ∃ cs, cs = ints ((rest zs off lim).take n) := ⟨_, rfl⟩
      have hcl : cs.length = n := by rw [hcs, ints_length]; simp; omega
      have hbufl : 0 ≤ buf.length := Nat.zero_le _
      have hpi2 : ∀ j, j < n0 → (splice buf 0 (ints (List.take n0 (rest zs off lim))))[j]? = some (.int .u8 ((rest zs off lim).getD j 0)) := by
        intro j hj
        have := splice_mid buf 0 (ints (List.take n0 (rest zs off lim))) j (by rw [ints_length]; simp; omega) hbufl
        rw [Nat.zero_add] at this
        rw [this]
        simp [ints, hj, show j < (rest zs off lim).length by omega]
      have hsrc : ∀ j v, cs[j]? = some v → wc.cell? ((⟨gb, 0, none⟩ : Addr).add j) = some v := by
        intro j v hv
        have hj : j < n := by rw [← hcl]; exact (List.getElem?_eq_some_iff.1 hv).1
        rw [Addr.add_lit, Nat.zero_add, hfc.cell (hpi2 j (by omega))]
        rw [hcs] at hv
        simp only [ints, List.getElem?_map, Option.map_eq_some_iff] at hv
        obtain ⟨x, hx, rfl⟩ := hv
        rw [List.getElem?_take, if_pos hj] at hx
        simp [hx]
      obtain ⟨C, hrun, hB2, hC2⟩ := copy_run_row (P := Tryd.prog) wc 22 22 3 5 Tryd.underlying22 size5 ⟨gb, 0, none⟩ plen pcap n0 32768 g o cur t hgc cs (by rw [hcl, hn]; exact Nat.min_comm _ _) hsrc (by omega) (by rw [hcs]; exact ints_one _)
      rw [hcl] at hrun
      rw [hcs] at hB2
      have HN2 : Hid (n = min plen n0) := hn
      have hn1 : 0 < n := by omega
      have hn2 : n ≤ n0 := by omega
      have hbd := hbc.chg hC2 (by omega)
      have hfd := hfc.chg hC2 (by omega)
      have hsd := sec_chg hsc hC2 (by omega)
      have hCd := hCc.trans (hC2.mono (fun k _ h => .inl h))
      generalize wc.setRow g C = W at *
      have hrun1 : (Builtin.copy_ #[22, 22] 3 #[.slice (some ⟨g, o, none⟩) plen pcap, .slice (some ⟨gb, 0, none⟩) n0 32768]).run Tryd.prog wc.drew = .ok (.int .i64 n) W.drew := hrun 1
      have b0 := hbc.cell (j := 0) rfl
      have b2 := hbc.cell (j := 2) rfl
      have b3 := hbc.cell (j := 3) rfl
      have d0 := hbd.cell (j := 0) rfl
      have d2 := hbd.cell (j := 2) rfl
      have d5 := hbd.cell (j := 5) rfl
      have d6 := hbd.cell (j := 6) rfl
      have f2 := hbd.free 2
      have f5 := hbd.free 5
      have f6 := hbd.free 6
      obtain ⟨y, hy⟩ : ∃ y, (rest zs off lim).getD (n - 1) 0 = y := ⟨_, rfl⟩
      have dx := hfd.cell (hpi2 (n - 1) (by omega))
      rw [hy] at dx
      have HY1 : Hid (Blk W g (splice cur o (ints ((rest zs off lim).take n))) t) := hB2
      have HY2 : Hid (Blk W bb [.slice (some ⟨gb, 0, none⟩) 32768 32768, .iface 49 (.pointer (some ⟨sb, 0, none⟩)), .int .i64 0, .int .i64 n0, (.iface T (.pointer (some x))), v5, v6] 60) := hbd
      have HY3 : Hid (Blk W gb (splice buf 0 (ints (List.take n0 (rest zs off lim)))) 5) := hfd
      have HY4 : Hid (Sec W sb rb (off + n0) lim) := hsd
      have HY5 : Hid (Chg (fun k => k = g ∨ k = sb ∨ k = bb ∨ k = gb) w W) := hCd
      clear hgc hbc hfc hsc hCc hn hcs hcl hbufl hpi2 hsrc hrun hB2 hC2 hbd hfd hsd hCd hy HX1 HX2 HX3 HX4 HX5 e3 e4 g3 hfit
      go_region
      go_wp2
      go_region
      go_wp2
      go_ret2
      have k1 := ((HY1.out.other (p := ⟨bb, 2, none⟩) (by show bb ≠ g; omega) (.int .i64 n)).other (p := ⟨bb, 5, none⟩) (by show bb ≠ g; omega) (.int .i64 (wrap64 y))).other (p := ⟨bb, 6, none⟩) (by show bb ≠ g; omega) (.int .i64 (-1))
      have k2 := ((HY2.out.set 2 (.int .i64 n)).set 5 (.int .i64 (wrap64 y))).set 6 (.int .i64 (-1))
      have k3 := ((HY3.out.other (p := ⟨bb, 2, none⟩) (by show bb ≠ gb; omega) (.int .i64 n)).other (p := ⟨bb, 5, none⟩) (by show bb ≠ gb; omega) (.int .i64 (wrap64 y))).other (p := ⟨bb, 6, none⟩) (by show bb ≠ gb; omega) (.int .i64 (-1))
      have kc := (((Chg.refl (fun k => k = bb) W).put bb 2 rfl (.int .i64 n)).put bb 5 rfl (.int .i64 (wrap64 y))).put bb 6 rfl (.int .i64 (-1))
      have k4 := sec_chg HY4.out kc (by omega)
      have k5 := HY5.out.trans (kc.mono (fun k _ h => .inr (.inr (.inl h))))
      exact ⟨n0, HN.out, HL.out, k4, (k5.trans (Chg.drew _ _)).trans (Chg.drew _ _), k3, .inr ⟨by omega, n, _, _, HN2.out, rfl, k1, k2⟩⟩
end Go.Proofs.Qxb6608512aDoor
