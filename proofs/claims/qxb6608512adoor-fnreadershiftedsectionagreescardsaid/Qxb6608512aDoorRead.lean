import Derived.Test.Qxb6608512aDoorRows
import Derived.Test.Qxb6608512aDoorMem
import Derived.Deep.QuietTactic
import Derived.BigQuiet
import Derived.Deep.RegionWith
import Derived.Deep.RegionLaw
namespace Go.Proofs.Qxb6608512aDoor
open Go.RowKit

theorem info5 : (Tryd.prog.info? 5).map (fun i => (i.zero, i.size, i.bytes)) = some (some (.int .u8 0), 1, 1) := by kernel_rfl
theorem size5 : (Tryd.prog.info? 5).map (·.size) = some 1 := by kernel_rfl

/-- A bytes.Reader over 'zs' (it never moves: ReadAt alone is called). -/
def Src (w : World) (B rb : Nat) (zs : List Int) : Prop :=
  ∃ a c i j, Blk w rb [.slice a zs.length c, i, j] 52 ∧ Rd B w a c zs

theorem readAt_past (w : World) (B rb : Nat) (zs : List Int) (p : Option Addr) (plen pcap : Nat) (off : Int) (ev : Value) (hs : Src w B rb zs) (hoff : (zs.length : Int) ≤ off) (he : w.cell? ⟨0, 0, none⟩ = some ev) :
    Calls Tryd.prog 51 #[.pointer (some ⟨rb, 0, none⟩), .slice p plen pcap, .int .i64 off] w fun e w' => e = .returned (.tuple #[.int .i64 0, ev]) ∧ ∃ q, w' = w.drewN q := by
  obtain ⟨a, c, i, j, hb, hr⟩ := hs
  have c0 := hb.cell (j := 0) rfl
  go_enter Tryd.func51, Tryd.ntmps51
  go_wp2
  go_quiet (fail)
  go_wp2
  go_ret2
  exact ⟨rfl, _, rfl⟩

theorem readAt_in (w : World) (B rb : Nat) (zs : List Int) (g o plen pcap : Nat) (cur : List Value) (t : TypeId) (off : Nat) (ev : Value) (hs : Src w B rb zs) (hoff : off < zs.length) (he : w.cell? ⟨0, 0, none⟩ = some ev)
    (hg : Blk w g cur t) (hfit : o + plen ≤ cur.length) (hg0 : g ≠ 0) :
    Calls Tryd.prog 51 #[.pointer (some ⟨rb, 0, none⟩), .slice (some ⟨g, o, none⟩) plen pcap, .int .i64 off] w fun e w' => ∃ n err, e = .returned (.tuple #[.int .i64 ((n : Nat) : Int), err]) ∧ n = min plen (zs.length - off) ∧
      Blk w' g (splice cur o (ints ((zs.drop off).take n))) t ∧ Chg (fun k => k = g) w w' ∧ ((err = .nilIface ∧ n = plen) ∨ (err = ev ∧ n < plen)) := by
  obtain ⟨a, c, i, j, hb, hr⟩ := hs
  have c0 := hb.cell (j := 0) rfl
  have hc := hr.1
  obtain ⟨A, hA⟩ : ∃ A, (if c = off then a else Option.map (fun x => x.add off) a) = A := ⟨_, rfl⟩
  have hsub := hr.dropIf off
  rw [hA] at hsub
  obtain ⟨n, hn⟩ : ∃ n, n = min plen (zs.length - off) := ⟨_, rfl⟩
  obtain ⟨cs, hcs⟩ : ∃ cs, cs = ints ((zs.drop off).take n) := ⟨_, rfl⟩
  have hcl : cs.length = n := by rw [hcs, ints_length]; simp; omega
  have hone : ∀ v ∈ cs, v.oneCell' = true := by rw [hcs]; exact ints_one _
  have hsrc : 0 < cs.length → ∃ ad, A = some ad ∧ ∀ j v, cs[j]? = some v → w.cell? (ad.add j) = some v := by
    intro h0; rw [hcs] at h0 ⊢; exact hsub.src n h0
  have HN : Hid (n = min plen (zs.length - off)) := hn
  have HC : Hid (cs = ints ((zs.drop off).take n)) := hcs
  have hn1 : n ≤ plen := by omega
  have hn2 : n ≤ zs.length - off := by omega
  have hmin : Hid (cs.length = Nat.min (zs.length - off) plen) := by show _ = _; rw [hcl, hn]; exact Nat.min_comm _ _
  obtain ⟨w1, hrun, hB1, hC1⟩ := copy_run (P := Tryd.prog) w 22 22 3 5 Tryd.underlying22 size5 (some ⟨g, o, none⟩) A plen pcap (zs.length - off) (c - off) g o cur t hg cs hmin.out (fun h0 => ⟨rfl, hsrc h0⟩) (by omega) hone
  rw [hcl] at hrun
  have he1 : w1.cell? ⟨0, 0, none⟩ = some ev := (World.cell?_of_block (hC1.block 0 (World.block_lt_of_cell? w _ he) (fun e => hg0 e.symm))).trans he
  clear hn hcs hsub hr hb hmin hsrc hone hcl hg he
  by_cases hlt : n < plen
  · go_enter Tryd.func51, Tryd.ntmps51
    go_wp2
    go_ret2
    exact ⟨n, _, rfl, HN.out, by rw [← HC.out]; exact hB1, hC1, .inr ⟨rfl, hlt⟩⟩
  · have hle : (plen : Int) ≤ (n : Int) := by omega
    go_enter Tryd.func51, Tryd.ntmps51
    go_wp2
    go_ret2
    exact ⟨n, _, rfl, HN.out, by rw [← HC.out]; exact hB1, hC1, .inl ⟨rfl, by omega⟩⟩

theorem splice_nil {α : Type} (L : List α) (o : Nat) : splice L o [] = L := by simp [splice]

theorem readAt_any (w : World) (B rb : Nat) (zs : List Int) (g o plen pcap : Nat) (cur : List Value) (t : TypeId) (off : Nat) (ev : Value) (hs : Src w B rb zs) (he : w.cell? ⟨0, 0, none⟩ = some ev)
    (hg : Blk w g cur t) (hfit : o + plen ≤ cur.length) (hg0 : g ≠ 0) (hp : 0 < plen) :
    Calls Tryd.prog 51 #[.pointer (some ⟨rb, 0, none⟩), .slice (some ⟨g, o, none⟩) plen pcap, .int .i64 off] w fun e w' => ∃ n err, e = .returned (.tuple #[.int .i64 ((n : Nat) : Int), err]) ∧ n = min plen (zs.length - off) ∧
      Blk w' g (splice cur o (ints ((zs.drop off).take n))) t ∧ Chg (fun k => k = g) w w' ∧ ((err = .nilIface ∧ n = plen) ∨ (err = ev ∧ n < plen)) := by
  by_cases h : off < zs.length
  · exact readAt_in w B rb zs g o plen pcap cur t off ev hs h he hg hfit hg0
  · refine (readAt_past w B rb zs _ plen pcap off ev hs (by omega) he).mono ?_
    rintro e w' ⟨rfl, q, rfl⟩
    refine ⟨0, ev, rfl, by omega, ?_, Chg.drewN _ _ _, .inr ⟨rfl, hp⟩⟩
    have : splice cur o (ints ((zs.drop off).take 0)) = cur := by simp [ints, splice_nil]
    rw [this]
    exact hg

/-- A SectionReader at 'off' of the section that ends at 'lim'. -/
def Sec (w : World) (sb rb off lim : Nat) : Prop :=
  ∃ i j, Blk w sb [.iface 34 (.pointer (some ⟨rb, 0, none⟩)), i, .int .i64 off, .int .i64 lim, j] 63

/-- What such a reader still gives. -/
def rest (zs : List Int) (off lim : Nat) : List Int := (zs.drop off).take (lim - off)

theorem secRead_end (w : World) (sb rb off lim : Nat) (p : Option Addr) (plen pcap : Nat) (ev : Value) (hs : Sec w sb rb off lim) (h : lim ≤ off) (he : w.cell? ⟨0, 0, none⟩ = some ev) :
    Calls Tryd.prog 46 #[.pointer (some ⟨sb, 0, none⟩), .slice p plen pcap] w fun e w' => e = .returned (.tuple #[.int .i64 0, ev]) ∧ Chg (fun _ => False) w w' := by
  obtain ⟨i, j, hb⟩ := hs
  have c0 := hb.cell (j := 0) rfl
  have c2 := hb.cell (j := 2) rfl
  have c3 := hb.cell (j := 3) rfl
  have hd : (lim : Int) ≤ (off : Int) := by omega
  clear hb
  go_enter Tryd.func46, Tryd.ntmps46
  go_wp2
  go_quiet (fail)
  go_wp2
  go_quiet (fail)
  go_wp2
  go_ret2
  exact ⟨rfl, (Chg.drewN _ _ _).trans (Chg.drewN _ _ _)⟩

theorem method_readAt (a : Addr) (w : World) : (method 188 34 (.pointer (some a)) "ReadAt").run Tryd.prog w = .ok (51, .pointer (some a)) w := by kernel_rfl

theorem secRead_short (w : World) (B sb rb off lim : Nat) (zs : List Int) (g o plen pcap : Nat) (cur : List Value) (t : TypeId) (ev : Value) (hr : Src w B rb zs) (hs : Sec w sb rb off lim) (h : off < lim) (hl : lim ≤ maxLen) (he : w.cell? ⟨0, 0, none⟩ = some ev)
    (hg : Blk w g cur t) (hfit : o + plen ≤ cur.length) (hg0 : g ≠ 0) (hp : 0 < plen) (hgs : g ≠ sb) (hpl : plen ≤ lim - off) :
    Calls Tryd.prog 46 #[.pointer (some ⟨sb, 0, none⟩), .slice (some ⟨g, o, none⟩) plen pcap] w fun e w' => ∃ n err, e = .returned (.tuple #[.int .i64 ((n : Nat) : Int), err]) ∧ n = min plen (zs.length - off) ∧
      Blk w' g (splice cur o (ints ((zs.drop off).take n))) t ∧ Sec w' sb rb (off + n) lim ∧ Chg (fun k => k = g ∨ k = sb) w w' ∧ ((err = .nilIface ∧ n = plen) ∨ (err = ev ∧ n < plen)) := by
  unfold maxLen at hl
  obtain ⟨i, j, hb⟩ := hs
  have c0 := hb.cell (j := 0) rfl
  have c2 := hb.cell (j := 2) rfl
  have c3 := hb.cell (j := 3) rfl
  have hd : (off : Int) < (lim : Int) := by omega
  have hd2 : (plen : Int) ≤ (lim : Int) - (off : Int) := by omega
  have hmt := method_readAt ⟨rb, 0, none⟩
  go_enter Tryd.func46, Tryd.ntmps46
  go_wp2
  go_quiet (fail)
  go_wp2
  go_quiet (fail)
  go_wp2
  go_region_with (go_at_call 51; refine (readAt_any _ B rb zs g o plen pcap cur t off ev (by exact hr) (by exact he) (by exact hg) hfit hg0 hp).mono ?_; rintro e w1 ⟨n, err, rfl, hn, hB1, hC1, her⟩; have HN : Hid _ := hn; have HE : Hid _ := her; have hnp : n ≤ plen := (by omega); clear hn her)
  all_goals
    have hb1 : Blk w1 sb _ 63 := Blk.chg (show Blk (w.drewN _) sb _ 63 from hb) hC1 (fun e => hgs e.symm)
    have HB : Hid (Blk w1 sb [.iface 34 (.pointer (some ⟨rb, 0, none⟩)), i, .int .i64 off, .int .i64 lim, j] 63) := hb1
    have HB1 : Hid (Blk w1 g (splice cur o (ints (List.take n (List.drop off zs)))) t) := hB1
    have d2 := hb1.cell (j := 2) rfl
    have f2 := hb1.free 2
    have hC : Chg (fun k => k = g ∨ k = sb) w w1 := (Chg.drewN _ w _).trans (hC1.mono (fun k _ e => .inl e))
    clear c0 c2 c3 hb hb1 hB1 hC1 hmt
    go_wp2
    go_ret2
    refine ⟨n, err, rfl, HN.out, HB1.out.other (p := ⟨sb, 2, none⟩) (fun e => hgs e.symm) _, ⟨i, j, ?_⟩, hC.trans (Chg.setCell _ (.inr rfl) _), HE.out⟩
    have := HB.out.set 2 (.int .i64 ((off : Int) + (n : Int)))
    simpa using this
theorem secRead_long (w : World) (B sb rb off lim : Nat) (zs : List Int) (g o plen pcap : Nat) (cur : List Value) (t : TypeId) (ev : Value) (hr : Src w B rb zs) (hs : Sec w sb rb off lim) (h : off < lim) (hl : lim ≤ maxLen) (he : w.cell? ⟨0, 0, none⟩ = some ev)
    (hg : Blk w g cur t) (hfit : o + plen ≤ cur.length) (hg0 : g ≠ 0) (hpc : plen ≤ pcap) (hgs : g ≠ sb) (hpl : lim - off < plen) :
    Calls Tryd.prog 46 #[.pointer (some ⟨sb, 0, none⟩), .slice (some ⟨g, o, none⟩) plen pcap] w fun e w' => ∃ n err, e = .returned (.tuple #[.int .i64 ((n : Nat) : Int), err]) ∧ n = min (lim - off) (zs.length - off) ∧
      Blk w' g (splice cur o (ints ((zs.drop off).take n))) t ∧ Sec w' sb rb (off + n) lim ∧ Chg (fun k => k = g ∨ k = sb) w w' ∧ ((err = .nilIface ∧ n = lim - off) ∨ (err = ev ∧ n < lim - off)) := by
  unfold maxLen at hl
  obtain ⟨i, j, hb⟩ := hs
  have c0 := hb.cell (j := 0) rfl
  have c2 := hb.cell (j := 2) rfl
  have c3 := hb.cell (j := 3) rfl
  have hd : (off : Int) < (lim : Int) := by omega
  have hd2 : (lim : Int) - (off : Int) < (plen : Int) := by omega
  have hmt := method_readAt ⟨rb, 0, none⟩
  go_enter Tryd.func46, Tryd.ntmps46
  go_wp2
  go_quiet (fail)
  go_wp2
  go_quiet (fail)
  go_wp2
  go_region_with (go_at_call 51; refine (readAt_any _ B rb zs g o (lim - off) pcap cur t off ev (by exact hr) (by exact he) (by exact hg) (by omega) hg0 (by omega)).mono ?_; rintro e w1 ⟨n, err, rfl, hn, hB1, hC1, her⟩; have HN : Hid _ := hn; have HE : Hid _ := her; have hnp : n ≤ lim - off := (by omega); clear hn her)
  all_goals
    have hb1 : Blk w1 sb _ 63 := Blk.chg (show Blk (w.drewN _) sb _ 63 from hb) hC1 (fun e => hgs e.symm)
    have HB : Hid (Blk w1 sb [.iface 34 (.pointer (some ⟨rb, 0, none⟩)), i, .int .i64 off, .int .i64 lim, j] 63) := hb1
    have HB1 : Hid (Blk w1 g (splice cur o (ints (List.take n (List.drop off zs)))) t) := hB1
    have d2 := hb1.cell (j := 2) rfl
    have f2 := hb1.free 2
    have hC : Chg (fun k => k = g ∨ k = sb) w w1 := (Chg.drewN _ w _).trans (hC1.mono (fun k _ e => .inl e))
    clear c0 c2 c3 hb hb1 hB1 hC1 hmt
    go_wp2
    go_ret2
    refine ⟨n, err, rfl, HN.out, HB1.out.other (p := ⟨sb, 2, none⟩) (fun e => hgs e.symm) _, ⟨i, j, ?_⟩, hC.trans (Chg.setCell _ (.inr rfl) _), HE.out⟩
    have := HB.out.set 2 (.int .i64 ((off : Int) + (n : Int)))
    simpa using this
end Go.Proofs.Qxb6608512aDoor
