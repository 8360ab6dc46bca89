import Derived.Test.Qxb6608512aDoorAll
namespace Go.Proofs.Qxb6608512aDoor
open Go.RowKit

theorem sec_new (w : World) (rb : Nat) (off n : Int) (h0 : 0 ≤ off) (h1 : 0 ≤ n) (h2 : n + off ≤ 9223372036854775807) :
    Calls Tryd.prog 22 #[.iface 34 (.pointer (some ⟨rb, 0, none⟩)), .int .i64 off, .int .i64 n] w fun e w' => e = .returned (.pointer (some ⟨w.heap.size, 0, none⟩)) ∧ w' = w.alloc (.cells #[.iface 34 (.pointer (some ⟨rb, 0, none⟩)), .int .i64 off, .int .i64 off, .int .i64 (n + off), .int .i64 n] 63) := by
  go_enter Tryd.func22, Tryd.ntmps22
  go_wp2
  go_ret
  exact ⟨rfl, rfl⟩

theorem rd_new (w : World) (a : Option Addr) (n c : Nat) :
    Calls Tryd.prog 15 #[.slice a n c] w fun e w' => e = .returned (.pointer (some ⟨w.heap.size, 0, none⟩)) ∧ w' = w.alloc (.cells #[.slice a n c, .int .i64 0, .int .i64 (-1)] 52) := by
  go_enter Tryd.func15, Tryd.ntmps15
  go_wp2
  go_ret
  exact ⟨rfl, rfl⟩

theorem reset_any (w : World) (bb gb n : Nat) (sb : Nat) (v0 v1 v2 v3 v4 v5 v6 : Value) (hb : Blk w bb [v0, v1, v2, v3, v4, v5, v6] 60) :
    Calls Tryd.prog 23 #[.pointer (some ⟨bb, 0, none⟩), .slice (some ⟨gb, 0, none⟩) n n, .iface 49 (.pointer (some ⟨sb, 0, none⟩))] w fun e w' => e = .returned (.tuple #[]) ∧
      Blk w' bb [.slice (some ⟨gb, 0, none⟩) n n, .iface 49 (.pointer (some ⟨sb, 0, none⟩)), .int .i64 0, .int .i64 0, .nilIface, .int .i64 (-1), .int .i64 (-1)] 60 ∧ Chg (fun k => k = bb) w w' := by
  have c0 := hb.cell (j := 0) rfl
  have c1 := hb.cell (j := 1) rfl
  have c2 := hb.cell (j := 2) rfl
  have c3 := hb.cell (j := 3) rfl
  have c4 := hb.cell (j := 4) rfl
  have c5 := hb.cell (j := 5) rfl
  have c6 := hb.cell (j := 6) rfl
  have f0 := hb.free 0
  have f1 := hb.free 1
  have f2 := hb.free 2
  have f3 := hb.free 3
  have f4 := hb.free 4
  have f5 := hb.free 5
  have f6 := hb.free 6
  have HB : Hid (Blk w bb [v0, v1, v2, v3, v4, v5, v6] 60) := hb
  clear hb
  go_enter Tryd.func23, Tryd.ntmps23
  go_wp2
  go_end0
  refine ⟨rfl, ?_, ?_⟩
  · exact ((((((HB.out.set 0 _).set 1 _).set 2 _).set 3 _).set 4 _).set 5 _).set 6 _
  · exact ((((((((Chg.refl (fun k => k = bb) w).put bb 0 rfl _).put bb 1 rfl _).put bb 2 rfl _).put bb 3 rfl _).put bb 4 rfl _).put bb 5 rfl _).put bb 6 rfl _)

theorem no_reader (sb : Nat) (w : World) : (Instr.typeAssert (.iface 49 (.pointer (some ⟨sb, 0, none⟩))) 54 36 true).run Tryd.prog w = .ok (.tuple #[.pointer none, .bool false]) w := by kernel_rfl

theorem buf_new (w : World) (sb : Nat) :
    Calls Tryd.prog 21 #[.iface 49 (.pointer (some ⟨sb, 0, none⟩)), .int .i64 32768] w fun e w' => e = .returned (.pointer (some ⟨w.heap.size, 0, none⟩)) ∧ ∃ gb buf, w.heap.size < gb ∧
      Blk w' w.heap.size [.slice (some ⟨gb, 0, none⟩) 32768 32768, .iface 49 (.pointer (some ⟨sb, 0, none⟩)), .int .i64 0, .int .i64 0, .nilIface, .int .i64 (-1), .int .i64 (-1)] 60 ∧ Blk w' gb buf 5 ∧ buf.length = 32768 ∧ Below w.heap.size w w' := by
  obtain ⟨i0, hi, hz0, hz1, hz2⟩ := info_parts info5
  have hta := no_reader sb
  go_enter Tryd.func21, Tryd.ntmps21
  go_wp2_with (first | (at_make; refine wpList_make_full _ rfl _ _ 22 rfl w.heap.size 5 i0 (.int .u8 0) 1 Tryd.underlying22 hi hz0 hz1 .i64 .i64 _ _ 32768 rfl rfl rfl rfl (by rw [hz2]; omega) (by unfold maxLen; omega) (by simp) ?_; intro w1 hown hgrow))
  have hb1 := (Blk.new w [.slice none 0 0, .nilIface, .int .i64 0, .int .i64 0, .nilIface, .int .i64 0, .int .i64 0] 60).chg (Chg.grown (S := fun _ => False) hgrow (fun k e => by cases e)) (fun h => h)
  have hbel : Below w.heap.size w w1 := ((Below.refl w.heap.size w).alloc (Nat.le_refl _) _).grown hgrow (by simp) (fun k e => by cases e)
  simp only [World.size_alloc] at hown
  obtain ⟨buf, hbuf, hbl, _, _⟩ := blk_of_owns hown
  have hsz := hb1.lt
  clear hown hgrow
  refine (reset_any w1 w.heap.size (w.heap.size + 1) 32768 sb _ _ _ _ _ _ _ hb1).mono ?_
  rintro e w2 ⟨rfl, hb2, hC2⟩
  clear hb1 hta
  go_wp2
  go_ret
  exact ⟨rfl, w.heap.size + 1, buf, by omega, hb2, hbuf.chg hC2 (by omega), hbl, hbel.trans (hC2.below (by omega) (fun k hk => by omega))⟩

theorem sec_new' (w : World) (rb s t : Nat) (N : Int) (hN : N = (t : Int) - (s : Int)) (h1 : s ≤ t) (h2 : t ≤ 9223372036854775807) :
    Calls Tryd.prog 22 #[.iface 34 (.pointer (some ⟨rb, 0, none⟩)), .int .i64 (s : Int), .int .i64 N] w fun e w' => e = .returned (.pointer (some ⟨w.heap.size, 0, none⟩)) ∧ Sec w' w.heap.size rb s t ∧ Below w.heap.size w w' := by
  subst hN
  refine (sec_new w rb s ((t : Int) - (s : Int)) (by omega) (by omega) (by omega)).mono ?_
  rintro e w' ⟨rfl, rfl⟩
  refine ⟨rfl, ⟨.int .i64 s, .int .i64 ((t : Int) - (s : Int)), ?_⟩, (Below.refl _ _).alloc (Nat.le_refl _) _⟩
  have := Blk.new w [.iface 34 (.pointer (some ⟨rb, 0, none⟩)), .int .i64 s, .int .i64 s, .int .i64 ((t : Int) - (s : Int) + (s : Int)), .int .i64 ((t : Int) - (s : Int))] 63
  rw [show (t : Int) - (s : Int) + (s : Int) = (t : Int) from by omega] at this ⊢
  exact this

/-- A reader of the section [s, t) that lies ready. -/
def Ready (w : World) (B lo : Nat) (zs : List Int) (ev : Value) (rd s t : Nat) (R : List Int) : Prop :=
  ∃ rb sb bb gb, lo ≤ rb ∧ rb < sb ∧ sb < bb ∧ bb < gb ∧ gb < rd ∧ Bf w B rb sb bb gb zs ev R ∧
    Blk w rd [.pointer (some ⟨bb, 0, none⟩), .int .i64 ((t : Int) - (s : Int)), .slice none 0 0, .int .u32 0, .nilIface, .bool false] 41

theorem over_new (w : World) (B : Nat) (a : Option Addr) (L c : Nat) (zs : List Int) (ev : Value) (s t : Nat) (hL : zs.length = L) (hr : Rd B w a c zs) (hB : B ≤ w.heap.size) (h1 : s ≤ t) (h2 : t ≤ 9223372036854775807) :
    Calls Tryd.prog 8 #[.slice a L c, .int .i64 (s : Int), .int .i64 (t : Int)] w fun e w' => ∃ rd, e = .returned (.pointer (some ⟨rd, 0, none⟩)) ∧ Ready w' B w.heap.size zs ev rd s t (rest zs s t) ∧ Below w.heap.size w w' ∧ rd < w'.heap.size := by
  have hst : (s : Int) ≤ (t : Int) := by omega
  go_enter Tryd.func8, Tryd.ntmps8
  go_wp2_with (first
    | (go_at_call 15; refine (rd_new w a L c).mono ?_; rintro e w' ⟨rfl, rfl⟩)
    | (go_at_call 14; go_in))
  have hS : Src (w.alloc (.cells #[.slice a L c, .int .i64 0, .int .i64 (-1)] 52)) B w.heap.size zs := by
    subst hL
    exact ⟨a, c, _, _, Blk.new w [.slice a zs.length c, .int .i64 0, .int .i64 (-1)] 52, hr.below ((Below.refl w.heap.size w).alloc (Nat.le_refl _) _) hB⟩
  have hb1 : Below w.heap.size w (w.alloc (.cells #[.slice a L c, .int .i64 0, .int .i64 (-1)] 52)) := (Below.refl w.heap.size w).alloc (Nat.le_refl _) _
  have hsz1 : w.heap.size < (w.alloc (.cells #[.slice a L c, .int .i64 0, .int .i64 (-1)] 52)).heap.size := by simp
  generalize (w.alloc (.cells #[.slice a L c, .int .i64 0, .int .i64 (-1)] 52)) = w1 at *
  refine (sec_new' w1 w.heap.size s t ((t : Int) - (s : Int)) rfl h1 h2).mono ?_
  rintro e w2 ⟨rfl, hs2, hb2⟩
  have hS2 : Src w2 B w.heap.size zs := src_chg hS (Chg.of_below (S := fun _ => False) hb2) (fun h => h) (by omega) (fun _ _ h => h)
  have hbb2 := hb1.trans (hb2.mono (by omega))
  obtain ⟨_, _, hsblk⟩ := id hs2
  have hsz2 := hsblk.lt
  clear hS hb1 hb2 hsblk
  go_wp2_with fail
  refine (buf_new w2 w1.heap.size).mono ?_
  rintro e w3 ⟨rfl, gb, buf, hgb, hbb3, hbuf3, hbl3, hb3⟩
  have hS3 : Src w3 B w.heap.size zs := src_chg hS2 (Chg.of_below (S := fun _ => False) hb3) (fun h => h) (by omega) (fun _ _ h => h)
  have hs3 : Sec w3 w1.heap.size w.heap.size s t := sec_chg hs2 (Chg.of_below (S := fun _ => False) hb3) (fun h => h)
  have hbel3 := hbb2.trans (hb3.mono (by omega))
  have hsz3 := hbuf3.lt
  have hbf3 : Bf w3 B w.heap.size w1.heap.size w2.heap.size gb zs ev (rest zs s t) :=
    ⟨s, t, 0, 0, .nilIface, _, _, buf, [], hS3, hs3, by unfold maxLen; omega, hbb3, hbuf3, hbl3, Nat.le_refl _, by omega, by simp [ints], by simp, .inl rfl⟩
  have HBF : Hid _ := hbf3
  clear hS2 hs2 hbb2 hbb3 hbuf3 hbl3 hb3 hS3 hs3 hbf3
  go_wp2_with fail
  go_ret
  refine ⟨w3.heap.size, rfl, ⟨w.heap.size, w1.heap.size, w2.heap.size, gb, Nat.le_refl _, by omega, by omega, hgb, hsz3, ?_, Blk.new w3 [.pointer (some ⟨w2.heap.size, 0, none⟩), .int .i64 ((t : Int) - (s : Int)), .slice none 0 0, .int .u32 0, .nilIface, .bool false] 41⟩, hbel3.alloc (by omega) _, by simp⟩
  exact bf_chg HBF.out (Chg.alloc (fun _ => False) w3 _) (fun _ _ h => h) hB (by omega) (by omega) hgb

theorem left_any (w : World) (rd : Nat) (v0 v1 v2 v3 v4 v5 : Value) (h : Blk w rd [v0, v1, v2, v3, v4, v5] 41) :
    Calls Tryd.prog 9 #[.pointer (some ⟨rd, 0, none⟩)] w fun e w' => e = .returned v1 ∧ w = w' := by
  have c1 := h.cell (j := 1) rfl
  clear h
  go_enter Tryd.func9, Tryd.ntmps9
  go_wp2
  go_ret
  exact ⟨rfl, rfl⟩

theorem fresh_any (w : World) (rd : Nat) (v0 v1 : Value) (h : Blk w rd [v0, v1, .slice none 0 0, .int .u32 0, .nilIface, .bool false] 41) :
    Calls Tryd.prog 10 #[.pointer (some ⟨rd, 0, none⟩)] w fun e w' => e = .returned (.bool true) ∧ w = w' := by
  have c2 := h.cell (j := 2) rfl
  have c3 := h.cell (j := 3) rfl
  have c4 := h.cell (j := 4) rfl
  have c5 := h.cell (j := 5) rfl
  clear h
  go_enter Tryd.func10, Tryd.ntmps10
  go_wp2
  go_ret
  exact ⟨rfl, rfl⟩

/-- All that a reader gives. -/
theorem readAll_any (w : World) (B lo rd s t : Nat) (zs R : List Int) (x : Addr) (hz : zs.length ≤ 1048576) (hR : R.length ≤ 1048576) (he : w.cell? ⟨0, 0, none⟩ = some (.iface 64 (.pointer (some x)))) (h : Ready w B lo zs (.iface 64 (.pointer (some x))) rd s t R) (hB0 : 0 < B) (hBl : B ≤ lo) :
    Calls Tryd.prog 11 #[.pointer (some ⟨rd, 0, none⟩)] w fun e w' => ∃ a c, e = .returned (.slice a R.length c) ∧ Rd w'.heap.size w' a c R ∧ (∀ y, a = some y → w.heap.size ≤ y.block) ∧ Chg (fun k => lo ≤ k ∧ k < rd) w w' := by
  obtain ⟨rb, sb, bb, gb, h1, h2, h3, h4, h5, hbf, hrd⟩ := h
  have c0 := hrd.cell (j := 0) rfl
  clear hrd
  go_enter Tryd.func11, Tryd.ntmps11
  go_wp2_with (go_at_call 20; refine (all_start w B rb sb bb gb zs x R hz he hbf hR hB0 (by omega) h2 h3 h4).mono ?_; rintro e w1 ⟨a, c, rfl, hrd1, hy1, hC1⟩)
  go_ret
  exact ⟨a, c, rfl, hrd1, hy1, hC1.mono (fun k _ h => by omega)⟩

theorem bf_chg2 {w w' : World} {S : Nat → Prop} {B rb sb bb gb : Nat} {zs : List Int} {ev : Value} {R : List Int} (h : Bf w B rb sb bb gb zs ev R) (hc : Chg S w w') (hB : ∀ k, k < B → ¬ S k) (hBw : B ≤ w.heap.size) (h1 : ¬ S rb) (h2 : ¬ S sb) (h3 : ¬ S bb) (h4 : ¬ S gb) : Bf w' B rb sb bb gb zs ev R := by
  obtain ⟨off, lim, r, wp, er, v5, v6, buf, pend, hr, hs, hl, hb, hbuf, rest⟩ := h
  exact ⟨off, lim, r, wp, er, v5, v6, buf, pend, src_chg hr hc h1 hBw hB, sec_chg hs hc h2, hl, hb.chg hc h3, hbuf.chg hc h4, rest⟩

theorem ready_chg {w w' : World} {S : Nat → Prop} {B lo rd s t : Nat} {zs : List Int} {ev : Value} {R : List Int} (h : Ready w B lo zs ev rd s t R) (hc : Chg S w w') (hB : ∀ k, k < B → ¬ S k) (hBw : B ≤ w.heap.size) (hS : ∀ k, lo ≤ k → k ≤ rd → ¬ S k) : Ready w' B lo zs ev rd s t R := by
  obtain ⟨rb, sb, bb, gb, h1, h2, h3, h4, h5, hbf, hrd⟩ := h
  exact ⟨rb, sb, bb, gb, h1, h2, h3, h4, h5, bf_chg2 hbf hc hB hBw (hS _ (by omega) (by omega)) (hS _ (by omega) (by omega)) (hS _ (by omega) (by omega)) (hS _ (by omega) (by omega)), hrd.chg hc (hS _ (by omega) (by omega))⟩

theorem ready_blk {w : World} {B lo rd s t : Nat} {zs : List Int} {ev : Value} {R : List Int} (h : Ready w B lo zs ev rd s t R) : ∃ bb, Blk w rd [.pointer (some ⟨bb, 0, none⟩), .int .i64 ((t : Int) - (s : Int)), .slice none 0 0, .int .u32 0, .nilIface, .bool false] 41 := by
  obtain ⟨rb, sb, bb, gb, _, _, _, _, _, _, hrd⟩ := h
  exact ⟨bb, hrd⟩

theorem Rd.chg {B : Nat} {w w' : World} {S : Nat → Prop} {a : Option Addr} {c : Nat} {zs : List Int} (h : Rd B w a c zs) (hc : Chg S w w') (hS : ∀ y, a = some y → ¬ S y.block) : Rd B w' a c zs := by
  refine ⟨h.1, fun i hi => ?_⟩
  obtain ⟨b, o, h1, h2, h3⟩ := h.2 i hi
  have hb := World.block_lt_of_cell? w _ h3
  exact ⟨b, o, h1, h2, (World.cell?_of_block (a := ⟨b, o + i, none⟩) (hc.block b hb (hS _ h1))).trans h3⟩

theorem clamp_any (w : World) (s L : Nat) : Calls Tryd.prog 6 #[.int .i64 (s : Int), .int .i64 (L : Int)] w fun e w' => e = .returned (.int .i64 ((min s L : Nat) : Int)) ∧ w = w' := by
  by_cases h : L < s
  · have h' : (L : Int) < (s : Int) := by omega
    have e0 : min s L = L := by omega
    rw [e0]
    go_enter Tryd.func6, Tryd.ntmps6
    go_wp2
    go_ret
    exact ⟨rfl, rfl⟩
  · have h' : (s : Int) ≤ (L : Int) := by omega
    have e0 : min s L = s := by omega
    rw [e0]
    go_enter Tryd.func6, Tryd.ntmps6
    go_wp2
    go_ret
    exact ⟨rfl, rfl⟩
end Go.Proofs.Qxb6608512aDoor
