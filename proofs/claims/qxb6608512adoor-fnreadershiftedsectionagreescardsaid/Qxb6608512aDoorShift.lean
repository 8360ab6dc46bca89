import Derived.Test.Qxb6608512aDoorJoin
namespace Go.Proofs.Qxb6608512aDoor
open Go.RowKit

theorem shift_big (a : Option Addr) (len cap : Nat) (x y : Int) (w : World) (hn : ¬ len ≤ 1048576) :
    Calls Tryd.prog 4 #[.slice a len cap, .int .i64 x, .int .i64 y] w fun e w' => e = .returned (.bool true) ∧ Below w.heap.size w w' := by
  go_enter Tryd.func4, Tryd.ntmps4
  go_wp2_with (go_at_call 13; refine (bound2_no _ _ _ _ _ _ hn).mono ?_; rintro e w' ⟨rfl, rfl⟩)
  go_ret
  exact ⟨rfl, Below.refl _ _⟩

theorem shift_out (a : Option Addr) (len cap : Nat) (x y : Int) (w : World) (hn : len ≤ 1048576) (h : x < 0 ∨ y < x) :
    Calls Tryd.prog 4 #[.slice a len cap, .int .i64 x, .int .i64 y] w fun e w' => e = .returned (.bool true) ∧ Below w.heap.size w w' := by
  have fin : ∀ (d1 d2 : Bool), decide (x < 0) = d1 → decide (y < x) = d2 → (d1 || d2) = true →
      Calls Tryd.prog 4 #[.slice a len cap, .int .i64 x, .int .i64 y] w fun e w' => e = .returned (.bool true) ∧ Below w.heap.size w w' := by
    intro d1 d2 e1 e2 e4
    clear h
    cases d1 <;> cases d2 <;> (try (simp at e4; done)) <;> clear e4 <;> simp only [decide_eq_true_eq, decide_eq_false_iff_not, Int.not_lt] at e1 e2
    all_goals
      go_enter Tryd.func4, Tryd.ntmps4
      go_wp2_with (go_at_call 13; refine (bound2_yes _ _ _ _ _ _ hn).mono ?_; rintro e w' ⟨rfl, rfl⟩)
      go_ret
      exact ⟨rfl, Below.refl _ _⟩
  refine fin _ _ rfl rfl ?_
  simp only [Bool.or_eq_true, decide_eq_true_eq]
  omega

theorem over_new' (w : World) (B : Nat) (a : Option Addr) (L c : Nat) (zs : List Int) (ev : Value) (s t : Nat) (S T : Int) (hS : S = (s : Int)) (hT : T = (t : Int)) (hL : zs.length = L) (hr : Rd B w a c zs) (hB : B ≤ w.heap.size) (h1 : s ≤ t) (h2 : t ≤ 9223372036854775807) :
    Calls Tryd.prog 8 #[.slice a L c, .int .i64 S, .int .i64 T] w fun e w' => ∃ rd, e = .returned (.pointer (some ⟨rd, 0, none⟩)) ∧ Ready w' B w.heap.size zs ev rd s t (rest zs s t) ∧ Below w.heap.size w w' ∧ rd < w'.heap.size := by
  subst hS; subst hT
  exact over_new w B a L c zs ev s t hL hr hB h1 h2

theorem rest_shift (zs : List Int) (lo s t : Nat) (h : lo ≤ s) : rest (zs.drop lo) (s - lo) (t - lo) = rest zs s t := by
  unfold rest
  rw [List.drop_drop, show lo + (s - lo) = s by omega, show t - lo - (s - lo) = t - s by omega]

set_option maxHeartbeats 2000000 in
theorem shift_in (a : Option Addr) (len cap : Nat) (zs : List Int) (s t : Nat) (x : Addr) (w : World) (hz : zs.length = len) (hn : len ≤ 1048576) (hr : Rd w.heap.size w a cap zs) (hnil : a = none → len = 0) (h1 : s ≤ t) (h3 : t ≤ 9223372036854775807) (he : w.cell? ⟨0, 0, none⟩ = some (.iface 64 (.pointer (some x)))) :
    Calls Tryd.prog 4 #[.slice a len cap, .int .i64 (s : Int), .int .i64 (t : Int)] w fun e w' => e = .returned (.bool true) ∧ Below w.heap.size w w' := by
  have hcap : len ≤ cap := by have := hr.1; omega
  have i1 : (s : Int) ≤ (t : Int) := by omega
  obtain ⟨lo, hlo⟩ : ∃ lo, min s len = lo := ⟨_, rfl⟩
  obtain ⟨hi, hhi⟩ : ∃ hi, min t len = hi := ⟨_, rfl⟩
  have j1 : lo ≤ hi := by omega
  have j2 : lo ≤ s := by omega
  have j3 : hi ≤ len := by omega
  have HLO : Hid (min s len = lo) := hlo
  have HHI : Hid (min t len = hi) := hhi
  obtain ⟨A1, hA1⟩ : ∃ A, (if cap = lo then a else Option.map (fun x => x.add lo) a) = A := ⟨_, rfl⟩
  clear hlo hhi
  go_enter Tryd.func4, Tryd.ntmps4
  go_wp2_with (go_at_call 13; refine (bound2_yes _ _ _ _ _ _ hn).mono ?_; rintro e w' ⟨rfl, rfl⟩)
  refine (clamp_any w s len).mono ?_
  rintro e w' ⟨rfl, rfl⟩
  rw [HLO.out]
  go_wp2_with fail
  refine (clamp_any w t len).mono ?_
  rintro e w' ⟨rfl, rfl⟩
  rw [HHI.out]
  go_wp2_with fail
  refine (clone_any w w.heap.size a len cap zs hz hn (Nat.le_refl _) hr hnil).mono ?_
  rintro e w1 ⟨a1, c1, rfl, hr1, hb1⟩
  have he1 := eof_chg he (Chg.of_below (S := fun _ => False) hb1) (fun h => h)
  have hs1 := hb1.size
  have hB0 : 0 < w1.heap.size := by have := World.block_lt_of_cell? w _ he; exact Nat.lt_of_lt_of_le this hs1
  obtain ⟨A2, hA2⟩ : ∃ A, (if c1 = lo then a1 else Option.map (fun x => x.add lo) a1) = A := ⟨_, rfl⟩
  have hc1 : len ≤ c1 := by have := hr1.1; omega
  clear he
  go_wp2_with fail
  refine (over_new w1 w1.heap.size a1 len c1 zs (.iface 64 (.pointer (some x))) s t hz hr1 (Nat.le_refl _) h1 h3).mono ?_
  rintro e w2 ⟨rd1, rfl, hR1, hb2, hrd1⟩
  have he2 := eof_chg he1 (Chg.of_below (S := fun _ => False) hb2) (fun h => h)
  have hr2 := hr1.below hb2 (Nat.le_refl _)
  have hr2' := hr2.dropIf lo
  rw [hA2] at hr2'
  have hbw2 := hb1.trans (hb2.mono hs1)
  have hs2 := hb2.size
  clear he1 hr1 hb1 hb2 hr2
  go_wp2_with fail
  refine (over_new' w2 w1.heap.size A2 (len - lo) (c1 - lo) (zs.drop lo) (.iface 64 (.pointer (some x))) (s - lo) (t - lo) ((s : Int) - (lo : Int)) ((t : Int) - (lo : Int)) (by omega) (by omega) (by simp; omega) hr2' (by omega) (by omega) (by omega)).mono ?_
  rintro e w3 ⟨rd2, rfl, hR2, hb3, hrd2⟩
  rw [rest_shift zs lo s t j2] at hR2
  have he3 := eof_chg he2 (Chg.of_below (S := fun _ => False) hb3) (fun h => h)
  have hR1' := ready_chg hR1 (Chg.of_below (S := fun _ => False) hb3) (fun _ _ h => h) (by omega) (fun _ _ _ h => h)
  have hbw3 := hbw2.trans (hb3.mono (by omega))
  have hs3 := hb3.size
  clear he2 hr2' hbw2 hb3 hR1
  obtain ⟨bb1, hk1⟩ := ready_blk hR1'
  obtain ⟨bb2, hk2⟩ := ready_blk hR2
  rw [show ((t - lo : Nat) : Int) - ((s - lo : Nat) : Int) = (t : Int) - (s : Int) from by omega] at hk2
  go_wp2_with fail
  refine (left_any w3 rd1 _ _ _ _ _ _ hk1).mono ?_
  rintro e w' ⟨rfl, rfl⟩
  go_wp2_with fail
  refine (left_any w3 rd2 _ _ _ _ _ _ hk2).mono ?_
  rintro e w' ⟨rfl, rfl⟩
  go_wp2_with fail
  refine (fresh_any w3 rd1 _ _ hk1).mono ?_
  rintro e w' ⟨rfl, rfl⟩
  go_wp2_with fail
  refine (fresh_any w3 rd2 _ _ hk2).mono ?_
  rintro e w' ⟨rfl, rfl⟩
  clear hk1 hk2
  have l3 := rest_length zs s t
  have HL3 : Hid ((rest zs s t).length = hi - lo) := by show _ = _; rw [← HLO.out, ← HHI.out]; omega
  clear l3
  go_wp2_with fail
  refine (readAll_any w3 w1.heap.size w1.heap.size rd1 s t zs (rest zs s t) x (by omega) (by rw [HL3.out]; omega) he3 hR1' hB0 (Nat.le_refl _)).mono ?_
  rintro e w5 ⟨b1, d1, rfl, hq1, hy1, hC5⟩
  rw [HL3.out]
  have he5 := eof_chg he3 hC5 (by omega)
  have hR2' := ready_chg hR2 hC5 (fun k hk => by omega) (by omega) (fun k hk1 hk2 => by omega)
  have hbw5 := hbw3.trans (hC5.below (by omega) (fun k hk => by omega))
  have hs5 := hC5.size
  clear he3 hR1' hR2 hC5 hbw3
  go_wp2_with fail
  refine (readAll_any w5 w1.heap.size w2.heap.size rd2 (s - lo) (t - lo) (zs.drop lo) (rest zs s t) x (by simp; omega) (by rw [HL3.out]; omega) he5 hR2' hB0 (by omega)).mono ?_
  rintro e w6 ⟨b2, d2, rfl, hq2, hy2, hC6⟩
  rw [HL3.out]
  have hbw6 := hbw5.trans (hC6.below (by omega) (fun k hk => by omega))
  have hs6 := hC6.size
  have hq1' := hq1.chg hC6 (fun y hy => by have := hy1 y hy; omega)
  have hd := hr.below hbw6 (Nat.le_refl _)
  have e1 := cut_rd hd s t (A := A1) (by rw [hz, HLO.out]; exact hA1)
  rw [hz, HLO.out] at e1
  have E1 : Hid (Rd w.heap.size w6 A1 (cap - lo) (rest zs s t)) := e1
  clear he5 hR2' hC6 hbw5 hq1 hd e1 hy1 hy2
  go_wp2_with fail
  refine (eq_any w6 w6.heap.size b1 b2 (hi - lo) d1 d2 (rest zs s t) HL3.out (by omega) (hq1'.mono (by omega)) hq2).mono ?_
  rintro e w7 ⟨rfl, hB7⟩
  have hbw7 := hbw6.trans (hB7 _)
  have hq1 := hq1'.below (hB7 _) (Nat.le_refl _)
  have E2 : Hid (Rd w.heap.size w7 A1 (cap - lo) (rest zs s t)) := E1.out.below (hB7 _) (Nat.le_refl _)
  clear hbw6 hB7 hq1' hq2 E1
  go_wp2_with fail
  refine (eq_any w7 w6.heap.size b1 A1 (hi - lo) d1 (cap - lo) (rest zs s t) HL3.out (by omega) (hq1.mono (by omega)) (E2.out.mono (by omega))).mono ?_
  rintro e w8 ⟨rfl, hB8⟩
  have hbw8 := hbw7.trans (hB8 _)
  clear hbw7 hB8 hq1 E2
  go_wp2_with fail
  go_ret
  exact ⟨rfl, hbw8⟩

/-- THE LAW's WALK, for every input. -/
theorem shift_walk (a : Option Addr) (len cap : Nat) (zs : List Int) (p r : Int) (x : Addr) (w : World) (hz : zs.length = len) (hr : Rd w.heap.size w a cap zs) (hnil : a = none → len = 0) (hr64 : r ≤ 9223372036854775807) (he : w.cell? ⟨0, 0, none⟩ = some (.iface 64 (.pointer (some x)))) :
    Calls Tryd.prog 4 #[.slice a len cap, .int .i64 p, .int .i64 r] w fun e w' => e = .returned (.bool true) ∧ Below w.heap.size w w' := by
  by_cases hl : len ≤ 1048576
  · by_cases h : p < 0 ∨ r < p
    · exact shift_out a len cap p r w hl h
    · obtain ⟨s, rfl⟩ : ∃ s : Nat, p = s := ⟨p.toNat, by omega⟩
      obtain ⟨t, rfl⟩ : ∃ t : Nat, r = t := ⟨r.toNat, by omega⟩
      exact shift_in a len cap zs s t x w hz hl hr hnil (by omega) (by omega) he
  · exact shift_big a len cap p r w hl
end Go.Proofs.Qxb6608512aDoor
