import Derived.Test.Qxb6608512aDoorNew
import Derived.Test.Qxb6608512aDoorEq
namespace Go.Proofs.Qxb6608512aDoor
open Go.RowKit

theorem join_big (a : Option Addr) (len cap : Nat) (x y z : Int) (w : World) (hn : ¬ len ≤ 1048576) :
    Calls Tryd.prog 3 #[.slice a len cap, .int .i64 x, .int .i64 y, .int .i64 z] w fun e w' => e = .returned (.bool true) ∧ Below w.heap.size w w' := by
  go_enter Tryd.func3, Tryd.ntmps3
  go_wp2_with (go_at_call 5; refine (bound3_no _ _ _ _ _ _ _ hn).mono ?_; rintro e w' ⟨rfl, rfl⟩)
  go_ret
  exact ⟨rfl, Below.refl _ _⟩

theorem join_out (a : Option Addr) (len cap : Nat) (x y z : Int) (w : World) (hn : len ≤ 1048576) (h : x < 0 ∨ y < x ∨ z < y) :
    Calls Tryd.prog 3 #[.slice a len cap, .int .i64 x, .int .i64 y, .int .i64 z] w fun e w' => e = .returned (.bool true) ∧ Below w.heap.size w w' := by
  have fin : ∀ (d1 d2 d3 : Bool), decide (x < 0) = d1 → decide (y < x) = d2 → decide (z < y) = d3 → (d1 || d2 || d3) = true →
      Calls Tryd.prog 3 #[.slice a len cap, .int .i64 x, .int .i64 y, .int .i64 z] w fun e w' => e = .returned (.bool true) ∧ Below w.heap.size w w' := by
    intro d1 d2 d3 e1 e2 e3 e4
    clear h
    cases d1 <;> cases d2 <;> cases d3 <;> (try (simp at e4; done)) <;> clear e4 <;> simp only [decide_eq_true_eq, decide_eq_false_iff_not, Int.not_lt] at e1 e2 e3
    all_goals
      go_enter Tryd.func3, Tryd.ntmps3
      go_wp2_with (go_at_call 5; refine (bound3_yes _ _ _ _ _ _ _ hn).mono ?_; rintro e w' ⟨rfl, rfl⟩)
      go_ret
      exact ⟨rfl, Below.refl _ _⟩
  refine fin _ _ _ rfl rfl rfl ?_
  simp only [Bool.or_eq_true, decide_eq_true_eq]
  omega

theorem rest_clamp (zs : List Int) (s m : Nat) : (zs.drop (min s zs.length)).take (min m zs.length - min s zs.length) = rest zs s m := by
  unfold rest
  by_cases h : s ≤ zs.length
  · rw [Nat.min_eq_left h]
    by_cases h2 : m ≤ zs.length
    · rw [Nat.min_eq_left h2]
    · rw [Nat.min_eq_right (by omega), List.take_of_length_le (by simp), List.take_of_length_le (by simp; omega)]
  · rw [Nat.min_eq_right (show zs.length ≤ s by omega), List.drop_eq_nil_of_le (Nat.le_refl _), List.drop_eq_nil_of_le (show zs.length ≤ s by omega)]; simp

theorem rest_clamp_length (zs : List Int) (s m : Nat) : (rest zs s m).length = min m zs.length - min s zs.length := by rw [rest_length]; omega

/-- The bytes between two clamped places, as the walk cuts them out of the data. -/
theorem cut_rd {B : Nat} {w : World} {a : Option Addr} {c : Nat} {zs : List Int} (h : Rd B w a c zs) (s m : Nat) {A : Option Addr} (hA : (if c = min s zs.length then a else Option.map (fun x => x.add (min s zs.length)) a) = A) : Rd B w A (c - min s zs.length) (rest zs s m) := by
  have := (h.dropIf (min s zs.length)).take (min m zs.length - min s zs.length)
  rw [hA, rest_clamp] at this
  exact this

set_option maxHeartbeats 2000000 in
theorem join_in (a : Option Addr) (len cap : Nat) (zs : List Int) (s m t : Nat) (x : Addr) (w : World) (hz : zs.length = len) (hn : len ≤ 1048576) (hr : Rd w.heap.size w a cap zs) (hnil : a = none → len = 0) (h1 : s ≤ m) (h2 : m ≤ t) (h3 : t ≤ 9223372036854775807) (he : w.cell? ⟨0, 0, none⟩ = some (.iface 64 (.pointer (some x)))) :
    Calls Tryd.prog 3 #[.slice a len cap, .int .i64 (s : Int), .int .i64 (m : Int), .int .i64 (t : Int)] w fun e w' => e = .returned (.bool true) ∧ Below w.heap.size w w' := by
  have hcap : len ≤ cap := by have := hr.1; omega
  have i1 : (s : Int) ≤ (m : Int) := by omega
  have i2 : (m : Int) ≤ (t : Int) := by omega
  obtain ⟨lo, hlo⟩ : ∃ lo, min s len = lo := ⟨_, rfl⟩
  obtain ⟨md, hmd⟩ : ∃ md, min m len = md := ⟨_, rfl⟩
  obtain ⟨hi, hhi⟩ : ∃ hi, min t len = hi := ⟨_, rfl⟩
  have j1 : lo ≤ md := by omega
  have j2 : md ≤ hi := by omega
  have j3 : hi ≤ len := by omega
  have HLO : Hid (min s len = lo) := hlo
  have HMD : Hid (min m len = md) := hmd
  have HHI : Hid (min t len = hi) := hhi
  obtain ⟨A1, hA1⟩ : ∃ A, (if cap = lo then a else Option.map (fun x => x.add lo) a) = A := ⟨_, rfl⟩
  obtain ⟨A2, hA2⟩ : ∃ A, (if cap = md then a else Option.map (fun x => x.add md) a) = A := ⟨_, rfl⟩
  clear hlo hmd hhi
  go_enter Tryd.func3, Tryd.ntmps3
  go_wp2_with (go_at_call 5; refine (bound3_yes _ _ _ _ _ _ _ hn).mono ?_; rintro e w' ⟨rfl, rfl⟩)
  refine (clamp_any w s len).mono ?_
  rintro e w' ⟨rfl, rfl⟩
  rw [HLO.out]
  go_wp2_with fail
  refine (clamp_any w m len).mono ?_
  rintro e w' ⟨rfl, rfl⟩
  rw [HMD.out]
  go_wp2_with fail
  refine (clamp_any w t len).mono ?_
  rintro e w' ⟨rfl, rfl⟩
  rw [HHI.out]
  go_wp2_with fail
  refine (clone_any w w.heap.size a len cap zs hz hn (Nat.le_refl _) hr hnil).mono ?_
  rintro e w1 ⟨a1, c1, rfl, hr1, hb1⟩
  have he1 := eof_chg he (Chg.of_below (S := fun _ => False) hb1) (fun h => h)
  have hs1 := hb1.size
  have hB0 : 0 < w1.heap.size := by have := World.block_lt_of_cell? w _ he; exact Nat.lt_of_lt_of_le this hs1
  clear he
  go_wp2_with fail
  refine (over_new w1 w1.heap.size a1 len c1 zs (.iface 64 (.pointer (some x))) s m hz hr1 (Nat.le_refl _) h1 (by omega)).mono ?_
  rintro e w2 ⟨rd1, rfl, hR1, hb2, hrd1⟩
  have he2 := eof_chg he1 (Chg.of_below (S := fun _ => False) hb2) (fun h => h)
  have hr2 := hr1.below hb2 (Nat.le_refl _)
  have hbw2 := hb1.trans (hb2.mono hs1)
  have hs2 := hb2.size
  clear he1 hr1 hb1 hb2
  go_wp2_with fail
  refine (over_new w2 w1.heap.size a1 len c1 zs (.iface 64 (.pointer (some x))) m t hz hr2 (by omega) h2 h3).mono ?_
  rintro e w3 ⟨rd2, rfl, hR2, hb3, hrd2⟩
  have he3 := eof_chg he2 (Chg.of_below (S := fun _ => False) hb3) (fun h => h)
  have hr3 := hr2.below hb3 (by omega)
  have hR1' := ready_chg hR1 (Chg.of_below (S := fun _ => False) hb3) (fun _ _ h => h) (by omega) (fun _ _ _ h => h)
  have hbw3 := hbw2.trans (hb3.mono (by omega))
  have hs3 := hb3.size
  clear he2 hr2 hbw2 hb3 hR1
  go_wp2_with fail
  refine (over_new w3 w1.heap.size a1 len c1 zs (.iface 64 (.pointer (some x))) s t hz hr3 (by omega) (by omega) h3).mono ?_
  rintro e w4 ⟨rd3, rfl, hR3, hb4, hrd3⟩
  have he4 := eof_chg he3 (Chg.of_below (S := fun _ => False) hb4) (fun h => h)
  have hR1 := ready_chg hR1' (Chg.of_below (S := fun _ => False) hb4) (fun _ _ h => h) (by omega) (fun _ _ _ h => h)
  have hR2' := ready_chg hR2 (Chg.of_below (S := fun _ => False) hb4) (fun _ _ h => h) (by omega) (fun _ _ _ h => h)
  have hbw4 := hbw3.trans (hb4.mono (by omega))
  have hs4 := hb4.size
  clear he3 hr3 hbw3 hb4 hR1' hR2
  obtain ⟨bb1, hk1⟩ := ready_blk hR1
  obtain ⟨bb2, hk2⟩ := ready_blk hR2'
  obtain ⟨bb3, hk3⟩ := ready_blk hR3
  go_wp2_with fail
  refine (left_any w4 rd1 _ _ _ _ _ _ hk1).mono ?_
  rintro e w' ⟨rfl, rfl⟩
  go_wp2_with fail
  refine (left_any w4 rd2 _ _ _ _ _ _ hk2).mono ?_
  rintro e w' ⟨rfl, rfl⟩
  go_wp2_with fail
  refine (left_any w4 rd3 _ _ _ _ _ _ hk3).mono ?_
  rintro e w' ⟨rfl, rfl⟩
  go_wp2_with fail
  refine (fresh_any w4 rd1 _ _ hk1).mono ?_
  rintro e w' ⟨rfl, rfl⟩
  go_wp2_with fail
  refine (fresh_any w4 rd2 _ _ hk2).mono ?_
  rintro e w' ⟨rfl, rfl⟩
  go_wp2_with fail
  refine (fresh_any w4 rd3 _ _ hk3).mono ?_
  rintro e w' ⟨rfl, rfl⟩
  clear hk1 hk2 hk3
  have l1 := rest_length zs s m
  have l2 := rest_length zs m t
  have l3 := rest_length zs s t
  have HL1 : Hid ((rest zs s m).length = md - lo) := by show _ = _; rw [← HLO.out, ← HMD.out]; omega
  have HL2 : Hid ((rest zs m t).length = hi - md) := by show _ = _; rw [← HHI.out, ← HMD.out]; omega
  have HL3 : Hid ((rest zs s t).length = hi - lo) := by show _ = _; rw [← HLO.out, ← HHI.out]; omega
  clear l1 l2 l3
  go_wp2_with fail
  refine (readAll_any w4 w1.heap.size w1.heap.size rd1 s m zs (rest zs s m) x (by omega) (by rw [HL1.out]; omega) he4 hR1 hB0 (Nat.le_refl _)).mono ?_
  rintro e w5 ⟨b1, d1, rfl, hq1, hy1, hC5⟩
  rw [HL1.out]
  have he5 := eof_chg he4 hC5 (by omega)
  have hR2 := ready_chg hR2' hC5 (fun k hk => by omega) (by omega) (fun k hk1 hk2 => by omega)
  have hR3' := ready_chg hR3 hC5 (fun k hk => by omega) (by omega) (fun k hk1 hk2 => by omega)
  have hbw5 := hbw4.trans (hC5.below (by omega) (fun k hk => by omega))
  have hs5 := hC5.size
  clear he4 hR1 hR2' hR3 hC5 hbw4
  go_wp2_with fail
  refine (readAll_any w5 w1.heap.size w2.heap.size rd2 m t zs (rest zs m t) x (by omega) (by rw [HL2.out]; omega) he5 hR2 hB0 (by omega)).mono ?_
  rintro e w6 ⟨b2, d2, rfl, hq2, hy2, hC6⟩
  rw [HL2.out]
  have he6 := eof_chg he5 hC6 (by omega)
  have hR3 := ready_chg hR3' hC6 (fun k hk => by omega) (by omega) (fun k hk1 hk2 => by omega)
  have hbw6 := hbw5.trans (hC6.below (by omega) (fun k hk => by omega))
  have hs6 := hC6.size
  have hq1' := hq1.chg hC6 (fun y hy => by have := hy1 y hy; omega)
  clear he5 hR2 hR3' hC6 hbw5 hq1
  go_wp2_with fail
  refine (readAll_any w6 w1.heap.size w3.heap.size rd3 s t zs (rest zs s t) x (by omega) (by rw [HL3.out]; omega) he6 hR3 hB0 (by omega)).mono ?_
  rintro e w7 ⟨b3, d3, rfl, hq3, hy3, hC7⟩
  rw [HL3.out]
  have hbw7 := hbw6.trans (hC7.below (by omega) (fun k hk => by omega))
  have hs7 := hC7.size
  have hq1 := hq1'.chg hC7 (fun y hy => by have := hy1 y hy; omega)
  have hq2' := hq2.chg hC7 (fun y hy => by have := hy2 y hy; omega)
  have hd := hr.below hbw7 (Nat.le_refl _)
  have e1 := cut_rd hd s m (A := A1) (by rw [hz, HLO.out]; exact hA1)
  have e2 := cut_rd hd m t (A := A2) (by rw [hz, HMD.out]; exact hA2)
  have e3 := cut_rd hd s t (A := A1) (by rw [hz, HLO.out]; exact hA1)
  rw [hz, HLO.out] at e1 e3
  rw [hz, HMD.out] at e2
  have E1 : Hid (Rd w.heap.size w7 A1 (cap - lo) (rest zs s m)) := e1
  have E2 : Hid (Rd w.heap.size w7 A2 (cap - md) (rest zs m t)) := e2
  have E3 : Hid (Rd w.heap.size w7 A1 (cap - lo) (rest zs s t)) := e3
  clear he6 hR3 hC7 hbw6 hq1' hq2 hd e1 e2 e3 hy1 hy2 hy3
  go_wp2_with fail
  refine (eq_any w7 w7.heap.size b1 A1 (md - lo) d1 (cap - lo) (rest zs s m) HL1.out (by omega) (hq1.mono (by omega)) (E1.out.mono (by omega))).mono ?_
  rintro e w8 ⟨rfl, hB8⟩
  have hbw8 := hbw7.trans (hB8 _)
  have hq2 := hq2'.below (hB8 _) (Nat.le_refl _)
  have hq3' := hq3.below (hB8 _) (Nat.le_refl _)
  have E2' : Hid (Rd w.heap.size w8 A2 (cap - md) (rest zs m t)) := E2.out.below (hB8 _) (Nat.le_refl _)
  have E3' : Hid (Rd w.heap.size w8 A1 (cap - lo) (rest zs s t)) := E3.out.below (hB8 _) (Nat.le_refl _)
  clear hbw7 hB8 hq1 hq2' hq3 E1 E2 E3
  go_wp2_with fail
  refine (eq_any w8 w7.heap.size b2 A2 (hi - md) d2 (cap - md) (rest zs m t) HL2.out (by omega) (hq2.mono (by omega)) (E2'.out.mono (by omega))).mono ?_
  rintro e w9 ⟨rfl, hB9⟩
  have hbw9 := hbw8.trans (hB9 _)
  have hq3 := hq3'.below (hB9 _) (Nat.le_refl _)
  have E3 : Hid (Rd w.heap.size w9 A1 (cap - lo) (rest zs s t)) := E3'.out.below (hB9 _) (Nat.le_refl _)
  clear hbw8 hB9 hq2 hq3' E2' E3'
  go_wp2_with fail
  refine (eq_any w9 w7.heap.size b3 A1 (hi - lo) d3 (cap - lo) (rest zs s t) HL3.out (by omega) hq3 (E3.out.mono (by omega))).mono ?_
  rintro e w10 ⟨rfl, hB10⟩
  have hbw10 := hbw9.trans (hB10 _)
  clear hbw9 hB10 hq3 E3
  go_wp2_with fail
  go_ret
  exact ⟨rfl, hbw10⟩

/-- THE LAW's WALK, for every input. -/
theorem join_walk (a : Option Addr) (len cap : Nat) (zs : List Int) (p q r : Int) (x : Addr) (w : World) (hz : zs.length = len) (hr : Rd w.heap.size w a cap zs) (hnil : a = none → len = 0) (hr64 : r ≤ 9223372036854775807) (he : w.cell? ⟨0, 0, none⟩ = some (.iface 64 (.pointer (some x)))) :
    Calls Tryd.prog 3 #[.slice a len cap, .int .i64 p, .int .i64 q, .int .i64 r] w fun e w' => e = .returned (.bool true) ∧ Below w.heap.size w w' := by
  by_cases hl : len ≤ 1048576
  · by_cases h : p < 0 ∨ q < p ∨ r < q
    · exact join_out a len cap p q r w hl h
    · obtain ⟨s, rfl⟩ : ∃ s : Nat, p = s := ⟨p.toNat, by omega⟩
      obtain ⟨m, rfl⟩ : ∃ m : Nat, q = m := ⟨q.toNat, by omega⟩
      obtain ⟨t, rfl⟩ : ∃ t : Nat, r = t := ⟨r.toNat, by omega⟩
      exact join_in a len cap zs s m t x w hz hl hr hnil (by omega) (by omega) (by omega) he
  · exact join_big a len cap p q r w hl
end Go.Proofs.Qxb6608512aDoor
