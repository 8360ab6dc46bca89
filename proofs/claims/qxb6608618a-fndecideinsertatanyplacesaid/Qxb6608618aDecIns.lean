import Derived.Test.Qxb6608618aDec3
import Derived.Test.Qxb6608618aDec5
import Derived.Test.Qxb6608618aDIns
namespace Go.Proofs.Qxb6608618a
open Go.RowKit

theorem qall {w : World} {b : Nat} {t : TypeId} {p : ByteArray} {u h sv sn : Int} {s : ByteArray} {f : Int} (H : Blk w b [.string p, .int .u32 u, .int .i64 h, .int .u64 sv, .int .u64 sn, .string s, .int .u8 f] t) : w.cell? ⟨b, 0, none⟩ = some (.string p) ∧ w.cell? ⟨b, 1, none⟩ = some (.int .u32 u) ∧ w.cell? ⟨b, 2, none⟩ = some (.int .i64 h) ∧ w.cell? ⟨b, 3, none⟩ = some (.int .u64 sv) ∧ w.cell? ⟨b, 4, none⟩ = some (.int .u64 sn) ∧ w.cell? ⟨b, 5, none⟩ = some (.string s) ∧ w.cell? ⟨b, 6, none⟩ = some (.int .u8 f) :=
  ⟨H.cell rfl, H.cell rfl, H.cell rfl, H.cell rfl, H.cell rfl, H.cell rfl, H.cell rfl⟩

theorem zzreq_blk (w : World) (p : ByteArray) (u h sv sn : Int) (s : ByteArray) (f : Int) :
    Calls Try.prog 11 #[.agg #[.string p, .int .u32 u, .int .i64 h, .int .u64 sv, .int .u64 sn, .string s, .int .u8 f]] w fun e w' => ∃ R, e = .returned (.pointer (some ⟨R, 0, none⟩)) ∧ w.heap.size ≤ R ∧ Blk w' R [.string p, .int .u32 u, .int .i64 h, .int .u64 sv, .int .u64 sn, .string s, .int .u8 f] 30 ∧ Below w.heap.size w w' := by
  refine (zzreq_any w p u h sv sn s f).mono ?_
  rintro e w' ⟨rfl, rfl⟩
  refine ⟨_, rfl, by omega, ?_, ((Below.refl _ _).alloc (Nat.le_refl _) _).alloc (by simp) _⟩
  have := Blk.new (w.alloc (.cells #[.string p, .int .u32 u, .int .i64 h, .int .u64 sv, .int .u64 sn, .string s, .int .u8 f] 25)) [.string p, .int .u32 u, .int .i64 h, .int .u64 sv, .int .u64 sn, .string s, .int .u8 f] 30
  simpa using this

theorem info49 : (Try.prog.info? 49).map (fun i => (i.zero, i.size, i.bytes)) = some (some (.agg #[.int .i64 0, .string ByteArray.empty, .int .i64 0, .string ByteArray.empty, .bool false]), 5, 56) := by kernel_rfl

set_option maxHeartbeats 6000000 in
theorem dinsert_walk (w : World) (a : Option Addr) (n c : Nat) (rs : List Rl) (x : Int) (re : Int) (rt : ByteArray) (rl : Int) (rx : ByteArray) (ra : Bool) (p : ByteArray) (u h sv sn : Int) (s : ByteArray) (f : Int) (hz : rs.length = n) (ha : Rs w.heap.size w a c rs) (hnil : a = none → n = 0 ∧ c = 0) :
    Calls Try.prog 6 #[.slice a n c, .int .i64 x, .agg #[.int .i64 re, .string rt, .int .i64 rl, .string rx, .bool ra], .agg #[.string p, .int .u32 u, .int .i64 h, .int .u64 sv, .int .u64 sn, .string s, .int .u8 f]] w fun e w' => e = .returned (.bool true) ∧ Below w.heap.size w w' := by
  have HNIL : Hid (a = none → n = 0 ∧ c = 0) := hnil
  clear hnil
  obtain ⟨i0, hi, hz0, hz1, hz2⟩ := info_parts info49
  obtain ⟨w0, hw0⟩ : ∃ w0, w0 = (w.alloc (.cells #[.int .i64 re, .string rt, .int .i64 rl, .string rx, .bool ra] 49)).alloc (.cells #[.string p, .int .u32 u, .int .i64 h, .int .u64 sv, .int .u64 sn, .string s, .int .u8 f] 25) := ⟨_, rfl⟩
  have hb0 : Below w.heap.size w w0 := by rw [hw0]; exact ((Below.refl _ _).alloc (Nat.le_refl _) _).alloc (by simp) _
  have hs0 : w.heap.size + 1 < w0.heap.size := by rw [hw0]; simp
  have hn0 : Blk w0 (w.heap.size) [.int .i64 re, .string rt, .int .i64 rl, .string rx, .bool ra] 49 := by rw [hw0]; exact (Blk.new w _ _).old _
  have hq0 : Blk w0 (w.heap.size + 1) [.string p, .int .u32 u, .int .i64 h, .int .u64 sv, .int .u64 sn, .string s, .int .u8 f] 25 := by
    rw [hw0]
    have := Blk.new (w.alloc (.cells #[.int .i64 re, .string rt, .int .i64 rl, .string rx, .bool ra] 49)) [.string p, .int .u32 u, .int .i64 h, .int .u64 sv, .int .u64 sn, .string s, .int .u8 f] 25
    simpa using this
  have ha0 : Rs w0.heap.size w0 a c rs := (ha.below hb0 (Nat.le_refl _)).mono (by omega)
  have HA : Hid (Rs w.heap.size w a c rs) := ha
  clear ha
  go_enter Try.func6, Try.ntmps6
  go_wp2_with fail
  rw [← hw0]
  clear hw0
  refine (bytesDInsert w0 a n c rs x re rt rl rx ra p u h sv sn s f hz ha0).mono ?_
  rintro e w1 ⟨hb01, rfl | ⟨rfl, hN, hrt, hrx, hp, hs⟩⟩
  · go_wp2_with fail
    go_ret
    exact ⟨rfl, hb0.trans (hb01.mono (by omega))⟩
  have hb1 := hb0.trans (hb01.mono (by omega : w.heap.size ≤ w0.heap.size))
  have hn1 := hn0.below hb01 (by omega)
  have hq1 := hq0.below hb01 (by omega)
  have hs1 : w.heap.size + 1 < w1.heap.size := hq1.lt
  have n1 := hn1.cell (j := 1) rfl
  have n3 := hn1.cell (j := 3) rfl
  obtain ⟨q0, q1, q2, q3, q4, q5, q6⟩ := qall hq1
  have HB1 : Hid (Below w.heap.size w w1) := hb1
  have HN1 : Hid (Blk w1 (w.heap.size) [.int .i64 re, .string rt, .int .i64 rl, .string rx, .bool ra] 49) := hn1
  have HQ1 : Hid (Blk w1 (w.heap.size + 1) [.string p, .int .u32 u, .int .i64 h, .int .u64 sv, .int .u64 sn, .string s, .int .u8 f] 25) := hq1
  have HA1 : Hid (Rs w.heap.size w1 a c rs) := HA.out.below hb1 (Nat.le_refl _)
  clear hb0 hb01 hq0 ha0 hb1 hq1 hn0 hn1 hs0
  go_wp2_with fail
  go_region_held3 (fun w' => (w'.cell? ⟨w.heap.size, 1, none⟩ = some (.string rt) ∧ w'.cell? ⟨w.heap.size, 3, none⟩ = some (.string rx)) ∧ w'.cell? ⟨w.heap.size + 1, 0, none⟩ = some (.string p) ∧ w'.cell? ⟨w.heap.size + 1, 1, none⟩ = some (.int .u32 u) ∧ w'.cell? ⟨w.heap.size + 1, 2, none⟩ = some (.int .i64 h) ∧ w'.cell? ⟨w.heap.size + 1, 3, none⟩ = some (.int .u64 sv) ∧ w'.cell? ⟨w.heap.size + 1, 4, none⟩ = some (.int .u64 sn) ∧ w'.cell? ⟨w.heap.size + 1, 5, none⟩ = some (.string s) ∧ w'.cell? ⟨w.heap.size + 1, 6, none⟩ = some (.int .u8 f)) (first | (go_keep; done) | exact ⟨⟨HN3.out.cell rfl, HN3.out.cell rfl⟩, qall HQ3.out⟩ | exact ⟨⟨HN2.out.cell rfl, HN2.out.cell rfl⟩, qall HQ2.out⟩) (first
    | (go_at_call 19; refine (rulesBytes_any _ w.heap.size a n c rs hz (by exact HA1.out)).mono ?_; rintro e w2 ⟨hb2, r, rfl, hr0, hr1, hr2⟩; have HN2 : Hid (Blk w2 (w.heap.size) [.int .i64 re, .string rt, .int .i64 rl, .string rx, .bool ra] 49) := (Blk.drew HN1.out).below (hb2 (w.heap.size + 1)) (Nat.lt_succ_self _); have HQ2 : Hid (Blk w2 (w.heap.size + 1) [.string p, .int .u32 u, .int .i64 h, .int .u64 sv, .int .u64 sn, .string s, .int .u8 f] 25) := (Blk.drew HQ1.out).below (hb2 (w.heap.size + 1 + 1)) (Nat.lt_succ_self _); have HB2 : Hid (Below w.heap.size w w2) := HB1.out.drew.trans (hb2 _); clear hb2)
    | (go_at_call 10; refine (reqBytes_any _ p u h sv sn s f hp hs).mono ?_; rintro e w3 ⟨rfl, hb3⟩; have HN3 : Hid (Blk w3 (w.heap.size) [.int .i64 re, .string rt, .int .i64 rl, .string rx, .bool ra] 49) := HN2.out.below hb3 HN2.out.lt; have HQ3 : Hid (Blk w3 (w.heap.size + 1) [.string p, .int .u32 u, .int .i64 h, .int .u64 sv, .int .u64 sn, .string s, .int .u8 f] 25) := HQ2.out.below hb3 HQ2.out.lt; have HB3 : Hid (Below w.heap.size w w3) := HB2.out.trans (hb3.mono HB2.out.size); clear hb3))
  have hw1 : IntKind.i64.wrap (r + 48) = r + 48 := IntWalk.i64_in _ (by omega)
  have hw2 : IntKind.i64.wrap (r + 48 + (rt.size : Int)) = r + 48 + (rt.size : Int) := IntWalk.i64_in _ (by omega)
  have hw3 : IntKind.i64.wrap (r + 48 + (rt.size : Int) + (rx.size : Int)) = r + 48 + (rt.size : Int) + (rx.size : Int) := IntWalk.i64_in _ (by omega)
  have hw4 : IntKind.i64.wrap (r + 48 + (rt.size : Int) + (rx.size : Int) + ((p.size : Int) + (s.size : Int))) = r + 48 + (rt.size : Int) + (rx.size : Int) + ((p.size : Int) + (s.size : Int)) := IntWalk.i64_in _ (by omega)
  simp only [hw1, hw2, hw3, hw4]
  clear hw1 hw2 hw3 hw4
  by_cases hr : (1048576 : Int) < r + 48 + (rt.size : Int) + (rx.size : Int) + ((p.size : Int) + (s.size : Int))
  · go_wp2_with fail
    go_ret
    exact ⟨rfl, HB3.out⟩
  by_cases hx0 : x < 0
  · go_wp2_with fail
    go_ret
    exact ⟨rfl, HB3.out⟩
  by_cases hxn : (n : Int) < x
  · go_wp2_with fail
    go_ret
    exact ⟨rfl, HB3.out⟩
  obtain ⟨k, rfl⟩ : ∃ k : Nat, x = k := ⟨x.toNat, by omega⟩
  have hkn : k ≤ n := by omega
  have hcn : n ≤ c := by have := HA.out.1; omega
  have hn6 : n ≤ 65536 := hr2 (by omega)
  obtain ⟨A, hA⟩ : ∃ A, (if c = k then a else Option.map (fun x => x.add (k * 5)) a) = A := ⟨_, rfl⟩
  have S1 : Hid (w.heap.size ≤ w3.heap.size) := HB3.out.size
  have FC : Hid ((rcells (rs.take k)).length = k * 5) := by show _ = _; rw [rcells_length, List.length_take]; omega
  have FD : Hid (a = none → k = 0 ∧ c = 0) := fun h => by have := HNIL.out h; omega
  have FC2 : Hid ((rcells (rs.drop k)).length = (n - k) * 5) := by show _ = _; rw [rcells_length, List.length_drop]; omega
  have FD2 : Hid (A = none → n - k = 0 ∧ c - k = 0) := by
    intro h
    rw [← hA] at h
    split at h
    · have := HNIL.out h; omega
    · cases a with
      | none => have := HNIL.out rfl; omega
      | some y => cases h
  have FG2 : Hid (∀ w4, Below w.heap.size w w4 → ∀ ad, A = some ad → ∀ (j : Nat) u, (rcells (rs.drop k))[j]? = some u → w4.cell? (ad.add j) = some u) := by
    intro w4 hb
    have := (HA.out.below hb (Nat.le_refl _)).drop k
    rw [hA] at this
    exact this.cells
  have FN : Hid (∀ w3 : World, ∀ (j : Nat) u, (rcells [(⟨re, rt, rl, rx, ra⟩ : Rl)])[j]? = some u → (w3.alloc (.cells #[.int .i64 re, .string rt, .int .i64 rl, .string rx, .bool ra] 49)).cell? (Addr.add ⟨w3.heap.size, 0, none⟩ j) = some u) := by
    intro w3 j u hj
    have := Blk.new w3 [.int .i64 re, .string rt, .int .i64 rl, .string rx, .bool ra] 49
    rw [Addr.add_lit, Nat.zero_add]
    exact this.cell (by simpa [rcells] using hj)
  have b1 : Hid (k + 1 ≤ n + 1) := by show _ ≤ _; omega
  have b2 : Hid (k + 1 + (n - k) ≤ n + 1) := by show _ ≤ _; omega
  have b3 : Hid (0 + k ≤ n + 1) := by show _ ≤ _; omega
  have b4 : Hid (i0.bytes * (n + 1) ≤ 281474976710656) := by show _ ≤ _; rw [hz2]; omega
  have b5 : Hid (n + 1 ≤ maxLen) := by show _ ≤ _; unfold maxLen; omega
  have HKL : Hid (k ≤ rs.length) := by show _ ≤ _; omega
  clear q0 q1 q2 q3 q4 q5 q6 n1 n3 hr2 HQ1 HN1 HQ2 HN2 HB1 HB2 HA1
  go_wp2_with (first
    | (at_make; refine wpList_make_own w3 rfl _ _ 38 rfl w3.heap.size 49 i0 _ 5 Try.underlying38 hi hz0 hz1 .i64 .i64 _ (n + 1) rfl rfl (by simp) b4.out b5.out (Nat.le_refl _) ?_; intro w4 hown4 hgrow4; have HO4 : Hid (w4.ownsRow w3.heap.size 49 5 (.slice (some ⟨w3.heap.size, 0, none⟩) 0 (n + 1)) 0 []) := hown4; have HB34 : Hid (Below w3.heap.size w3 w4) := (Below.refl _ _).grown hgrow4 (Nat.le_refl _) (fun k e => by cases e); clear hown4 hgrow4)
    | (at_builtin; apply Hid.out))
  delta Hid
  have HB4 : Hid (Below w.heap.size w w4) := HB3.out.trans (HB34.out.mono S1.out)
  refine wpList_append_fits_any w4 rfl (.tmp 58) (.tmp 61) 38 rfl w3.heap.size 49 i0 5 Try.underlying38 hi hz1 w3.heap.size 0 (n + 1) [] rfl HO4.out a k c (rcells (rs.take k)) rfl FC.out FD.out ((HA.out.below HB4.out (Nat.le_refl _)).take k).cells (rcells_one _) b3.out ?_
  intro w5 hown5 hgrow5
  simp only [Nat.zero_add, List.nil_append] at hown5
  have HO5 : Hid (w5.ownsRow w3.heap.size 49 5 (.slice (some ⟨w3.heap.size, 0, none⟩) k (n + 1)) k (rcells (rs.take k))) := hown5
  have HB35 : Hid (Below w3.heap.size w3 w5) := HB34.out.grown hgrow5 HB34.out.size (fun k e => by have := Option.some.inj e; omega)
  have hn5 := HN3.out.below HB35.out HN3.out.lt
  have m0 := hn5.cell (j := 0) rfl
  have m1 := hn5.cell (j := 1) rfl
  have m2 := hn5.cell (j := 2) rfl
  have m3 := hn5.cell (j := 3) rfl
  have m4 := hn5.cell (j := 4) rfl
  clear hown5 hgrow5 hn5
  go_wp2_with (at_builtin; apply Hid.out)
  delta Hid
  refine wpList_append_fits (w5.alloc (.cells #[.int .i64 re, .string rt, .int .i64 rl, .string rx, .bool ra] 49)) rfl (.tmp 63) (.tmp 65) 38 rfl w3.heap.size 49 i0 5 Try.underlying38 hi hz1 w3.heap.size k (n + 1) (rcells (rs.take k)) rfl (ownsRow_turn HO5.out (Chg.alloc (fun _ => False) w5 _) (fun k e => id)) ⟨w5.heap.size, 0, none⟩ 1 1 (rcells [(⟨re, rt, rl, rx, ra⟩ : Rl)]) rfl rfl (FN.out w5) (rcells_one _) b1.out ?_
  intro w6 hown6 hgrow6
  have HO6 : Hid (w6.ownsRow w3.heap.size 49 5 (.slice (some ⟨w3.heap.size, 0, none⟩) (k + 1) (n + 1)) (k + 1) (rcells (rs.take k) ++ rcells [(⟨re, rt, rl, rx, ra⟩ : Rl)])) := hown6
  have HB36 : Hid (Below w3.heap.size w3 w6) := (HB35.out.alloc HB35.out.size _).grown hgrow6 (by simp; have := HB35.out.size; omega) (fun k e => by have := Option.some.inj e; omega)
  have HB6 : Hid (Below w.heap.size w w6) := HB3.out.trans (HB36.out.mono S1.out)
  clear hown6 hgrow6 m0 m1 m2 m3 m4
  go_wp2_with (at_builtin; apply Hid.out)
  delta Hid
  refine wpList_append_fits_any w6 rfl (.tmp 67) (.tmp 70) 38 rfl w3.heap.size 49 i0 5 Try.underlying38 hi hz1 w3.heap.size (k + 1) (n + 1) (rcells (rs.take k) ++ rcells [(⟨re, rt, rl, rx, ra⟩ : Rl)]) rfl HO6.out A (n - k) (c - k) (rcells (rs.drop k)) rfl FC2.out FD2.out (FG2.out w6 HB6.out) (rcells_one _) b2.out ?_
  intro w7 hown7 hgrow7
  have e7 : k + 1 + (n - k) = n + 1 := by omega
  rw [e7] at hown7 ⊢
  obtain ⟨X, hX⟩ : ∃ X, X = insR rs k (⟨re, rt, rl, rx, ra⟩ : Rl) := ⟨_, rfl⟩
  have HX : Hid (X = insR rs k (⟨re, rt, rl, rx, ra⟩ : Rl)) := hX
  have HXl : Hid (X.length = n + 1) := by show _ = _; rw [hX, insR_length HKL.out]; omega
  have hown7' : w7.ownsRow w3.heap.size 49 5 (.slice (some ⟨w3.heap.size, 0, none⟩) (n + 1) (n + 1)) (n + 1) (rcells X) := by
    rw [hX]
    unfold insR
    rw [rcells_append, rcells_append, ← List.append_assoc]
    exact hown7
  have hX7 : Rs w7.heap.size w7 (some ⟨w3.heap.size, 0, none⟩) (n + 1) X := rs_of_owns hown7' HXl.out
  have hb37 : Below w3.heap.size w3 w7 := HB36.out.grown hgrow7 HB36.out.size (fun k e => by have := Option.some.inj e; omega)
  have hb7 : Below w.heap.size w w7 := HB3.out.trans (hb37.mono S1.out)
  have hN7 := HN3.out.below hb37 HN3.out.lt
  have hQ7 := HQ3.out.below hb37 HQ3.out.lt
  clear hown7 hgrow7 hown7' HO4 HO5 HO6 HB34 HB35 HB36 HB4 HB6 FC FD FC2 FD2 FG2 FN b1 b2 b3 b4 b5 e7 hA hX hb37 HQ3 HN3 HB3
  obtain ⟨G, hG⟩ : ∃ G, w3.heap.size = G := ⟨_, rfl⟩
  rw [hG] at hX7
  simp only [hG]
  clear hG S1
  obtain ⟨q0, q1, q2, q3, q4, q5, q6⟩ := qall hQ7
  go_wp2_with fail
  refine (zzreq_blk w7 p u h sv sn s f).mono ?_
  rintro e w8 ⟨R, rfl, hR3, hR8, hb78⟩
  have hb8 : Below w.heap.size w w8 := hb7.trans (hb78.mono hb7.size)
  have hN8 := hN7.below hb78 hN7.lt
  have hX8 := (hX7.below hb78 (Nat.le_refl _)).mono hb78.size
  clear q0 q1 q2 q3 q4 q5 q6 hb7 hN7 hQ7 hX7 hb78 hR3
  obtain ⟨q0, q1, q2, q3, q4, q5, q6⟩ := qall hR8
  go_wp2_with fail
  obtain ⟨O, hO⟩ : ∃ O, w8.heap.size = O := ⟨_, rfl⟩
  obtain ⟨w9, hw9⟩ : ∃ w9, w9 = w8.alloc (.cells #[.string p, .int .u32 u, .int .i64 h, .int .u64 sv, .int .u64 sn, .string s, .int .u8 f] 30) := ⟨_, rfl⟩
  have hb9 : Below w.heap.size w w9 := by rw [hw9]; exact hb8.alloc hb8.size _
  have hb89 : Below w8.heap.size w8 w9 := by rw [hw9]; exact (Below.refl _ _).alloc (Nat.le_refl _) _
  have hR9 : Blk w9 R [.string p, .int .u32 u, .int .i64 h, .int .u64 sv, .int .u64 sn, .string s, .int .u8 f] 30 := by rw [hw9]; exact hR8.old _
  have hN9 : Blk w9 (w.heap.size) [.int .i64 re, .string rt, .int .i64 rl, .string rx, .bool ra] 49 := by rw [hw9]; exact hN8.old _
  have hO9 : Blk w9 O [.string p, .int .u32 u, .int .i64 h, .int .u64 sv, .int .u64 sn, .string s, .int .u8 f] 30 := by rw [hw9, ← hO]; exact Blk.new w8 _ _
  have hX9 := (hX8.below hb89 (Nat.le_refl _)).mono hb89.size
  rw [← hw9]
  simp only [hO]
  clear hw9 hO q0 q1 q2 q3 q4 q5 q6 hR8 hN8 hX8 hb8 hb89
  obtain ⟨F, hF⟩ : ∃ F, fst rs = F := ⟨_, rfl⟩
  obtain ⟨E1, hE1⟩ : ∃ E, vE rs (fst rs) = E := ⟨_, rfl⟩
  obtain ⟨L1, hL1⟩ : ∃ E, vL rs (fst rs) = E := ⟨_, rfl⟩
  obtain ⟨E2, hE2⟩ : ∃ E, vE X (fst X) = E := ⟨_, rfl⟩
  obtain ⟨L2, hL2⟩ : ∃ E, vL X (fst X) = E := ⟨_, rfl⟩
  have HF : Hid (fst rs = F) := hF
  have HE1 : Hid (vE rs (fst rs) = E1) := hE1
  have HL1 : Hid (vL rs (fst rs) = L1) := hL1
  have HE2 : Hid (vE X (fst X) = E2) := hE2
  have HL2 : Hid (vL X (fst X) = L2) := hL2
  clear hF hE1 hL1 hE2 hL2
  refine (list_any w9 a n c rs hz hN ((HA.out.below hb9 (Nat.le_refl _)).mono hb9.size) (fun h => (HNIL.out h).1)).mono ?_
  rintro e w10 ⟨lb1, rfl, hlb1, hLs1, hbl1⟩
  have hb10 : Below w.heap.size w w10 := hb9.trans (hbl1.mono hb9.size)
  have hlt1 : lb1 < w10.heap.size := by obtain ⟨_, _, _, _, h0, _⟩ := hLs1; exact World.block_lt_of_cell? _ _ h0
  have hX10 := (hX9.below hbl1 (Nat.le_refl _)).mono hbl1.size
  have hR10 := hR9.below hbl1 hR9.lt
  have hO10 := hO9.below hbl1 hO9.lt
  have hN10 := hN9.below hbl1 hN9.lt
  clear hR9 hO9 hN9 hX9 hb9 hbl1 hlb1
  go_wp2_with fail
  refine (decide_any w10 lb1 (.pointer (some ⟨R, 0, none⟩)) rs hlt1 (by rw [hz]; omega) hLs1).mono ?_
  rintro e w11 ⟨rfl, hbd1⟩
  rw [HE1.out, HL1.out]
  have hb11 : Below w.heap.size w w11 := hb10.trans (hbd1.mono hb10.size)
  have hX11 := (hX10.below hbd1 (Nat.le_refl _)).mono hbd1.size
  have hR11 := hR10.below hbd1 hR10.lt
  have hO11 := hO10.below hbd1 hO10.lt
  have hN11 := hN10.below hbd1 hN10.lt
  clear hR10 hO10 hN10 hX10 hb10 hbd1 hlt1 hLs1
  go_wp2_with fail
  obtain ⟨V1, hV1⟩ : ∃ O, w11.heap.size = O := ⟨_, rfl⟩
  obtain ⟨w12, hw12⟩ : ∃ w5, w5 = w11.alloc (.cells #[.int .i64 E1, .int .i64 L1] 43) := ⟨_, rfl⟩
  have hb12 : Below w.heap.size w w12 := by rw [hw12]; exact hb11.alloc hb11.size _
  have hV112 : Blk w12 V1 [.int .i64 E1, .int .i64 L1] 43 := by rw [hw12, ← hV1]; exact Blk.new w11 _ _
  have hbv1 : Below w11.heap.size w11 w12 := by rw [hw12]; exact (Below.refl _ _).alloc (Nat.le_refl _) _
  have hX12 := (hX11.below hbv1 (Nat.le_refl _)).mono hbv1.size
  have hR12 : Blk w12 R [.string p, .int .u32 u, .int .i64 h, .int .u64 sv, .int .u64 sn, .string s, .int .u8 f] 30 := by rw [hw12]; exact hR11.old _
  have hO12 : Blk w12 O [.string p, .int .u32 u, .int .i64 h, .int .u64 sv, .int .u64 sn, .string s, .int .u8 f] 30 := by rw [hw12]; exact hO11.old _
  have hN12 : Blk w12 (w.heap.size) [.int .i64 re, .string rt, .int .i64 rl, .string rx, .bool ra] 49 := by rw [hw12]; exact hN11.old _
  rw [← hw12]
  simp only [hV1]
  clear hw12 hV1 hb11 hX11 hbv1 hR11 hO11 hN11
  refine (list_any w12 (some ⟨G, 0, none⟩) (n + 1) (n + 1) X HXl.out (by omega) hX12 (fun h => by cases h)).mono ?_
  rintro e w13 ⟨lb2, rfl, hlb2, hLs2, hbl2⟩
  have hb13 : Below w.heap.size w w13 := hb12.trans (hbl2.mono hb12.size)
  have hlt2 : lb2 < w13.heap.size := by obtain ⟨_, _, _, _, h0, _⟩ := hLs2; exact World.block_lt_of_cell? _ _ h0
  have hX13 := (hX12.below hbl2 (Nat.le_refl _)).mono hbl2.size
  have hR13 := hR12.below hbl2 hR12.lt
  have hO13 := hO12.below hbl2 hO12.lt
  have hN13 := hN12.below hbl2 hN12.lt
  have hV113 := hV112.below hbl2 hV112.lt
  clear hR12 hO12 hN12 hV112 hX12 hb12 hbl2 hlb2
  go_wp2_with fail
  refine (decide_any w13 lb2 (.pointer (some ⟨R, 0, none⟩)) X hlt2 (by rw [HXl.out]; omega) hLs2).mono ?_
  rintro e w14 ⟨rfl, hbd2⟩
  rw [HE2.out, HL2.out]
  have hb14 : Below w.heap.size w w14 := hb13.trans (hbd2.mono hb13.size)
  have hX14 := (hX13.below hbd2 (Nat.le_refl _)).mono hbd2.size
  have hR14 := hR13.below hbd2 hR13.lt
  have hO14 := hO13.below hbd2 hO13.lt
  have hN14 := hN13.below hbd2 hN13.lt
  have hV114 := hV113.below hbd2 hV113.lt
  clear hR13 hO13 hN13 hV113 hX13 hb13 hbd2 hlt2 hLs2
  go_wp2_with fail
  obtain ⟨V2, hV2⟩ : ∃ O, w14.heap.size = O := ⟨_, rfl⟩
  obtain ⟨w15, hw15⟩ : ∃ w5, w5 = w14.alloc (.cells #[.int .i64 E2, .int .i64 L2] 43) := ⟨_, rfl⟩
  have hb15 : Below w.heap.size w w15 := by rw [hw15]; exact hb14.alloc hb14.size _
  have hV215 : Blk w15 V2 [.int .i64 E2, .int .i64 L2] 43 := by rw [hw15, ← hV2]; exact Blk.new w14 _ _
  have hbv2 : Below w14.heap.size w14 w15 := by rw [hw15]; exact (Below.refl _ _).alloc (Nat.le_refl _) _
  have hX15 := (hX14.below hbv2 (Nat.le_refl _)).mono hbv2.size
  have hR15 : Blk w15 R [.string p, .int .u32 u, .int .i64 h, .int .u64 sv, .int .u64 sn, .string s, .int .u8 f] 30 := by rw [hw15]; exact hR14.old _
  have hO15 : Blk w15 O [.string p, .int .u32 u, .int .i64 h, .int .u64 sv, .int .u64 sn, .string s, .int .u8 f] 30 := by rw [hw15]; exact hO14.old _
  have hN15 : Blk w15 (w.heap.size) [.int .i64 re, .string rt, .int .i64 rl, .string rx, .bool ra] 49 := by rw [hw15]; exact hN14.old _
  have hV115 : Blk w15 V1 [.int .i64 E1, .int .i64 L1] 43 := by rw [hw15]; exact hV114.old _
  rw [← hw15]
  simp only [hV2]
  clear hw15 hV2 hb14 hX14 hbv2 hR14 hO14 hN14 hV114
  refine (firstAlways_any w15 w.heap.size a n c rs hz hN (HA.out.below hb15 (Nat.le_refl _))).mono ?_
  rintro e w' ⟨rfl, rfl⟩
  rw [HF.out]
  have HR : Hid (Blk w15.drew R [.string p, .int .u32 u, .int .i64 h, .int .u64 sv, .int .u64 sn, .string s, .int .u8 f] 30) := hR15.drew
  have HO : Hid (Blk w15.drew O [.string p, .int .u32 u, .int .i64 h, .int .u64 sv, .int .u64 sn, .string s, .int .u8 f] 30) := hO15.drew
  have HN : Hid (Blk w15.drew (w.heap.size) [.int .i64 re, .string rt, .int .i64 rl, .string rx, .bool ra] 49) := hN15.drew
  have HV1 : Hid (Blk w15.drew V1 [.int .i64 E1, .int .i64 L1] 43) := hV115.drew
  have HV2 : Hid (Blk w15.drew V2 [.int .i64 E2, .int .i64 L2] 43) := hV215.drew
  have HSW : Hid (w.heap.size ≤ w15.drew.heap.size) := hb15.drew.size
  have HAW : Hid (Rs w.heap.size w15.drew a c rs) := HA.out.below hb15.drew (Nat.le_refl _)
  have HBW : Hid (Below w.heap.size w w15.drew) := hb15.drew
  obtain ⟨q0, q1, q2, q3, q4, q5, q6⟩ := qall hR15
  obtain ⟨o0, o1, o2, o3, o4, o5, o6⟩ := qall hO15
  have v10 := hV115.cell (j := 0) rfl
  have v11 := hV115.cell (j := 1) rfl
  clear hR15 hO15 hN15 hV115 hV215 hb15 hX15 hs1
  rcases fst_cases rs with hf | ⟨j, g, hf, hj⟩
  · obtain rfl : F = -1 := by rw [← HF.out]; exact hf
    cases ra
    · have h1 : fst X = -1 := by rw [HX.out]; exact fst_ins_none HKL.out hf rfl
      obtain rfl : E2 = E1 := by rw [← HE2.out, ← HE1.out, hf, h1]; rfl
      obtain rfl : L2 = L1 := by rw [← HL2.out, ← HL1.out, hf, h1]; rfl
      clear hf h1
      go_wp2_with fail
      go_region_with (go_at_call 23; refine (verdict_any w15.drew w.heap.size a n c rs (-1) E2 L2 hz hN HSW.out HAW.out HF.out HE1.out HL1.out).mono ?_; rintro e wz ⟨rfl, hbz⟩; have hzR := qall (HR.out.below hbz HR.out.lt); have hzO := qall (HO.out.below hbz HO.out.lt); have z10 := (HV1.out.below hbz HV1.out.lt).cell (j := 0) rfl; have z11 := (HV1.out.below hbz HV1.out.lt).cell (j := 1) rfl; have z20 := (HV2.out.below hbz HV2.out.lt).cell (j := 0) rfl; have z21 := (HV2.out.below hbz HV2.out.lt).cell (j := 1) rfl; have m0 := (HN.out.below hbz HN.out.lt).cell (j := 0) rfl; have m2 := (HN.out.below hbz HN.out.lt).cell (j := 2) rfl; have m4 := (HN.out.below hbz HN.out.lt).cell (j := 4) rfl; have HBZ : Hid (Below w.heap.size w wz) := HBW.out.trans (hbz.mono HSW.out); obtain ⟨zr0, zr1, zr2, zr3, zr4, zr5, zr6⟩ := hzR; obtain ⟨zo0, zo1, zo2, zo3, zo4, zo5, zo6⟩ := hzO; clear hbz)
      all_goals
        go_wp2_with fail
        go_ret
        exact ⟨by simp, HBZ.out⟩
    · have h1 : fst X = (k : Int) := by rw [HX.out]; exact fst_ins_new HKL.out (fun i q _ hq => fst_miss hf i q hq) rfl
      have hg : X[k]? = some (⟨re, rt, rl, rx, true⟩ : Rl) := by rw [HX.out]; exact insR_eq HKL.out
      obtain rfl : E2 = re := by rw [← HE2.out, h1]; exact vE_hit hg
      obtain rfl : L2 = rl := by rw [← HL2.out, h1]; exact vL_hit hg
      clear hf h1 hg
      go_wp2_with fail
      go_region_with (go_at_call 23; refine (verdict_any w15.drew w.heap.size a n c rs (-1) E1 L1 hz hN HSW.out HAW.out HF.out HE1.out HL1.out).mono ?_; rintro e wz ⟨rfl, hbz⟩; have hzR := qall (HR.out.below hbz HR.out.lt); have hzO := qall (HO.out.below hbz HO.out.lt); have z10 := (HV1.out.below hbz HV1.out.lt).cell (j := 0) rfl; have z11 := (HV1.out.below hbz HV1.out.lt).cell (j := 1) rfl; have z20 := (HV2.out.below hbz HV2.out.lt).cell (j := 0) rfl; have z21 := (HV2.out.below hbz HV2.out.lt).cell (j := 1) rfl; have m0 := (HN.out.below hbz HN.out.lt).cell (j := 0) rfl; have m2 := (HN.out.below hbz HN.out.lt).cell (j := 2) rfl; have m4 := (HN.out.below hbz HN.out.lt).cell (j := 4) rfl; have HBZ : Hid (Below w.heap.size w wz) := HBW.out.trans (hbz.mono HSW.out); obtain ⟨zr0, zr1, zr2, zr3, zr4, zr5, zr6⟩ := hzR; obtain ⟨zo0, zo1, zo2, zo3, zo4, zo5, zo6⟩ := hzO; clear hbz)
      all_goals
        go_wp2_with fail
        go_ret
        exact ⟨by simp, HBZ.out⟩
  · have hjn : j < n := by rw [← hz]; exact (List.getElem?_eq_some_iff.1 hj).1
    obtain rfl : F = (j : Int) := by rw [← HF.out]; exact hf
    by_cases hjk : j < k
    · have h1 : fst X = (j : Int) := by rw [HX.out]; exact fst_ins_old HKL.out hf hjk
      have hg : X[j]? = some g := by rw [HX.out, insR_lt HKL.out hjk]; exact hj
      obtain rfl : E2 = E1 := by rw [← HE2.out, ← HE1.out, hf, h1, vE_hit hg, vE_hit hj]
      obtain rfl : L2 = L1 := by rw [← HL2.out, ← HL1.out, hf, h1, vL_hit hg, vL_hit hj]
      have l2 : ¬ (k : Int) ≤ (j : Int) := by omega
      clear hf h1 hg hj
      cases ra
      · go_wp2_with fail
        go_region_with (go_at_call 23; refine (verdict_any w15.drew w.heap.size a n c rs (j : Int) E2 L2 hz hN HSW.out HAW.out HF.out HE1.out HL1.out).mono ?_; rintro e wz ⟨rfl, hbz⟩; have hzR := qall (HR.out.below hbz HR.out.lt); have hzO := qall (HO.out.below hbz HO.out.lt); have z10 := (HV1.out.below hbz HV1.out.lt).cell (j := 0) rfl; have z11 := (HV1.out.below hbz HV1.out.lt).cell (j := 1) rfl; have z20 := (HV2.out.below hbz HV2.out.lt).cell (j := 0) rfl; have z21 := (HV2.out.below hbz HV2.out.lt).cell (j := 1) rfl; have m0 := (HN.out.below hbz HN.out.lt).cell (j := 0) rfl; have m2 := (HN.out.below hbz HN.out.lt).cell (j := 2) rfl; have m4 := (HN.out.below hbz HN.out.lt).cell (j := 4) rfl; have HBZ : Hid (Below w.heap.size w wz) := HBW.out.trans (hbz.mono HSW.out); obtain ⟨zr0, zr1, zr2, zr3, zr4, zr5, zr6⟩ := hzR; obtain ⟨zo0, zo1, zo2, zo3, zo4, zo5, zo6⟩ := hzO; clear hbz)
        all_goals
          go_wp2_with fail
          go_ret
          exact ⟨by simp, HBZ.out⟩
      · go_wp2_with fail
        go_region_with (go_at_call 23; refine (verdict_any w15.drew w.heap.size a n c rs (j : Int) E2 L2 hz hN HSW.out HAW.out HF.out HE1.out HL1.out).mono ?_; rintro e wz ⟨rfl, hbz⟩; have hzR := qall (HR.out.below hbz HR.out.lt); have hzO := qall (HO.out.below hbz HO.out.lt); have z10 := (HV1.out.below hbz HV1.out.lt).cell (j := 0) rfl; have z11 := (HV1.out.below hbz HV1.out.lt).cell (j := 1) rfl; have z20 := (HV2.out.below hbz HV2.out.lt).cell (j := 0) rfl; have z21 := (HV2.out.below hbz HV2.out.lt).cell (j := 1) rfl; have m0 := (HN.out.below hbz HN.out.lt).cell (j := 0) rfl; have m2 := (HN.out.below hbz HN.out.lt).cell (j := 2) rfl; have m4 := (HN.out.below hbz HN.out.lt).cell (j := 4) rfl; have HBZ : Hid (Below w.heap.size w wz) := HBW.out.trans (hbz.mono HSW.out); obtain ⟨zr0, zr1, zr2, zr3, zr4, zr5, zr6⟩ := hzR; obtain ⟨zo0, zo1, zo2, zo3, zo4, zo5, zo6⟩ := hzO; clear hbz)
        all_goals
          go_wp2_with fail
          go_ret
          exact ⟨by simp, HBZ.out⟩
    · have l2 : (k : Int) ≤ (j : Int) := by omega
      cases ra
      · have h1 : fst X = ((j + 1 : Nat) : Int) := by rw [HX.out]; exact fst_ins_later HKL.out hf (by omega) rfl
        have hg : X[j + 1]? = some g := by rw [HX.out, insR_gt HKL.out (by omega)]; exact hj
        obtain rfl : E2 = E1 := by rw [← HE2.out, ← HE1.out, hf, h1, vE_hit hg, vE_hit hj]
        obtain rfl : L2 = L1 := by rw [← HL2.out, ← HL1.out, hf, h1, vL_hit hg, vL_hit hj]
        clear hf h1 hg hj
        go_wp2_with fail
        go_region_with (go_at_call 23; refine (verdict_any w15.drew w.heap.size a n c rs (j : Int) E2 L2 hz hN HSW.out HAW.out HF.out HE1.out HL1.out).mono ?_; rintro e wz ⟨rfl, hbz⟩; have hzR := qall (HR.out.below hbz HR.out.lt); have hzO := qall (HO.out.below hbz HO.out.lt); have z10 := (HV1.out.below hbz HV1.out.lt).cell (j := 0) rfl; have z11 := (HV1.out.below hbz HV1.out.lt).cell (j := 1) rfl; have z20 := (HV2.out.below hbz HV2.out.lt).cell (j := 0) rfl; have z21 := (HV2.out.below hbz HV2.out.lt).cell (j := 1) rfl; have m0 := (HN.out.below hbz HN.out.lt).cell (j := 0) rfl; have m2 := (HN.out.below hbz HN.out.lt).cell (j := 2) rfl; have m4 := (HN.out.below hbz HN.out.lt).cell (j := 4) rfl; have HBZ : Hid (Below w.heap.size w wz) := HBW.out.trans (hbz.mono HSW.out); obtain ⟨zr0, zr1, zr2, zr3, zr4, zr5, zr6⟩ := hzR; obtain ⟨zo0, zo1, zo2, zo3, zo4, zo5, zo6⟩ := hzO; clear hbz)
        all_goals
          go_wp2_with fail
          go_ret
          exact ⟨by simp, HBZ.out⟩
      · have h1 : fst X = (k : Int) := by rw [HX.out]; exact fst_ins_new HKL.out (fun i q hi hq => (fst_spec hf).2 i q (by omega) hq) rfl
        have hg : X[k]? = some (⟨re, rt, rl, rx, true⟩ : Rl) := by rw [HX.out]; exact insR_eq HKL.out
        obtain rfl : E2 = re := by rw [← HE2.out, h1]; exact vE_hit hg
        obtain rfl : L2 = rl := by rw [← HL2.out, h1]; exact vL_hit hg
        clear hf h1 hg hj
        go_wp2_with fail
        go_region_with (go_at_call 23; refine (verdict_any w15.drew w.heap.size a n c rs (j : Int) E1 L1 hz hN HSW.out HAW.out HF.out HE1.out HL1.out).mono ?_; rintro e wz ⟨rfl, hbz⟩; have hzR := qall (HR.out.below hbz HR.out.lt); have hzO := qall (HO.out.below hbz HO.out.lt); have z10 := (HV1.out.below hbz HV1.out.lt).cell (j := 0) rfl; have z11 := (HV1.out.below hbz HV1.out.lt).cell (j := 1) rfl; have z20 := (HV2.out.below hbz HV2.out.lt).cell (j := 0) rfl; have z21 := (HV2.out.below hbz HV2.out.lt).cell (j := 1) rfl; have m0 := (HN.out.below hbz HN.out.lt).cell (j := 0) rfl; have m2 := (HN.out.below hbz HN.out.lt).cell (j := 2) rfl; have m4 := (HN.out.below hbz HN.out.lt).cell (j := 4) rfl; have HBZ : Hid (Below w.heap.size w wz) := HBW.out.trans (hbz.mono HSW.out); obtain ⟨zr0, zr1, zr2, zr3, zr4, zr5, zr6⟩ := hzR; obtain ⟨zo0, zo1, zo2, zo3, zo4, zo5, zo6⟩ := hzO; clear hbz)
        all_goals
          go_wp2_with fail
          go_ret
          exact ⟨by simp, HBZ.out⟩
end Go.Proofs.Qxb6608618a
