import Derived.Test.Qxb6608618aDec3
import Derived.Test.Qxb6608618aDec5
namespace Go.Proofs.Qxb6608618a
open Go.RowKit

theorem qall {w : World} {b : Nat} {t : TypeId} {p : ByteArray} {u h sv sn : Int} {s : ByteArray} {f : Int} (H : Blk w b [.string p, .int .u32 u, .int .i64 h, .int .u64 sv, .int .u64 sn, .string s, .int .u8 f] t) : w.cell? ⟨b, 0, none⟩ = some (.string p) ∧ w.cell? ⟨b, 1, none⟩ = some (.int .u32 u) ∧ w.cell? ⟨b, 2, none⟩ = some (.int .i64 h) ∧ w.cell? ⟨b, 3, none⟩ = some (.int .u64 sv) ∧ w.cell? ⟨b, 4, none⟩ = some (.int .u64 sn) ∧ w.cell? ⟨b, 5, none⟩ = some (.string s) ∧ w.cell? ⟨b, 6, none⟩ = some (.int .u8 f) :=
  ⟨H.cell rfl, H.cell rfl, H.cell rfl, H.cell rfl, H.cell rfl, H.cell rfl, H.cell rfl⟩

theorem zzreq_blk (w : World) (p : ByteArray) (u h sv sn : Int) (s : ByteArray) (f : Int) :
    Calls Try.prog 11 #[.agg #[.string p, .int .u32 u, .int .i64 h, .int .u64 sv, .int .u64 sn, .string s, .int .u8 f]] w fun e w' => ∃ R, e = .returned (.pointer (some ⟨R, 0, none⟩)) ∧ w.heap.size ≤ R ∧ Blk w' R [.string p, .int .u32 u, .int .i64 h, .int .u64 sv, .int .u64 sn, .string s, .int .u8 f] 30 ∧ Below w.heap.size w w' := by
  refine (zzreq_any w p u h sv sn s f).mono ?_
  rintro e w' ⟨rfl, rfl⟩
  refine ⟨_, rfl, by omega, ?_, ((Below.refl _ _).alloc (Nat.le_refl _) _).alloc (by simp) _⟩
  have := Blk.new (w.alloc (.cells #[.string p, .int .u32 u, .int .i64 h, .int .u64 sv, .int .u64 sn, .string s, .int .u8 f] 25)) [.string p, .int .u32 u, .int .i64 h, .int .u64 sv, .int .u64 sn, .string s, .int .u8 f] 30
  simpa using this

set_option maxHeartbeats 4000000 in
theorem dsplit_walk (w : World) (a : Option Addr) (n c : Nat) (rs : List Rl) (x : Int) (p : ByteArray) (u h sv sn : Int) (s : ByteArray) (f : Int) (hz : rs.length = n) (ha : Rs w.heap.size w a c rs) (hnil : a = none → n = 0) :
    Calls Try.prog 5 #[.slice a n c, .int .i64 x, .agg #[.string p, .int .u32 u, .int .i64 h, .int .u64 sv, .int .u64 sn, .string s, .int .u8 f]] w fun e w' => e = .returned (.bool true) ∧ Below w.heap.size w w' := by
  have HNIL : Hid (a = none → n = 0) := hnil
  clear hnil
  obtain ⟨w0, hw0⟩ : ∃ w0, w0 = w.alloc (.cells #[.string p, .int .u32 u, .int .i64 h, .int .u64 sv, .int .u64 sn, .string s, .int .u8 f] 25) := ⟨_, rfl⟩
  have hb0 : Below w.heap.size w w0 := by rw [hw0]; exact (Below.refl _ _).alloc (Nat.le_refl _) _
  have hs0 : w.heap.size < w0.heap.size := by rw [hw0]; simp
  have hq0 : Blk w0 w.heap.size [.string p, .int .u32 u, .int .i64 h, .int .u64 sv, .int .u64 sn, .string s, .int .u8 f] 25 := by rw [hw0]; exact Blk.new w _ _
  have ha0 : Rs w0.heap.size w0 a c rs := (ha.below hb0 (Nat.le_refl _)).mono (by omega)
  have HA : Hid (Rs w.heap.size w a c rs) := ha
  clear ha
  go_enter Try.func5, Try.ntmps5
  go_wp2_with fail
  rw [← hw0]
  clear hw0
  refine (bytesDSplit w0 a n c rs x p u h sv sn s f hz ha0).mono ?_
  rintro e w1 ⟨hb01, rfl | ⟨rfl, hN, hp, hs⟩⟩
  · go_wp2_with fail
    go_ret
    exact ⟨rfl, hb0.trans (hb01.mono (by omega))⟩
  have hb1 := hb0.trans (hb01.mono (by omega : w.heap.size ≤ w0.heap.size))
  have hq1 := hq0.below hb01 hs0
  have hs1 : w.heap.size < w1.heap.size := hq1.lt
  obtain ⟨q0, q1, q2, q3, q4, q5, q6⟩ := qall hq1
  have HB1 : Hid (Below w.heap.size w w1) := hb1
  have HQ1 : Hid (Blk w1 w.heap.size [.string p, .int .u32 u, .int .i64 h, .int .u64 sv, .int .u64 sn, .string s, .int .u8 f] 25) := hq1
  have HA1 : Hid (Rs w.heap.size w1 a c rs) := HA.out.below hb1 (Nat.le_refl _)
  clear hb0 hb01 hq0 ha0 hb1 hq1
  have hps : p.size + s.size ≤ 2097152 := by omega
  go_wp2_with fail
  go_region_held3 (fun w' => w'.cell? ⟨w.heap.size, 0, none⟩ = some (.string p) ∧ w'.cell? ⟨w.heap.size, 1, none⟩ = some (.int .u32 u) ∧ w'.cell? ⟨w.heap.size, 2, none⟩ = some (.int .i64 h) ∧ w'.cell? ⟨w.heap.size, 3, none⟩ = some (.int .u64 sv) ∧ w'.cell? ⟨w.heap.size, 4, none⟩ = some (.int .u64 sn) ∧ w'.cell? ⟨w.heap.size, 5, none⟩ = some (.string s) ∧ w'.cell? ⟨w.heap.size, 6, none⟩ = some (.int .u8 f)) (first | (go_keep; done) | exact qall HQ3.out | exact qall HQ2.out) (first
    | (go_at_call 19; refine (rulesBytes_any _ w.heap.size a n c rs hz (by exact HA1.out)).mono ?_; rintro e w2 ⟨hb2, r, rfl, hr0, hr1, hr2⟩; have HQ2 : Hid (Blk w2 w.heap.size [.string p, .int .u32 u, .int .i64 h, .int .u64 sv, .int .u64 sn, .string s, .int .u8 f] 25) := (Blk.drew HQ1.out).below (hb2 (w.heap.size + 1)) (Nat.lt_succ_self _); have HB2 : Hid (Below w.heap.size w w2) := HB1.out.drew.trans (hb2 _); clear hb2)
    | (go_at_call 10; refine (reqBytes_any _ p u h sv sn s f hp hs).mono ?_; rintro e w3 ⟨rfl, hb3⟩; have HQ3 : Hid (Blk w3 w.heap.size [.string p, .int .u32 u, .int .i64 h, .int .u64 sv, .int .u64 sn, .string s, .int .u8 f] 25) := HQ2.out.below hb3 HQ2.out.lt; have HB3 : Hid (Below w.heap.size w w3) := HB2.out.trans (hb3.mono HB2.out.size); clear hb3))
  have hw : IntKind.i64.wrap (r + ((p.size : Int) + (s.size : Int))) = r + ((p.size : Int) + (s.size : Int)) := IntWalk.i64_in _ (by omega)
  rw [hw]
  clear hw
  by_cases hr : (1048576 : Int) < r + ((p.size : Int) + (s.size : Int))
  · go_wp2_with fail
    go_ret
    exact ⟨rfl, HB3.out⟩
  by_cases hx0 : x < 0
  · go_wp2_with fail
    go_ret
    exact ⟨rfl, HB3.out⟩
  by_cases hxn : (n : Int) < x
  · go_wp2_with fail
    go_ret
    exact ⟨rfl, HB3.out⟩
  obtain ⟨k, rfl⟩ : ∃ k : Nat, x = k := ⟨x.toNat, by omega⟩
  have hkn : k ≤ n := by omega
  have hcn : n ≤ c := by have := HA.out.1; omega
  obtain ⟨A, hA⟩ : ∃ A, (if c = k then a else Option.map (fun x => x.add (k * 5)) a) = A := ⟨_, rfl⟩
  have HANIL : Hid (A = none → n - k = 0) := by
    intro h
    rw [← hA] at h
    split at h
    · have := HNIL.out h; omega
    · cases a with
      | none => have := HNIL.out rfl; omega
      | some y => cases h
  have HD : Hid (∀ w', Below w.heap.size w w' → Rs w.heap.size w' A (c - k) (rs.drop k)) := by
    intro w' hb
    have := (HA.out.below hb (Nat.le_refl _)).drop k
    rw [hA] at this
    exact this
  clear q0 q1 q2 q3 q4 q5 q6 hr2
  obtain ⟨q0, q1, q2, q3, q4, q5, q6⟩ := qall HQ3.out
  go_wp2_with fail
  refine (zzreq_blk w3 p u h sv sn s f).mono ?_
  rintro e w4 ⟨R, rfl, hR3, hR4, hb4⟩
  have HS3 : Hid (w.heap.size ≤ w3.heap.size) := HB3.out.size
  have HB4 : Hid (Below w.heap.size w w4) := HB3.out.trans (hb4.mono HB3.out.size)
  have HR4 : Hid (Blk w4 R [.string p, .int .u32 u, .int .i64 h, .int .u64 sv, .int .u64 sn, .string s, .int .u8 f] 30) := hR4
  have hRl := hR4.lt
  clear q0 q1 q2 q3 q4 q5 q6
  obtain ⟨q0, q1, q2, q3, q4, q5, q6⟩ := qall hR4
  clear hb4 hR4 HQ1 HQ2 HQ3 HB1 HB2 HA1
  go_wp2_with fail
  obtain ⟨O, hO⟩ : ∃ O, w4.heap.size = O := ⟨_, rfl⟩
  obtain ⟨w5, hw5⟩ : ∃ w5, w5 = w4.alloc (.cells #[.string p, .int .u32 u, .int .i64 h, .int .u64 sv, .int .u64 sn, .string s, .int .u8 f] 30) := ⟨_, rfl⟩
  have hb5 : Below w.heap.size w w5 := by rw [hw5]; exact HB4.out.alloc HB4.out.size _
  have hR5 : Blk w5 R [.string p, .int .u32 u, .int .i64 h, .int .u64 sv, .int .u64 sn, .string s, .int .u8 f] 30 := by rw [hw5]; exact HR4.out.old _
  have hO5 : Blk w5 O [.string p, .int .u32 u, .int .i64 h, .int .u64 sv, .int .u64 sn, .string s, .int .u8 f] 30 := by rw [hw5, ← hO]; exact Blk.new w4 _ _
  rw [← hw5]
  simp only [hO]
  clear hw5 hO q0 q1 q2 q3 q4 q5 q6 hRl HR4 HB4 HB3 hR3
  obtain ⟨F, hF⟩ : ∃ F, fst rs = F := ⟨_, rfl⟩
  obtain ⟨E1, hE1⟩ : ∃ E, vE rs (fst rs) = E := ⟨_, rfl⟩
  obtain ⟨L1, hL1⟩ : ∃ E, vL rs (fst rs) = E := ⟨_, rfl⟩
  obtain ⟨E2, hE2⟩ : ∃ E, vE (rs.take k) (fst (rs.take k)) = E := ⟨_, rfl⟩
  obtain ⟨L2, hL2⟩ : ∃ E, vL (rs.take k) (fst (rs.take k)) = E := ⟨_, rfl⟩
  obtain ⟨E3, hE3⟩ : ∃ E, vE (rs.drop k) (fst (rs.drop k)) = E := ⟨_, rfl⟩
  obtain ⟨L3, hL3⟩ : ∃ E, vL (rs.drop k) (fst (rs.drop k)) = E := ⟨_, rfl⟩
  have HF : Hid (fst rs = F) := hF
  have HE1 : Hid (vE rs (fst rs) = E1) := hE1
  have HL1 : Hid (vL rs (fst rs) = L1) := hL1
  have HE2 : Hid (vE (rs.take k) (fst (rs.take k)) = E2) := hE2
  have HL2 : Hid (vL (rs.take k) (fst (rs.take k)) = L2) := hL2
  have HE3 : Hid (vE (rs.drop k) (fst (rs.drop k)) = E3) := hE3
  have HL3 : Hid (vL (rs.drop k) (fst (rs.drop k)) = L3) := hL3
  have HTL : Hid ((rs.take k).length = k) := by show _ = _; rw [List.length_take]; omega
  have HDL : Hid ((rs.drop k).length = n - k) := by show _ = _; rw [List.length_drop]; omega
  clear hF hE1 hL1 hE2 hL2 hE3 hL3
  refine (list_any w5 a n c rs hz hN ((HA.out.below hb5 (Nat.le_refl _)).mono hb5.size) HNIL.out).mono ?_
  rintro e w6 ⟨lb1, rfl, hlb1, hLs1, hbl1⟩
  have hb6 : Below w.heap.size w w6 := hb5.trans (hbl1.mono hb5.size)
  have hlt1 : lb1 < w6.heap.size := by obtain ⟨_, _, _, _, h0, _⟩ := hLs1; exact World.block_lt_of_cell? _ _ h0
  have hR6 := hR5.below hbl1 hR5.lt
  have hO6 := hO5.below hbl1 hO5.lt
  clear hR5 hO5 hb5 hbl1 hlb1
  go_wp2_with fail
  refine (decide_any w6 lb1 (.pointer (some ⟨R, 0, none⟩)) rs hlt1 (by rw [hz]; omega) hLs1).mono ?_
  rintro e w7 ⟨rfl, hbd1⟩
  rw [HE1.out, HL1.out]
  have hb7 : Below w.heap.size w w7 := hb6.trans (hbd1.mono hb6.size)
  have hR7 := hR6.below hbd1 hR6.lt
  have hO7 := hO6.below hbd1 hO6.lt
  clear hR6 hO6 hb6 hbd1 hlt1 hLs1
  go_wp2_with fail
  obtain ⟨V1, hV1⟩ : ∃ O, w7.heap.size = O := ⟨_, rfl⟩
  obtain ⟨w8, hw8⟩ : ∃ w5, w5 = w7.alloc (.cells #[.int .i64 E1, .int .i64 L1] 43) := ⟨_, rfl⟩
  have hb8 : Below w.heap.size w w8 := by rw [hw8]; exact hb7.alloc hb7.size _
  have hV18 : Blk w8 V1 [.int .i64 E1, .int .i64 L1] 43 := by rw [hw8, ← hV1]; exact Blk.new w7 _ _
  have hR8 : Blk w8 R [.string p, .int .u32 u, .int .i64 h, .int .u64 sv, .int .u64 sn, .string s, .int .u8 f] 30 := by rw [hw8]; exact hR7.old _
  have hO8 : Blk w8 O [.string p, .int .u32 u, .int .i64 h, .int .u64 sv, .int .u64 sn, .string s, .int .u8 f] 30 := by rw [hw8]; exact hO7.old _
  rw [← hw8]
  simp only [hV1]
  clear hw8 hV1 hb7 hR7 hO7
  refine (list_any w8 a k c (rs.take k) HTL.out (by omega) (((HA.out.below hb8 (Nat.le_refl _)).take k).mono hb8.size) (fun h => by have := HNIL.out h; omega)).mono ?_
  rintro e w9 ⟨lb2, rfl, hlb2, hLs2, hbl2⟩
  have hb9 : Below w.heap.size w w9 := hb8.trans (hbl2.mono hb8.size)
  have hlt2 : lb2 < w9.heap.size := by obtain ⟨_, _, _, _, h0, _⟩ := hLs2; exact World.block_lt_of_cell? _ _ h0
  have hR9 := hR8.below hbl2 hR8.lt
  have hO9 := hO8.below hbl2 hO8.lt
  have hV19 := hV18.below hbl2 hV18.lt
  clear hR8 hO8 hV18 hb8 hbl2 hlb2
  go_wp2_with fail
  refine (decide_any w9 lb2 (.pointer (some ⟨R, 0, none⟩)) (rs.take k) hlt2 (by rw [HTL.out]; omega) hLs2).mono ?_
  rintro e w10 ⟨rfl, hbd2⟩
  rw [HE2.out, HL2.out]
  have hb10 : Below w.heap.size w w10 := hb9.trans (hbd2.mono hb9.size)
  have hR10 := hR9.below hbd2 hR9.lt
  have hO10 := hO9.below hbd2 hO9.lt
  have hV110 := hV19.below hbd2 hV19.lt
  clear hR9 hO9 hV19 hb9 hbd2 hlt2 hLs2
  go_wp2_with fail
  obtain ⟨V2, hV2⟩ : ∃ O, w10.heap.size = O := ⟨_, rfl⟩
  obtain ⟨w11, hw11⟩ : ∃ w5, w5 = w10.alloc (.cells #[.int .i64 E2, .int .i64 L2] 43) := ⟨_, rfl⟩
  have hb11 : Below w.heap.size w w11 := by rw [hw11]; exact hb10.alloc hb10.size _
  have hV211 : Blk w11 V2 [.int .i64 E2, .int .i64 L2] 43 := by rw [hw11, ← hV2]; exact Blk.new w10 _ _
  have hR11 : Blk w11 R [.string p, .int .u32 u, .int .i64 h, .int .u64 sv, .int .u64 sn, .string s, .int .u8 f] 30 := by rw [hw11]; exact hR10.old _
  have hO11 : Blk w11 O [.string p, .int .u32 u, .int .i64 h, .int .u64 sv, .int .u64 sn, .string s, .int .u8 f] 30 := by rw [hw11]; exact hO10.old _
  have hV111 : Blk w11 V1 [.int .i64 E1, .int .i64 L1] 43 := by rw [hw11]; exact hV110.old _
  rw [← hw11]
  simp only [hV2]
  clear hw11 hV2 hb10 hR10 hO10 hV110
  refine (list_any w11 A (n - k) (c - k) (rs.drop k) HDL.out (by omega) ((HD.out _ hb11).mono hb11.size) HANIL.out).mono ?_
  rintro e w12 ⟨lb3, rfl, hlb3, hLs3, hbl3⟩
  have hb12 : Below w.heap.size w w12 := hb11.trans (hbl3.mono hb11.size)
  have hlt3 : lb3 < w12.heap.size := by obtain ⟨_, _, _, _, h0, _⟩ := hLs3; exact World.block_lt_of_cell? _ _ h0
  have hR12 := hR11.below hbl3 hR11.lt
  have hO12 := hO11.below hbl3 hO11.lt
  have hV112 := hV111.below hbl3 hV111.lt
  have hV212 := hV211.below hbl3 hV211.lt
  clear hR11 hO11 hV111 hV211 hb11 hbl3 hlb3
  go_wp2_with fail
  refine (decide_any w12 lb3 (.pointer (some ⟨R, 0, none⟩)) (rs.drop k) hlt3 (by rw [HDL.out]; omega) hLs3).mono ?_
  rintro e w13 ⟨rfl, hbd3⟩
  rw [HE3.out, HL3.out]
  have hb13 : Below w.heap.size w w13 := hb12.trans (hbd3.mono hb12.size)
  have hR13 := hR12.below hbd3 hR12.lt
  have hO13 := hO12.below hbd3 hO12.lt
  have hV113 := hV112.below hbd3 hV112.lt
  have hV213 := hV212.below hbd3 hV212.lt
  clear hR12 hO12 hV112 hV212 hb12 hbd3 hlt3 hLs3
  go_wp2_with fail
  obtain ⟨V3, hV3⟩ : ∃ O, w13.heap.size = O := ⟨_, rfl⟩
  obtain ⟨w14, hw14⟩ : ∃ w5, w5 = w13.alloc (.cells #[.int .i64 E3, .int .i64 L3] 43) := ⟨_, rfl⟩
  have hb14 : Below w.heap.size w w14 := by rw [hw14]; exact hb13.alloc hb13.size _
  have hV314 : Blk w14 V3 [.int .i64 E3, .int .i64 L3] 43 := by rw [hw14, ← hV3]; exact Blk.new w13 _ _
  have hR14 : Blk w14 R [.string p, .int .u32 u, .int .i64 h, .int .u64 sv, .int .u64 sn, .string s, .int .u8 f] 30 := by rw [hw14]; exact hR13.old _
  have hO14 : Blk w14 O [.string p, .int .u32 u, .int .i64 h, .int .u64 sv, .int .u64 sn, .string s, .int .u8 f] 30 := by rw [hw14]; exact hO13.old _
  have hV114 : Blk w14 V1 [.int .i64 E1, .int .i64 L1] 43 := by rw [hw14]; exact hV113.old _
  have hV214 : Blk w14 V2 [.int .i64 E2, .int .i64 L2] 43 := by rw [hw14]; exact hV213.old _
  rw [← hw14]
  simp only [hV3]
  clear hw14 hV3 hb13 hR13 hO13 hV113 hV213
  refine (firstAlways_any w14 w.heap.size a n c rs hz hN (HA.out.below hb14 (Nat.le_refl _))).mono ?_
  rintro e w' ⟨rfl, rfl⟩
  rw [HF.out]
  have HR : Hid (Blk w14.drew R [.string p, .int .u32 u, .int .i64 h, .int .u64 sv, .int .u64 sn, .string s, .int .u8 f] 30) := hR14.drew
  have HO : Hid (Blk w14.drew O [.string p, .int .u32 u, .int .i64 h, .int .u64 sv, .int .u64 sn, .string s, .int .u8 f] 30) := hO14.drew
  have HV1 : Hid (Blk w14.drew V1 [.int .i64 E1, .int .i64 L1] 43) := hV114.drew
  have HV2 : Hid (Blk w14.drew V2 [.int .i64 E2, .int .i64 L2] 43) := hV214.drew
  have HV3 : Hid (Blk w14.drew V3 [.int .i64 E3, .int .i64 L3] 43) := hV314.drew
  have HSW : Hid (w.heap.size ≤ w14.drew.heap.size) := hb14.drew.size
  have HAW : Hid (Rs w.heap.size w14.drew a c rs) := HA.out.below hb14.drew (Nat.le_refl _)
  have HBW : Hid (Below w.heap.size w w14.drew) := hb14.drew
  obtain ⟨q0, q1, q2, q3, q4, q5, q6⟩ := qall hR14
  obtain ⟨o0, o1, o2, o3, o4, o5, o6⟩ := qall hO14
  have v10 := hV114.cell (j := 0) rfl
  have v11 := hV114.cell (j := 1) rfl
  clear hR14 hO14 hV114 hV214 hV314 hb14 hs0 hs1
  rcases fst_cases rs with hf | ⟨j, g, hf, hj⟩
  · have hd := fst_drop_none (k := k) hf
    obtain rfl : E3 = E1 := by rw [← HE3.out, ← HE1.out, hf, hd]; rfl
    obtain rfl : L3 = L1 := by rw [← HL3.out, ← HL1.out, hf, hd]; rfl
    obtain rfl : F = -1 := by rw [← HF.out]; exact hf
    clear hf hd
    go_wp2_with fail
    go_region_with (go_at_call 23; refine (verdict_any w14.drew w.heap.size a n c rs (-1) E3 L3 hz hN HSW.out HAW.out HF.out HE1.out HL1.out).mono ?_; rintro e wz ⟨rfl, hbz⟩; have hzR := qall (HR.out.below hbz HR.out.lt); have hzO := qall (HO.out.below hbz HO.out.lt); have z10 := (HV1.out.below hbz HV1.out.lt).cell (j := 0) rfl; have z11 := (HV1.out.below hbz HV1.out.lt).cell (j := 1) rfl; have z20 := (HV2.out.below hbz HV2.out.lt).cell (j := 0) rfl; have z21 := (HV2.out.below hbz HV2.out.lt).cell (j := 1) rfl; have z30 := (HV3.out.below hbz HV3.out.lt).cell (j := 0) rfl; have z31 := (HV3.out.below hbz HV3.out.lt).cell (j := 1) rfl; have HBZ : Hid (Below w.heap.size w wz) := HBW.out.trans (hbz.mono HSW.out); obtain ⟨zr0, zr1, zr2, zr3, zr4, zr5, zr6⟩ := hzR; obtain ⟨zo0, zo1, zo2, zo3, zo4, zo5, zo6⟩ := hzO; clear hbz)
    all_goals
      go_wp2_with fail
      go_ret
      exact ⟨by simp, HBZ.out⟩
  · have hjn : j < n := by rw [← hz]; exact (List.getElem?_eq_some_iff.1 hj).1
    obtain rfl : F = (j : Int) := by rw [← HF.out]; exact hf
    by_cases hjk : j < k
    · have ht := fst_take hf hjk
      have hg : (rs.take k)[j]? = some g := by rw [List.getElem?_take, if_pos hjk]; exact hj
      obtain rfl : E2 = E1 := by rw [← HE2.out, ← HE1.out, hf, ht, vE_hit hg, vE_hit hj]
      obtain rfl : L2 = L1 := by rw [← HL2.out, ← HL1.out, hf, ht, vL_hit hg, vL_hit hj]
      have l2 : (j : Int) < (k : Int) := by omega
      clear hf ht hg hj
      go_wp2_with fail
      go_region_with (go_at_call 23; refine (verdict_any w14.drew w.heap.size a n c rs (j : Int) E2 L2 hz hN HSW.out HAW.out HF.out HE1.out HL1.out).mono ?_; rintro e wz ⟨rfl, hbz⟩; have hzR := qall (HR.out.below hbz HR.out.lt); have hzO := qall (HO.out.below hbz HO.out.lt); have z10 := (HV1.out.below hbz HV1.out.lt).cell (j := 0) rfl; have z11 := (HV1.out.below hbz HV1.out.lt).cell (j := 1) rfl; have z20 := (HV2.out.below hbz HV2.out.lt).cell (j := 0) rfl; have z21 := (HV2.out.below hbz HV2.out.lt).cell (j := 1) rfl; have z30 := (HV3.out.below hbz HV3.out.lt).cell (j := 0) rfl; have z31 := (HV3.out.below hbz HV3.out.lt).cell (j := 1) rfl; have HBZ : Hid (Below w.heap.size w wz) := HBW.out.trans (hbz.mono HSW.out); obtain ⟨zr0, zr1, zr2, zr3, zr4, zr5, zr6⟩ := hzR; obtain ⟨zo0, zo1, zo2, zo3, zo4, zo5, zo6⟩ := hzO; clear hbz)
      all_goals
        go_wp2_with fail
        go_ret
        exact ⟨by simp, HBZ.out⟩
    · have ht := fst_drop hf (show k ≤ j by omega)
      have hg : (rs.drop k)[j - k]? = some g := by rw [List.getElem?_drop, show k + (j - k) = j by omega]; exact hj
      obtain rfl : E3 = E1 := by rw [← HE3.out, ← HE1.out, hf, ht, vE_hit hg, vE_hit hj]
      obtain rfl : L3 = L1 := by rw [← HL3.out, ← HL1.out, hf, ht, vL_hit hg, vL_hit hj]
      have l2 : ¬ (j : Int) < (k : Int) := by omega
      clear hf ht hg hj
      go_wp2_with fail
      go_region_with (go_at_call 23; refine (verdict_any w14.drew w.heap.size a n c rs (j : Int) E3 L3 hz hN HSW.out HAW.out HF.out HE1.out HL1.out).mono ?_; rintro e wz ⟨rfl, hbz⟩; have hzR := qall (HR.out.below hbz HR.out.lt); have hzO := qall (HO.out.below hbz HO.out.lt); have z10 := (HV1.out.below hbz HV1.out.lt).cell (j := 0) rfl; have z11 := (HV1.out.below hbz HV1.out.lt).cell (j := 1) rfl; have z20 := (HV2.out.below hbz HV2.out.lt).cell (j := 0) rfl; have z21 := (HV2.out.below hbz HV2.out.lt).cell (j := 1) rfl; have z30 := (HV3.out.below hbz HV3.out.lt).cell (j := 0) rfl; have z31 := (HV3.out.below hbz HV3.out.lt).cell (j := 1) rfl; have HBZ : Hid (Below w.heap.size w wz) := HBW.out.trans (hbz.mono HSW.out); obtain ⟨zr0, zr1, zr2, zr3, zr4, zr5, zr6⟩ := hzR; obtain ⟨zo0, zo1, zo2, zo3, zo4, zo5, zo6⟩ := hzO; clear hbz)
      all_goals
        go_wp2_with fail
        go_ret
        exact ⟨by simp, HBZ.out⟩
end Go.Proofs.Qxb6608618a
