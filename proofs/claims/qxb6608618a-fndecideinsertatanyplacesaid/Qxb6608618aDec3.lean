import Derived.Test.Qxb6608618aDec2
namespace Go.Proofs.Qxb6608618a
open Go.RowKit

/-- A bool is answered, no old block turns; if it is true, P. -/
def SaysB (P : Prop) (w : World) (e : Ending) (w' : World) : Prop := Below w.heap.size w w' ∧ (e = .returned (.bool false) ∨ (e = .returned (.bool true) ∧ P))
theorem SaysB.no {P : Prop} {w w' : World} {e : Ending} (h : e = .returned (.bool false)) (hb : Below w.heap.size w w') : SaysB P w e w' := ⟨hb, .inl h⟩
theorem SaysB.yes {P : Prop} {w w' : World} {e : Ending} (h : e = .returned (.bool true)) (hb : Below w.heap.size w w') (hP : P) : SaysB P w e w' := ⟨hb, .inr ⟨h, hP⟩⟩

set_option maxHeartbeats 1000000 in
set_option maxRecDepth 20000 in
theorem bytesDSplit (w : World) (a : Option Addr) (n c : Nat) (rs : List Rl) (x : Int) (p : ByteArray) (u h sv sn : Int) (s : ByteArray) (f : Int) (hz : rs.length = n) (ha : Rs w.heap.size w a c rs) :
    Calls Try.prog 18 #[.slice a n c, .int .i64 x, .agg #[.string p, .int .u32 u, .int .i64 h, .int .u64 sv, .int .u64 sn, .string s, .int .u8 f]] w (SaysB (n ≤ 1048576 ∧ p.size ≤ 1048576 ∧ s.size ≤ 1048576) w) := by
  have HB : Hid (Below w.heap.size w (w.alloc (.cells #[.string p, .int .u32 u, .int .i64 h, .int .u64 sv, .int .u64 sn, .string s, .int .u8 f] 25))) := (Below.refl w.heap.size w).alloc (Nat.le_refl _) _
  have ha' := ha.below HB.out (Nat.le_refl _)
  by_cases hU : n ≤ 1048576
  rotate_left
  · go_enter Try.func18, Try.ntmps18
    go_wp2
    go_ret
    exact SaysB.no rfl HB.out
  go_enter Try.func18, Try.ntmps18
  go_wp2
  go_loop [7, 8] (fun t i => ∃ k z : Nat, k ≤ n ∧ z ≤ 1048576 ∧ i = .int .i64 k ∧ t = .int .i64 z) (fun _ i => n - (intOf i).toNat)
  case atStart => exact ⟨0, n, Nat.zero_le _, hU, rfl, rfl⟩
  case round =>
    obtain ⟨k, z, hk, hzz, rfl, rfl⟩ := hrel
    by_cases hlt : k < n
    · obtain ⟨b1, o1, rfl, hb1, hcs⟩ := ha.addr (by omega)
      obtain ⟨g, hg⟩ : ∃ g, rs[k]? = some g := ⟨_, List.getElem?_eq_getElem (by omega)⟩
      obtain ⟨_, e1, _, e3, _⟩ := hcs k g hg
      have l1 : (k : Int) < (n : Int) := by omega
      clear hcs hg ha'
      by_cases hs : g.tgt.size ≤ 1048576
      rotate_left
      · go_wp2
        go_ret
        exact SaysB.no rfl HB.out
      by_cases ht : z + g.tgt.size ≤ 1048576
      rotate_left
      · go_wp2
        go_ret
        exact SaysB.no rfl HB.out
      by_cases hs2 : g.txt.size ≤ 1048576
      rotate_left
      · go_wp2
        go_ret
        exact SaysB.no rfl HB.out
      by_cases ht2 : z + g.tgt.size + g.txt.size ≤ 1048576
      rotate_left
      · go_wp2
        go_ret
        exact SaysB.no rfl HB.out
      go_wp2
      go_round
      case rel => exact ⟨k + 1, z + g.tgt.size + g.txt.size, by omega, ht2, by go_num, by go_num⟩
      case measure => simp [intOf]; omega
    · clear ha'
      by_cases q_p : p.size ≤ 1048576 ∧ z + p.size ≤ 1048576
      rotate_left
      · by_cases qq_p : p.size ≤ 1048576
        all_goals
          go_wp2
          go_ret
          exact SaysB.no rfl HB.out
      obtain ⟨p_p, r_p⟩ := q_p
      by_cases q_s : s.size ≤ 1048576 ∧ z + p.size + s.size ≤ 1048576
      rotate_left
      · by_cases qq_s : s.size ≤ 1048576
        all_goals
          go_wp2
          go_ret
          exact SaysB.no rfl HB.out
      obtain ⟨p_s, r_s⟩ := q_s
      go_wp2
      go_ret
      exact SaysB.yes rfl HB.out (by first | trivial | exact ⟨hU, p_p, p_s⟩)

set_option maxHeartbeats 1000000 in
set_option maxRecDepth 20000 in
theorem bytesDInsert (w : World) (a : Option Addr) (n c : Nat) (rs : List Rl) (x : Int) (re : Int) (rt : ByteArray) (rl : Int) (rx : ByteArray) (ra : Bool) (p : ByteArray) (u h sv sn : Int) (s : ByteArray) (f : Int) (hz : rs.length = n) (ha : Rs w.heap.size w a c rs) :
    Calls Try.prog 24 #[.slice a n c, .int .i64 x, .agg #[.int .i64 re, .string rt, .int .i64 rl, .string rx, .bool ra], .agg #[.string p, .int .u32 u, .int .i64 h, .int .u64 sv, .int .u64 sn, .string s, .int .u8 f]] w (SaysB (n ≤ 1048576 ∧ rt.size ≤ 1048576 ∧ rx.size ≤ 1048576 ∧ p.size ≤ 1048576 ∧ s.size ≤ 1048576) w) := by
  have HB : Hid (Below w.heap.size w ((w.alloc (.cells #[.int .i64 re, .string rt, .int .i64 rl, .string rx, .bool ra] 49)).alloc (.cells #[.string p, .int .u32 u, .int .i64 h, .int .u64 sv, .int .u64 sn, .string s, .int .u8 f] 25))) := ((Below.refl w.heap.size w).alloc (Nat.le_refl _) _).alloc (by simp) _
  have ha' := ha.below HB.out (Nat.le_refl _)
  by_cases hU : n ≤ 1048576
  rotate_left
  · go_enter Try.func24, Try.ntmps24
    go_wp2
    go_ret
    exact SaysB.no rfl HB.out
  go_enter Try.func24, Try.ntmps24
  go_wp2
  go_loop [9, 10] (fun t i => ∃ k z : Nat, k ≤ n ∧ z ≤ 1048576 ∧ i = .int .i64 k ∧ t = .int .i64 z) (fun _ i => n - (intOf i).toNat)
  case atStart => exact ⟨0, n, Nat.zero_le _, hU, rfl, rfl⟩
  case round =>
    obtain ⟨k, z, hk, hzz, rfl, rfl⟩ := hrel
    by_cases hlt : k < n
    · obtain ⟨b1, o1, rfl, hb1, hcs⟩ := ha.addr (by omega)
      obtain ⟨g, hg⟩ : ∃ g, rs[k]? = some g := ⟨_, List.getElem?_eq_getElem (by omega)⟩
      obtain ⟨_, e1, _, e3, _⟩ := hcs k g hg
      have l1 : (k : Int) < (n : Int) := by omega
      clear hcs hg ha'
      by_cases hs : g.tgt.size ≤ 1048576
      rotate_left
      · go_wp2
        go_ret
        exact SaysB.no rfl HB.out
      by_cases ht : z + g.tgt.size ≤ 1048576
      rotate_left
      · go_wp2
        go_ret
        exact SaysB.no rfl HB.out
      by_cases hs2 : g.txt.size ≤ 1048576
      rotate_left
      · go_wp2
        go_ret
        exact SaysB.no rfl HB.out
      by_cases ht2 : z + g.tgt.size + g.txt.size ≤ 1048576
      rotate_left
      · go_wp2
        go_ret
        exact SaysB.no rfl HB.out
      go_wp2
      go_round
      case rel => exact ⟨k + 1, z + g.tgt.size + g.txt.size, by omega, ht2, by go_num, by go_num⟩
      case measure => simp [intOf]; omega
    · clear ha'
      by_cases q_rt : rt.size ≤ 1048576 ∧ z + rt.size ≤ 1048576
      rotate_left
      · by_cases qq_rt : rt.size ≤ 1048576
        all_goals
          go_wp2
          go_ret
          exact SaysB.no rfl HB.out
      obtain ⟨p_rt, r_rt⟩ := q_rt
      by_cases q_rx : rx.size ≤ 1048576 ∧ z + rt.size + rx.size ≤ 1048576
      rotate_left
      · by_cases qq_rx : rx.size ≤ 1048576
        all_goals
          go_wp2
          go_ret
          exact SaysB.no rfl HB.out
      obtain ⟨p_rx, r_rx⟩ := q_rx
      by_cases q_p : p.size ≤ 1048576 ∧ z + rt.size + rx.size + p.size ≤ 1048576
      rotate_left
      · by_cases qq_p : p.size ≤ 1048576
        all_goals
          go_wp2
          go_ret
          exact SaysB.no rfl HB.out
      obtain ⟨p_p, r_p⟩ := q_p
      by_cases q_s : s.size ≤ 1048576 ∧ z + rt.size + rx.size + p.size + s.size ≤ 1048576
      rotate_left
      · by_cases qq_s : s.size ≤ 1048576
        all_goals
          go_wp2
          go_ret
          exact SaysB.no rfl HB.out
      obtain ⟨p_s, r_s⟩ := q_s
      go_wp2
      go_ret
      exact SaysB.yes rfl HB.out (by first | trivial | exact ⟨hU, p_rt, p_rx, p_p, p_s⟩)

end Go.Proofs.Qxb6608618a
