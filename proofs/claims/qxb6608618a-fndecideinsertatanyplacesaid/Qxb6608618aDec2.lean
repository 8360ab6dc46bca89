import Derived.Test.Qxb6608618aDec
namespace Go.Proofs.Qxb6608618a
open Go.RowKit

/-- A request, as its seven cells hold it. -/
structure Rq where
  path : ByteArray
  uid : Int
  hour : Int
  sv : Int
  sn : Int
  name : ByteArray
  flds : Int

theorem reqBytes_any (w : World) (p : ByteArray) (u h sv sn : Int) (s : ByteArray) (f : Int) (hp : p.size ≤ 1048576) (hs : s.size ≤ 1048576) :
    Calls Try.prog 10 #[.agg #[.string p, .int .u32 u, .int .i64 h, .int .u64 sv, .int .u64 sn, .string s, .int .u8 f]] w fun e w' => e = .returned (.int .i64 ((p.size : Int) + (s.size : Int))) ∧ Below w.heap.size w w' := by
  go_enter Try.func10, Try.ntmps10
  go_wp2
  go_ret
  exact ⟨rfl, (Below.refl _ _).alloc (Nat.le_refl _) _⟩

theorem zzreq_any (w : World) (p : ByteArray) (u h sv sn : Int) (s : ByteArray) (f : Int) :
    Calls Try.prog 11 #[.agg #[.string p, .int .u32 u, .int .i64 h, .int .u64 sv, .int .u64 sn, .string s, .int .u8 f]] w fun e w' => e = .returned (.pointer (some ⟨w.heap.size + 1, 0, none⟩)) ∧
      w' = (w.alloc (.cells #[.string p, .int .u32 u, .int .i64 h, .int .u64 sv, .int .u64 sn, .string s, .int .u8 f] 25)).alloc (.cells #[.string p, .int .u32 u, .int .i64 h, .int .u64 sv, .int .u64 sn, .string s, .int .u8 f] 30) := by
  go_enter Try.func11, Try.ntmps11
  go_wp2
  go_ret
  exact ⟨by simp, rfl⟩

theorem match_any (w : World) (e l : Int) (t x : ByteArray) :
    Calls Try.prog 32 #[.int .i64 e, .string t, .int .i64 l, .string x] w fun r w' => r = .returned (.agg #[.int .i64 e, .string t, .int .i64 l, .string x, .func (.func 35) #[] #[]]) ∧ w' = w.alloc (.cells #[.int .i64 e, .string t, .int .i64 l, .string x, .func (.func 35) #[] #[]] 73) := by
  go_enter Try.func32, Try.ntmps32
  go_wp2
  refine bodyPost_ret (v := .agg #[.int .i64 e, .string t, .int .i64 l, .string x, .func (.func 35) #[] #[]]) (by simp [results, Try.results32, go_sem]) rfl ⟨rfl, rfl⟩

theorem always_any (w : World) (v : Value) : Calls Try.prog 35 #[v] w fun e w' => e = .returned (.bool true) ∧ w = w' := by
  go_enter Try.func35, Try.ntmps35
  go_wp2
  go_ret
  exact ⟨rfl, rfl⟩

/-- A number is answered, no block turns; if it is within the limit, so is the length. -/
def CountsR (n : Nat) (w : World) (e : Ending) (w' : World) : Prop := (∀ B, Below B w w') ∧ ∃ r : Int, e = .returned (.int .i64 r) ∧ 0 ≤ r ∧ r ≤ 4194304 ∧ (r ≤ 1048576 → n ≤ 65536)
theorem CountsR.over {n : Nat} {w : World} {e : Ending} {q : Nat} {r : Int} (h : e = .returned (.int .i64 r)) (h1 : 1048576 < r) (h2 : r ≤ 4194304) : CountsR n w e (w.drewN q) :=
  ⟨fun _ => below_drewN (Below.refl _ _) _, r, h, by omega, h2, fun h => by omega⟩
theorem CountsR.fits {n : Nat} {w : World} {e : Ending} {q : Nat} {r : Int} (h : e = .returned (.int .i64 r)) (h1 : 0 ≤ r) (h2 : r ≤ 4194304) (hn : n ≤ 65536) : CountsR n w e (w.drewN q) :=
  ⟨fun _ => below_drewN (Below.refl _ _) _, r, h, h1, h2, fun _ => hn⟩

set_option maxHeartbeats 1000000 in
set_option maxRecDepth 20000 in
theorem rulesBytes_any (w : World) (B : Nat) (a : Option Addr) (n c : Nat) (rs : List Rl) (hz : rs.length = n) (ha : Rs B w a c rs) :
    Calls Try.prog 19 #[.slice a n c] w (CountsR n w) := by
  by_cases hN : (65536 : Int) < (n : Int)
  · go_enter Try.func19, Try.ntmps19
    go_wp2
    go_ret
    exact CountsR.over (q := 0) (r := 1048577) rfl (by omega) (by omega)
  have HN : Hid (n ≤ 65536) := by show _ ≤ _; omega
  have hN' : ((65536 : Int) < (n : Int)) = False := by simp; omega
  have hN2 : n ≤ 1048576 := by omega
  clear hN
  go_enter Try.func19, Try.ntmps19
  go_wp2
  go_loopw [3, 4] (fun t i wr => ∃ k z q : Nat, k ≤ n ∧ z ≤ 1048576 ∧ i = .int .i64 k ∧ t = .int .i64 z ∧ wr = w.drewN q) (fun _ i _ => n - (intOf i).toNat)
  case atStart => exact ⟨0, 0, 0, Nat.zero_le _, by omega, rfl, rfl, rfl⟩
  case round =>
    obtain ⟨k, z, q, hk, hzz, rfl, rfl, rfl⟩ := hrel
    by_cases hlt : k < n
    · obtain ⟨b1, o1, rfl, hb1, hcs⟩ := ha.addr (by omega)
      obtain ⟨g, hg⟩ : ∃ g, rs[k]? = some g := ⟨_, List.getElem?_eq_getElem (by omega)⟩
      obtain ⟨_, e1, _, e3, _⟩ := hcs k g hg
      have l1 : (k : Int) < (n : Int) := by omega
      clear hcs hg
      by_cases hs : (1048576 : Int) < (g.tgt.size : Int)
      · go_wp2
        go_ret
        exact CountsR.over (r := 1048577) rfl (by omega) (by omega)
      have hs1 : g.tgt.size ≤ 1048576 := by omega
      have hs' : ((1048576 : Int) < (g.tgt.size : Int)) = False := by simp; omega
      clear hs
      by_cases ht : (1048576 : Int) < (g.txt.size : Int)
      · go_wp2
        go_ret
        exact CountsR.over (r := 1048577) rfl (by omega) (by omega)
      have ht1 : g.txt.size ≤ 1048576 := by omega
      have ht' : ((1048576 : Int) < (g.txt.size : Int)) = False := by simp; omega
      clear ht
      by_cases hq : z + (48 + g.tgt.size + g.txt.size) ≤ 1048576
      · go_wp2
        go_quiet (fail)
        go_wp2
        go_roundw
        case rel => exact ⟨k + 1, z + (48 + g.tgt.size + g.txt.size), _, by omega, hq, by go_num, by go_num, rfl⟩
        case measure => simp [intOf]; omega
      · go_wp2
        go_quiet (fail)
        go_wp2
        go_ret
        exact CountsR.over (r := (z : Int) + (48 + (g.tgt.size : Int) + (g.txt.size : Int))) rfl (by omega) (by omega)
    · go_wp2
      go_ret
      exact CountsR.fits (r := (z : Int)) rfl (by omega) (by omega) HN.out
end Go.Proofs.Qxb6608618a
