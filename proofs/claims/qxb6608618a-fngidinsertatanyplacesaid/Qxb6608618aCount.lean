import Derived.Test.Qxb6608618aBounds
namespace Go.Proofs.Qxb6608618a
open Go.RowKit

/-- A number is answered, no block turns; if it is within the limit, so are the two lengths. -/
def Counts (ul n : Nat) (w : World) (e : Ending) (w' : World) : Prop := (∀ B, Below B w w') ∧ ∃ r : Int, e = .returned (.int .i64 r) ∧ 0 ≤ r ∧ r ≤ 4194304 ∧ (r ≤ 1048576 → ul ≤ 65536 ∧ n ≤ 65536)
theorem Counts.over {ul n : Nat} {w : World} {e : Ending} {q : Nat} {r : Int} (h : e = .returned (.int .i64 r)) (h1 : 1048576 < r) (h2 : r ≤ 4194304) : Counts ul n w e (w.drewN q) :=
  ⟨fun _ => below_drewN (Below.refl _ _) _, r, h, by omega, h2, fun h => by omega⟩
theorem Counts.fits {ul n : Nat} {w : World} {e : Ending} {q : Nat} {r : Int} (h : e = .returned (.int .i64 r)) (h1 : 0 ≤ r) (h2 : r ≤ 4194304) (hu : ul ≤ 65536) (hn : n ≤ 65536) : Counts ul n w e (w.drewN q) :=
  ⟨fun _ => below_drewN (Below.refl _ _) _, r, h, h1, h2, fun _ => ⟨hu, hn⟩⟩

set_option maxHeartbeats 1000000 in
set_option maxRecDepth 20000 in
theorem accountsBytes_any (w : World) (B : Nat) (u : Option Addr) (ul uc : Nat) (us : List Usr) (a : Option Addr) (n c : Nat) (gs : List Grp) (hul : us.length = ul) (hu : Us B w u us) (hz : gs.length = n) (ha : Gs B w a c gs) (hm : Ms w gs) :
    Calls Try.prog 26 #[.slice u ul uc, .slice a n c] w (Counts ul n w) := by
  by_cases hU : (65536 : Int) < (ul : Int)
  · go_enter Try.func26, Try.ntmps26
    go_wp2
    go_ret
    exact Counts.over (q := 0) (r := 1048577) rfl (by omega) (by omega)
  by_cases hN : (65536 : Int) < (n : Int)
  · have hU' : ((65536 : Int) < (ul : Int)) = False := by simp; omega
    go_enter Try.func26, Try.ntmps26
    go_wp2
    go_ret
    exact Counts.over (q := 0) (r := 1048577) rfl (by omega) (by omega)
  have HU : Hid (ul ≤ 65536) := by show _ ≤ _; omega
  have HN : Hid (n ≤ 65536) := by show _ ≤ _; omega
  have hU' : ((65536 : Int) < (ul : Int)) = False := by simp; omega
  have hN' : ((65536 : Int) < (n : Int)) = False := by simp; omega
  have hU2 : ul ≤ 1048576 := by omega
  have hN2 : n ≤ 1048576 := by omega
  clear hU hN
  go_enter Try.func26, Try.ntmps26
  go_wp2
  go_loop [5, 6] (fun t i => ∃ k z : Nat, k ≤ ul ∧ z ≤ 1048576 ∧ i = .int .i64 k ∧ t = .int .i64 z) (fun _ i => ul - (intOf i).toNat)
  case atStart => exact ⟨0, 0, Nat.zero_le _, by omega, rfl, rfl⟩
  case round =>
    obtain ⟨k, z, hk, hzz, rfl, rfl⟩ := hrel
    by_cases hlt : k < ul
    · obtain ⟨b1, o1, rfl, hb1, hcs⟩ := hu.addr (by omega)
      obtain ⟨g, hg⟩ : ∃ g, us[k]? = some g := ⟨_, List.getElem?_eq_getElem (by omega)⟩
      obtain ⟨e0, _, _⟩ := hcs k g hg
      have l1 : (k : Int) < (ul : Int) := by omega
      clear hcs hg
      by_cases hs : g.name.size ≤ 1048576
      · by_cases ht : z + (16 + g.name.size) ≤ 1048576
        · go_wp2
          go_round
          case rel => exact ⟨k + 1, z + (16 + g.name.size), by omega, ht, by go_num, by go_num⟩
          case measure => simp [intOf]; omega
        · go_wp2
          go_ret
          exact Counts.over (q := 0) (r := (z : Int) + (16 + (g.name.size : Int))) rfl (by omega) (by omega)
      · go_wp2
        go_ret
        exact Counts.over (q := 0) (r := 1048577) rfl (by omega) (by omega)
    · go_wp2
      go_loopw [5, 7, 8] (fun t i _ wr => ∃ k2 z2 q : Nat, k2 ≤ n ∧ z2 ≤ 1048576 ∧ i = .int .i64 k2 ∧ t = .int .i64 z2 ∧ wr = w.drewN q) (fun _ i _ _ => n - (intOf i).toNat)
      case atStart => exact ⟨0, z, 0, Nat.zero_le _, hzz, rfl, rfl, rfl⟩
      case round =>
        obtain ⟨k2, z2, q, hk2, hz2, rfl, rfl, rfl⟩ := hrel
        by_cases hlt2 : k2 < n
        · obtain ⟨b2, o2, rfl, hb2, hcs⟩ := ha.addr (by omega)
          obtain ⟨g, hg⟩ : ∃ g, gs[k2]? = some g := ⟨_, List.getElem?_eq_getElem (by omega)⟩
          obtain ⟨e0, _, e2⟩ := hcs k2 g hg
          have l2 : (k2 : Int) < (n : Int) := by omega
          have HM : Hid (0 < g.ml → ∃ b o, g.ma = some ⟨b, o, none⟩ ∧ ∀ j, j < g.ml → ∃ s, w.cell? ⟨b, o + j, none⟩ = some (.string s)) := fun h0 => hm.addr hg h0
          clear hcs hg
          by_cases hs : (1048576 : Int) < (g.name.size : Int)
          · go_wp2
            go_ret
            exact Counts.over (r := 1048577) rfl (by omega) (by omega)
          have hs1 : g.name.size ≤ 1048576 := by omega
          have hs' : ((1048576 : Int) < (g.name.size : Int)) = False := by simp; omega
          clear hs
          by_cases hq : (65536 : Int) < (g.ml : Int)
          · go_wp2
            go_ret
            exact Counts.over (r := 1048577) rfl (by omega) (by omega)
          have hq1 : g.ml ≤ 65536 := by omega
          have hq' : ((65536 : Int) < (g.ml : Int)) = False := by simp; omega
          clear hq
          by_cases ht : z2 + (40 + g.name.size + 16 * g.ml) ≤ 1048576
          rotate_left
          · go_wp2
            go_quiet (fail)
            go_wp2
            go_ret
            exact Counts.over (r := (z2 : Int) + (40 + (g.name.size : Int) + 16 * (g.ml : Int))) rfl (by omega) (by omega)
          go_wp2
          go_quiet (fail)
          go_wp2
          go_loopw [5, 8] (fun t i wr => ∃ k3 z3 q : Nat, k3 ≤ g.ml ∧ z3 ≤ 1048576 ∧ i = .int .i64 k3 ∧ t = .int .i64 z3 ∧ wr = w.drewN q) (fun _ i _ => g.ml - (intOf i).toNat)
          case atStart => exact ⟨0, z2 + (40 + g.name.size + 16 * g.ml), _, Nat.zero_le _, ht, rfl, by go_num, rfl⟩
          case round =>
            obtain ⟨k3, z3, q3, hk3, hz3, rfl, rfl, rfl⟩ := hrel
            by_cases hlt3 : k3 < g.ml
            · obtain ⟨b3, o3, hma, hms⟩ := HM.out (by omega)
              obtain ⟨s, hs3⟩ := hms k3 hlt3
              have l3 : (k3 : Int) < (g.ml : Int) := by omega
              clear hms HM
              by_cases hv1 : s.size ≤ 1048576
              · by_cases hv2 : z3 + s.size ≤ 1048576
                · go_wp2
                  go_roundw
                  case rel => exact ⟨k3 + 1, z3 + s.size, _, by omega, hv2, by go_num, by go_num, rfl⟩
                  case measure => simp [intOf]; omega
                · go_wp2
                  go_ret
                  exact Counts.over (r := (z3 : Int) + (s.size : Int)) rfl (by omega) (by omega)
              · go_wp2
                go_ret
                exact Counts.over (r := 1048577) rfl (by omega) (by omega)
            · obtain rfl : k3 = g.ml := by omega
              clear HM
              go_wp2
              go_roundw
              case rel => exact ⟨k2 + 1, z3, _, by omega, hz3, by go_num, rfl, rfl⟩
              case measure => simp [intOf]; omega
        · go_wp2
          go_ret
          exact Counts.fits (r := (z2 : Int)) rfl (by omega) (by omega) HU.out HN.out
end Go.Proofs.Qxb6608618a
