import Derived.Test.Qxb6608618aAcc
namespace Go.Proofs.Qxb6608618a
open Go.RowKit

/-- Each group's members can be read: strings all. -/
def Ms (w : World) (gs : List Grp) : Prop := ∀ (i : Nat) (g : Grp), gs[i]? = some g → ∀ j, j < g.ml → ∃ b o s, g.ma = some ⟨b, o, none⟩ ∧ w.cell? ⟨b, o + j, none⟩ = some (.string s)

/-- A bool is answered, the world stands; if it is true, P. -/
def Says (P : Prop) (w : World) (e : Ending) (w' : World) : Prop := w = w' ∧ (e = .returned (.bool false) ∨ (e = .returned (.bool true) ∧ P))
theorem Says.no {P : Prop} {w : World} {e : Ending} (h : e = .returned (.bool false)) : Says P w e w := ⟨rfl, .inl h⟩
theorem Says.yes {P : Prop} {w : World} {e : Ending} (h : e = .returned (.bool true)) (hP : P) : Says P w e w := ⟨rfl, .inr ⟨h, hP⟩⟩

theorem Ms.addr {w : World} {gs : List Grp} (h : Ms w gs) {i : Nat} {g : Grp} (hg : gs[i]? = some g) (h0 : 0 < g.ml) : ∃ b o, g.ma = some ⟨b, o, none⟩ ∧ ∀ j, j < g.ml → ∃ s, w.cell? ⟨b, o + j, none⟩ = some (.string s) := by
  obtain ⟨b, o, _, h1, _⟩ := h i g hg 0 h0
  refine ⟨b, o, h1, fun j hj => ?_⟩
  obtain ⟨b', o', s, h1', h2⟩ := h i g hg j hj
  rw [h1] at h1'
  simp only [Option.some.injEq, Addr.mk.injEq, and_true] at h1'
  obtain ⟨rfl, rfl⟩ := h1'
  exact ⟨s, h2⟩

set_option maxHeartbeats 1000000 in
set_option maxRecDepth 20000 in
theorem bytesSplit (w : World) (B : Nat) (u : Option Addr) (ul uc : Nat) (us : List Usr) (a : Option Addr) (n c : Nat) (gs : List Grp) (x : Int) (nm : ByteArray) (hul : us.length = ul) (hu : Us B w u us) (hz : gs.length = n) (ha : Gs B w a c gs) (hm : Ms w gs) :
    Calls Try.prog 25 #[.slice u ul uc, .slice a n c, .int .i64 x, .string nm] w (Says (ul ≤ 1048576 ∧ n ≤ 1048576 ∧ nm.size ≤ 1048576) w) := by
  by_cases hU : ul ≤ 1048576
  rotate_left
  · go_enter Try.func25, Try.ntmps25
    go_wp2
    go_ret
    exact Says.no rfl
  go_enter Try.func25, Try.ntmps25
  go_wp2
  go_loop [9, 10] (fun t i => ∃ k z : Nat, k ≤ ul ∧ z ≤ 1048576 ∧ i = .int .i64 k ∧ t = .int .i64 z) (fun _ i => ul - (intOf i).toNat)
  case atStart => exact ⟨0, ul, Nat.zero_le _, hU, rfl, rfl⟩
  case round =>
    obtain ⟨k, z, hk, hzz, rfl, rfl⟩ := hrel
    by_cases hlt : k < ul
    · obtain ⟨b1, o1, rfl, hb1, hcs⟩ := hu.addr (by omega)
      obtain ⟨g, hg⟩ : ∃ g, us[k]? = some g := ⟨_, List.getElem?_eq_getElem (by omega)⟩
      obtain ⟨e0, _, _⟩ := hcs k g hg
      have l1 : (k : Int) < (ul : Int) := by omega
      clear hcs hg
      by_cases hs : g.name.size ≤ 1048576
      · by_cases ht : z + g.name.size ≤ 1048576
        · go_wp2
          go_round
          case rel => exact ⟨k + 1, z + g.name.size, by omega, ht, by go_num, by go_num⟩
          case measure => simp [intOf]; omega
        · go_wp2
          go_ret
          exact Says.no rfl
      · go_wp2
        go_ret
        exact Says.no rfl
    · by_cases hN : n ≤ 1048576 ∧ z + n ≤ 1048576
      rotate_left
      · by_cases hN1 : n ≤ 1048576
        all_goals
          go_wp2
          go_ret
          exact Says.no rfl
      obtain ⟨hN1, hN2⟩ := hN
      go_wp2
      go_loop [9, 11, 12] (fun t i _ => ∃ k2 z2 : Nat, k2 ≤ n ∧ z2 ≤ 1048576 ∧ i = .int .i64 k2 ∧ t = .int .i64 z2) (fun _ i _ => n - (intOf i).toNat)
      case atStart => exact ⟨0, z + n, Nat.zero_le _, hN2, rfl, by go_num⟩
      case round =>
        obtain ⟨k2, z2, hk2, hz2, rfl, rfl⟩ := hrel
        by_cases hlt2 : k2 < n
        · obtain ⟨b2, o2, rfl, hb2, hcs⟩ := ha.addr (by omega)
          obtain ⟨g, hg⟩ : ∃ g, gs[k2]? = some g := ⟨_, List.getElem?_eq_getElem (by omega)⟩
          obtain ⟨e0, _, e2⟩ := hcs k2 g hg
          have l2 : (k2 : Int) < (n : Int) := by omega
          have HM : Hid (0 < g.ml → ∃ b o, g.ma = some ⟨b, o, none⟩ ∧ ∀ j, j < g.ml → ∃ s, w.cell? ⟨b, o + j, none⟩ = some (.string s)) := fun h0 => hm.addr hg h0
          clear hcs hg
          by_cases hs : g.name.size ≤ 1048576 ∧ z2 + g.name.size ≤ 1048576
          rotate_left
          · by_cases hs1 : g.name.size ≤ 1048576
            all_goals
              go_wp2
              go_ret
              exact Says.no rfl
          obtain ⟨hs1, hs2⟩ := hs
          by_cases hq : g.ml ≤ 1048576 ∧ z2 + g.name.size + g.ml ≤ 1048576
          rotate_left
          · by_cases hq1 : g.ml ≤ 1048576
            all_goals
              go_wp2
              go_ret
              exact Says.no rfl
          obtain ⟨hq1, hq2⟩ := hq
          go_wp2
          go_loop [9, 12] (fun t i => ∃ k3 z3 : Nat, k3 ≤ g.ml ∧ z3 ≤ 1048576 ∧ i = .int .i64 k3 ∧ t = .int .i64 z3) (fun _ i => g.ml - (intOf i).toNat)
          case atStart => exact ⟨0, z2 + g.name.size + g.ml, Nat.zero_le _, hq2, rfl, by go_num⟩
          case round =>
            obtain ⟨k3, z3, hk3, hz3, rfl, rfl⟩ := hrel
            by_cases hlt3 : k3 < g.ml
            · obtain ⟨b3, o3, hma, hms⟩ := HM.out (by omega)
              obtain ⟨s, hs3⟩ := hms k3 hlt3
              have l3 : (k3 : Int) < (g.ml : Int) := by omega
              clear hms
              by_cases hv : s.size ≤ 1048576 ∧ z3 + s.size ≤ 1048576
              rotate_left
              · by_cases hv1 : s.size ≤ 1048576
                all_goals
                  go_wp2
                  go_ret
                  exact Says.no rfl
              obtain ⟨hv1, hv2⟩ := hv
              go_wp2
              go_round
              case rel => exact ⟨k3 + 1, z3 + s.size, by omega, hv2, by go_num, by go_num⟩
              case measure => simp [intOf]; omega
            · obtain rfl : k3 = g.ml := by omega
              clear HM
              go_wp2
              go_round
              case rel => exact ⟨k2 + 1, z3, by omega, hz3, by go_num, rfl⟩
              case measure => simp [intOf]; omega
        · by_cases q_nm : nm.size ≤ 1048576 ∧ z2 + nm.size ≤ 1048576
          rotate_left
          · by_cases qq_nm : nm.size ≤ 1048576
            all_goals
              go_wp2
              go_ret
              exact Says.no rfl
          obtain ⟨p_nm, r_nm⟩ := q_nm
          go_wp2
          go_ret
          exact Says.yes rfl (by first | exact trivial | exact ⟨hU, hN1, p_nm⟩)

set_option maxHeartbeats 1000000 in
set_option maxRecDepth 20000 in
theorem bytesInsert (w : World) (B : Nat) (u : Option Addr) (ul uc : Nat) (us : List Usr) (a : Option Addr) (n c : Nat) (gs : List Grp) (x y : Int) (nn nm : ByteArray) (hul : us.length = ul) (hu : Us B w u us) (hz : gs.length = n) (ha : Gs B w a c gs) (hm : Ms w gs) :
    Calls Try.prog 30 #[.slice u ul uc, .slice a n c, .int .i64 x, .string nn, .int .u32 y, .string nm] w (Says (ul ≤ 1048576 ∧ n ≤ 1048576 ∧ nn.size ≤ 1048576 ∧ nm.size ≤ 1048576) w) := by
  by_cases hU : ul ≤ 1048576
  rotate_left
  · go_enter Try.func30, Try.ntmps30
    go_wp2
    go_ret
    exact Says.no rfl
  go_enter Try.func30, Try.ntmps30
  go_wp2
  go_loop [13, 14] (fun t i => ∃ k z : Nat, k ≤ ul ∧ z ≤ 1048576 ∧ i = .int .i64 k ∧ t = .int .i64 z) (fun _ i => ul - (intOf i).toNat)
  case atStart => exact ⟨0, ul, Nat.zero_le _, hU, rfl, rfl⟩
  case round =>
    obtain ⟨k, z, hk, hzz, rfl, rfl⟩ := hrel
    by_cases hlt : k < ul
    · obtain ⟨b1, o1, rfl, hb1, hcs⟩ := hu.addr (by omega)
      obtain ⟨g, hg⟩ : ∃ g, us[k]? = some g := ⟨_, List.getElem?_eq_getElem (by omega)⟩
      obtain ⟨e0, _, _⟩ := hcs k g hg
      have l1 : (k : Int) < (ul : Int) := by omega
      clear hcs hg
      by_cases hs : g.name.size ≤ 1048576
      · by_cases ht : z + g.name.size ≤ 1048576
        · go_wp2
          go_round
          case rel => exact ⟨k + 1, z + g.name.size, by omega, ht, by go_num, by go_num⟩
          case measure => simp [intOf]; omega
        · go_wp2
          go_ret
          exact Says.no rfl
      · go_wp2
        go_ret
        exact Says.no rfl
    · by_cases hN : n ≤ 1048576 ∧ z + n ≤ 1048576
      rotate_left
      · by_cases hN1 : n ≤ 1048576
        all_goals
          go_wp2
          go_ret
          exact Says.no rfl
      obtain ⟨hN1, hN2⟩ := hN
      go_wp2
      go_loop [13, 15, 16] (fun t i _ => ∃ k2 z2 : Nat, k2 ≤ n ∧ z2 ≤ 1048576 ∧ i = .int .i64 k2 ∧ t = .int .i64 z2) (fun _ i _ => n - (intOf i).toNat)
      case atStart => exact ⟨0, z + n, Nat.zero_le _, hN2, rfl, by go_num⟩
      case round =>
        obtain ⟨k2, z2, hk2, hz2, rfl, rfl⟩ := hrel
        by_cases hlt2 : k2 < n
        · obtain ⟨b2, o2, rfl, hb2, hcs⟩ := ha.addr (by omega)
          obtain ⟨g, hg⟩ : ∃ g, gs[k2]? = some g := ⟨_, List.getElem?_eq_getElem (by omega)⟩
          obtain ⟨e0, _, e2⟩ := hcs k2 g hg
          have l2 : (k2 : Int) < (n : Int) := by omega
          have HM : Hid (0 < g.ml → ∃ b o, g.ma = some ⟨b, o, none⟩ ∧ ∀ j, j < g.ml → ∃ s, w.cell? ⟨b, o + j, none⟩ = some (.string s)) := fun h0 => hm.addr hg h0
          clear hcs hg
          by_cases hs : g.name.size ≤ 1048576 ∧ z2 + g.name.size ≤ 1048576
          rotate_left
          · by_cases hs1 : g.name.size ≤ 1048576
            all_goals
              go_wp2
              go_ret
              exact Says.no rfl
          obtain ⟨hs1, hs2⟩ := hs
          by_cases hq : g.ml ≤ 1048576 ∧ z2 + g.name.size + g.ml ≤ 1048576
          rotate_left
          · by_cases hq1 : g.ml ≤ 1048576
            all_goals
              go_wp2
              go_ret
              exact Says.no rfl
          obtain ⟨hq1, hq2⟩ := hq
          go_wp2
          go_loop [13, 16] (fun t i => ∃ k3 z3 : Nat, k3 ≤ g.ml ∧ z3 ≤ 1048576 ∧ i = .int .i64 k3 ∧ t = .int .i64 z3) (fun _ i => g.ml - (intOf i).toNat)
          case atStart => exact ⟨0, z2 + g.name.size + g.ml, Nat.zero_le _, hq2, rfl, by go_num⟩
          case round =>
            obtain ⟨k3, z3, hk3, hz3, rfl, rfl⟩ := hrel
            by_cases hlt3 : k3 < g.ml
            · obtain ⟨b3, o3, hma, hms⟩ := HM.out (by omega)
              obtain ⟨s, hs3⟩ := hms k3 hlt3
              have l3 : (k3 : Int) < (g.ml : Int) := by omega
              clear hms
              by_cases hv : s.size ≤ 1048576 ∧ z3 + s.size ≤ 1048576
              rotate_left
              · by_cases hv1 : s.size ≤ 1048576
                all_goals
                  go_wp2
                  go_ret
                  exact Says.no rfl
              obtain ⟨hv1, hv2⟩ := hv
              go_wp2
              go_round
              case rel => exact ⟨k3 + 1, z3 + s.size, by omega, hv2, by go_num, by go_num⟩
              case measure => simp [intOf]; omega
            · obtain rfl : k3 = g.ml := by omega
              clear HM
              go_wp2
              go_round
              case rel => exact ⟨k2 + 1, z3, by omega, hz3, by go_num, rfl⟩
              case measure => simp [intOf]; omega
        · by_cases q_nn : nn.size ≤ 1048576 ∧ z2 + nn.size ≤ 1048576
          rotate_left
          · by_cases qq_nn : nn.size ≤ 1048576
            all_goals
              go_wp2
              go_ret
              exact Says.no rfl
          obtain ⟨p_nn, r_nn⟩ := q_nn
          by_cases q_nm : nm.size ≤ 1048576 ∧ z2 + nn.size + nm.size ≤ 1048576
          rotate_left
          · by_cases qq_nm : nm.size ≤ 1048576
            all_goals
              go_wp2
              go_ret
              exact Says.no rfl
          obtain ⟨p_nm, r_nm⟩ := q_nm
          go_wp2
          go_ret
          exact Says.yes rfl (by first | exact trivial | exact ⟨hU, hN1, p_nn, p_nm⟩)
end Go.Proofs.Qxb6608618a
