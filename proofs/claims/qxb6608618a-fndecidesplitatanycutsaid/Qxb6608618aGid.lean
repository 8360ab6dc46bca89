import Derived.Test.Qxb6608618aBase
namespace Go.Proofs.Qxb6608618a
open Go.RowKit

theorem first_cases (gs : List Grp) (nm : ByteArray) : first gs nm = -1 ∨ ∃ (k : Nat) (g : Grp), first gs nm = (k : Int) ∧ gs[k]? = some g := by
  unfold first
  split
  · rename_i h
    exact .inr ⟨_, _, rfl, List.getElem?_eq_getElem h⟩
  · exact .inl rfl

/-- What a look-up of a name answers. -/
def gidAt (gs : List Grp) (i : Int) : Int := if 0 ≤ i then (gs[i.toNat]?.map Grp.gid).getD 0 else 0

theorem gidAt_neg (gs : List Grp) : gidAt gs (-1) = 0 := rfl
theorem gidAt_hit {gs : List Grp} {k : Nat} {g : Grp} (h : gs[k]? = some g) : gidAt gs (k : Int) = g.gid := by
  unfold gidAt
  rw [if_pos (by omega), Int.toNat_natCast, h]
  rfl

theorem gid_any (w : World) (B : Nat) (u : Option Addr) (ul uc : Nat) (a : Option Addr) (n c : Nat) (gs : List Grp) (nm : ByteArray) (hz : gs.length = n) (hn : n ≤ 1048576) (hB : B ≤ w.heap.size) (ha : Gs B w a c gs) :
    Calls Try.prog 33 #[.agg #[.slice u ul uc, .slice a n c], .string nm] w fun e w' => e = .returned (.tuple #[.int .u32 (gidAt gs (first gs nm)), .bool (decide (0 ≤ first gs nm))]) ∧ Below w.heap.size w w' := by
  have hb : Below w.heap.size w ((w.alloc (.cells #[.slice u ul uc, .slice a n c] 60)).alloc (.cells #[.string nm] 9)) := ((Below.refl w.heap.size w).alloc (Nat.le_refl _) _).alloc (by simp) _
  have hg := ha.below hb hB
  rcases first_cases gs nm with hf | ⟨k, g, hf, hk⟩
  · rw [hf, gidAt_neg]
    go_enter Try.func33, Try.ntmps33
    go_wp2_with (go_at_call 36; refine (index_any _ B a n c gs nm (w.heap.size + 1) hz hn (by simp; omega) hg (by simp) (by simp)).mono ?_; rintro e w1 ⟨rfl, hb2⟩; rw [hf])
    go_ret2
    exact ⟨rfl, hb.trans (hb2.mono (by simp; omega))⟩
  · have hkl : k < n := by rw [← hz]; exact (List.getElem?_eq_some_iff.1 hk).1
    rw [hf, gidAt_hit hk]
    have hdd : decide (0 ≤ (k : Int)) = true := by simp
    rw [hdd]
    have HF : Hid (first gs nm = (k : Int)) := hf
    obtain ⟨b1, o1, rfl, hb1, hcs⟩ := ha.addr (by omega)
    have e1 := (hcs k g hk).2.1
    have lk : (k : Int) < (n : Int) := by omega
    clear hcs hf hk hdd
    go_enter Try.func33, Try.ntmps33
    go_wp2_with (go_at_call 36; refine (index_any _ B (some ⟨b1, o1, none⟩) n c gs nm (w.heap.size + 1) hz hn (by simp; omega) hg (by simp) (by simp)).mono ?_; rintro e w1 ⟨rfl, hb2⟩; rw [HF.out]; have d1 : w1.cell? ⟨w.heap.size, 1, none⟩ = some (.slice (some ⟨b1, o1, none⟩) n c) := (hb2.cell (p := ⟨w.heap.size, 1, none⟩) (by simp; omega)).trans (by simp); have d2 : w1.cell? ⟨b1, o1 + k * 3 + 1, none⟩ = some (.int .u32 g.gid) := ((hb.trans (hb2.mono (by simp; omega))).cell (p := ⟨b1, o1 + k * 3 + 1, none⟩) (by show b1 < _; omega)).trans e1)
    go_ret2
    exact ⟨rfl, hb.trans (hb2.mono (by simp; omega))⟩

theorem zzgid_any (w : World) (B : Nat) (u : Option Addr) (ul uc : Nat) (a : Option Addr) (n c : Nat) (gs : List Grp) (nm : ByteArray) (hz : gs.length = n) (hn : n ≤ 1048576) (hB : B ≤ w.heap.size) (ha : Gs B w a c gs) :
    Calls Try.prog 27 #[.agg #[.slice u ul uc, .slice a n c], .string nm] w fun e w' => e = .returned (.tuple #[.int .u32 (gidAt gs (first gs nm)), .bool (decide (0 ≤ first gs nm))]) ∧ Below w.heap.size w w' := by
  have hb : Below w.heap.size w (w.alloc (.cells #[.slice u ul uc, .slice a n c] 60)) := (Below.refl w.heap.size w).alloc (Nat.le_refl _) _
  have hg := ha.below hb hB
  go_enter Try.func27, Try.ntmps27
  go_wp2_with (go_at_call 33; refine (gid_any _ B u ul uc a n c gs nm hz hn (by simp; omega) hg).mono ?_; rintro e w1 ⟨rfl, hb2⟩)
  go_ret2
  exact ⟨rfl, hb.trans (hb2.mono (by simp))⟩

theorem firstGroup_any (w : World) (B : Nat) (a : Option Addr) (n c : Nat) (gs : List Grp) (nm : ByteArray) (hz : gs.length = n) (hn : n ≤ 1048576) (ha : Gs B w a c gs) :
    Calls Try.prog 29 #[.slice a n c, .string nm] w fun e w' => e = .returned (.int .i64 (first gs nm)) ∧ w = w' := by
  go_enter Try.func29, Try.ntmps29
  go_wp2
  go_loop [5] (fun i => ∃ k : Nat, k ≤ n ∧ i = .int .i64 k ∧ ∀ j h, j < k → gs[j]? = some h → eqS h.name nm = false) (fun i => n - (intOf i).toNat)
  case atStart => exact ⟨0, Nat.zero_le _, rfl, fun j h hj => absurd hj (Nat.not_lt_zero _)⟩
  case round =>
    obtain ⟨k, hk, rfl, hno⟩ := hrel
    have HNO : Hid (∀ j h, j < k → gs[j]? = some h → eqS h.name nm = false) := hno
    by_cases hlt : k < n
    · obtain ⟨b1, o1, rfl, hb1, hcs⟩ := ha.addr (by omega)
      obtain ⟨g, hg⟩ : ∃ g, gs[k]? = some g := ⟨_, List.getElem?_eq_getElem (by omega)⟩
      obtain ⟨e0, e1, e2⟩ := hcs k g hg
      have l1 : (k : Int) < (n : Int) := by omega
      have HG : Hid (gs[k]? = some g) := hg
      obtain ⟨d, hd⟩ : ∃ d, (g.name.toList == nm.toList) = d := ⟨_, rfl⟩
      have HD : Hid (eqS g.name nm = d) := hd
      clear e1 e2 hcs hno hg
      cases d
      · go_wp2
        go_round
        case rel =>
          refine ⟨k + 1, by omega, by go_num, fun j h hj hjg => ?_⟩
          by_cases hjk : j = k
          · subst hjk
            rw [HG.out] at hjg
            cases hjg
            exact HD.out
          · exact HNO.out j h (by omega) hjg
        case measure => simp [intOf]; omega
      · go_wp2
        go_ret
        exact ⟨by rw [first_hit HG.out HNO.out HD.out]; rfl, rfl⟩
    · go_wp2
      go_ret
      refine ⟨?_, rfl⟩
      rw [first_none (fun j h hj => HNO.out j h (by omega))]
      rfl
end Go.Proofs.Qxb6608618a
