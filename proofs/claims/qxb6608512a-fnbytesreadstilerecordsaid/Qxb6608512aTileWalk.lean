import Derived.Test.Qxb6608512aFields
namespace Go.Proofs.Qxb6608512a
open Go.RowKit

theorem tile_big (a a' : Option Addr) (len cap len' cap' : Nat) (w : World) (hm : len ≤ maxLen) (hm' : len' ≤ maxLen) (hn : ¬ len + 8 * len' ≤ 1048576) :
    Calls Try.prog 4 #[.slice a len cap, .slice a' len' cap'] w fun e w' => e = .returned (.bool true) ∧ Below w.heap.size w w' := by
  by_cases h1 : len + len' ≤ 1048576
  · have h2 : ¬ (1048576 : Int) < (len : Int) := by omega
    have h2' : decide ((1048576 : Int) < (len : Int)) = false := by simpa using h2
    by_cases h3 : (131072 : Int) < (len' : Int)
    all_goals
      go_enter Try.func4, Try.ntmps4
      go_wp2_with (go_at_call 11; refine (bound2_yes _ _ _ _ _ _ _ h1).mono ?_; rintro e w' ⟨rfl, rfl⟩)
      go_ret
      exact ⟨rfl, Below.refl _ _⟩
  · go_enter Try.func4, Try.ntmps4
    go_wp2_with (go_at_call 11; refine (bound2_no _ _ _ _ _ _ _ hm hm' h1).mono ?_; rintro e w' ⟨rfl, rfl⟩)
    go_ret
    exact ⟨rfl, Below.refl _ _⟩

set_option maxHeartbeats 1000000 in
theorem tile_small (a a' : Option Addr) (len cap len' cap' : Nat) (zs ns : List Int) (w : World) (hz : zs.length = len) (hz' : ns.length = len') (hr : Rd w.heap.size w a cap zs) (hnil : a = none → len = 0)
    (hns : ∀ i, i < len' → ∃ b o, a' = some ⟨b, o, none⟩ ∧ b < w.heap.size ∧ w.cell? ⟨b, o + i, none⟩ = some (.int .u64 (ns.getD i 0))) (hnw : ∀ i, i < len' → 0 ≤ ns.getD i 0) (hn : len + 8 * len' ≤ 1048576) :
    Calls Try.prog 4 #[.slice a len cap, .slice a' len' cap'] w fun e w' => e = .returned (.bool true) ∧ Below w.heap.size w w' := by
  have hcap : len ≤ cap := by have := hr.1; omega
  have h2 : ¬ (1048576 : Int) < (len : Int) := by omega
  have h3 : ¬ (131072 : Int) < (len' : Int) := by omega
  go_enter Try.func4, Try.ntmps4
  go_wp2_with (go_at_call 11; refine (bound2_yes _ _ _ _ _ _ _ (by omega)).mono ?_; rintro e w' ⟨rfl, rfl⟩)
  refine (clone_any w w.heap.size a len cap zs hz (by omega) (Nat.le_refl _) hr hnil).mono ?_
  rintro e w1 ⟨a1, c1, rfl, hr1, hb1⟩
  go_wp2_with (go_at_call 6; refine (new_any _ _ _ _).mono ?_; rintro e w' ⟨rfl, rfl⟩)
  have hf1 := Fd.new hz hr1
  have hs1 : w.heap.size ≤ w1.heap.size := hb1.size
  have hb2 : Below w.heap.size w (w1.alloc (.cells #[.slice a1 len c1, .bool true] 34)) := hb1.alloc hs1 _
  clear hr1 hb1
  go_loopw [7, 8, 9] (fun pos failed i wr => ∃ (k p : Nat) (fl : Bool), k ≤ len' ∧ p ≤ len ∧ pos = .int .u64 p ∧ failed = .bool fl ∧ i = .int .i64 k ∧ Fd wr w1.heap.size (if fl then [] else zs.drop p) (!fl) ∧ Below w.heap.size w wr ∧ w1.heap.size < wr.heap.size) (fun _ _ i _ => len' - (intOf i).toNat)
  case atStart => exact ⟨0, 0, false, Nat.zero_le _, Nat.zero_le _, rfl, rfl, rfl, by simpa using hf1, hb2, by simp⟩
  case round =>
    obtain ⟨k, p, fl, hk, hp, rfl, rfl, rfl, hf, hb, hs⟩ := hrel
    clear hf1 hb2
    by_cases hlt : k < len'
    · obtain ⟨b1, o1, rfl, hbl, hc⟩ := hns k hlt
      have hv := hnw k hlt
      have hc' : wr.cell? ⟨b1, o1 + k, none⟩ = some (.int .u64 (ns.getD k 0)) := (hb.cell (p := ⟨b1, o1 + k, none⟩) hbl).trans hc
      have l1 : (k : Int) < (len' : Int) := by omega
      obtain ⟨z, hzz⟩ : ∃ z, z = ns.getD k 0 := ⟨_, rfl⟩
      rw [← hzz] at hc' hv
      clear hc hns hnw hzz
      cases fl
      · simp only [Bool.not_false, if_false, Bool.false_eq_true] at hf
        have hrec := hr.below hb (Nat.le_refl _)
        by_cases hfit : z ≤ (len : Int) - (p : Int)
        · obtain ⟨j, rfl⟩ : ∃ j : Nat, z = j := ⟨z.toNat, by omega⟩
          obtain ⟨A, hA⟩ : ∃ A, (if cap = p then a else Option.map (fun x => x.add p) a) = A := ⟨_, rfl⟩
          have hsub := hrec.dropIf p
          rw [hA] at hsub
          go_wp2_with (go_at_call 8; refine (bytes_yes _ _ _ _ j hf (by simp; omega) (by simp; omega)).mono ?_; rintro e w3 ⟨a3, c3, rfl, hr3, hf3, hb5⟩)
          have hsub3 := hsub.below (hb5.mono hs1) (Nat.le_refl _)
          have hb6 := hb.trans (hb5.mono hs1)
          have hs3 := hb5.size
          have hlj : (List.take j (List.drop p zs)).length = j := by simp; omega
          refine (eq_any w3 w1.heap.size a3 A j c3 (cap - p) (List.take j (List.drop p zs)) hlj (by omega) hr3 ((hsub3.take j).mono hs1)).mono ?_
          rintro e w4 ⟨rfl, hq⟩
          have hf4 := hf3.below (hq _) (Nat.lt_succ_self _)
          have hb7 := hb6.trans (hq _)
          have hs4 := (hq 0).size
          clear hf hrec hsub hr3 hf3 hb5 hsub3 hb6 hlj hq hb hc'
          go_wp2_with fail
          go_roundw
          case rel => exact ⟨k + 1, p + j, false, by omega, by omega, by go_num, rfl, by go_num, by simpa [Nat.add_comm] using hf4, hb7, by omega⟩
          case measure => simp [intOf]; omega
        · go_wp2_with (go_at_call 8; refine (bytes_no _ _ _ _ z hf (by simp; omega) (by simp; omega)).mono ?_; rintro e w3 ⟨rfl, hf3, hb5⟩)
          have hb6 := hb.trans (hb5.mono hs1)
          have hs3 := hb5.size
          go_roundw
          case rel => exact ⟨k + 1, p, true, by omega, by omega, rfl, rfl, by go_num, by simpa using hf3, hb6, by omega⟩
          case measure => simp [intOf]; omega
      · simp only [Bool.not_true, if_true] at hf
        go_wp2_with (go_at_call 8; refine (bytes_nil _ _ z hf hv).mono ?_; rintro e w3 ⟨a3, c3, rfl, hf3, hb5⟩)
        have hb6 := hb.trans (hb5.mono hs1)
        have hs3 := hb5.size
        go_roundw
        case rel => exact ⟨k + 1, p, true, by omega, by omega, rfl, rfl, by go_num, by simpa using hf3, hb6, by omega⟩
        case measure => simp [intOf]; omega
    · cases fl
      · simp only [Bool.not_false, if_false, Bool.false_eq_true] at hf
        obtain ⟨d, hd⟩ : ∃ d, d = decide (p = len) := ⟨_, rfl⟩
        have hdd : ((p : Int) == (len : Int)) = d := by
          rw [hd, Bool.eq_iff_iff]; simp; omega
        have hd1 : Hid ((true && decide (zs.drop p = [])) = d) := by
          show _ = _
          rw [hd, Bool.eq_iff_iff]; simp; omega
        clear hd
        go_wp2_with (go_at_call 9; refine (done_is _ _ _ _ d hf hd1.out).mono ?_; rintro e w' ⟨rfl, rfl⟩)
        go_ret
        exact ⟨rfl, hb⟩
      · simp only [Bool.not_true, if_true] at hf
        go_wp2_with (go_at_call 9; refine (done_is _ _ _ _ false hf rfl).mono ?_; rintro e w' ⟨rfl, rfl⟩)
        go_ret
        exact ⟨rfl, hb⟩
end Go.Proofs.Qxb6608512a
