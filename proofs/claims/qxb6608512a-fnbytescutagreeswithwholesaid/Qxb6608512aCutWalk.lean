import Derived.Test.Qxb6608512aFields
namespace Go.Proofs.Qxb6608512a
open Go.RowKit

theorem walk_big (a : Option Addr) (len cap : Nat) (n m : Int) (w : World) (hn : ¬ len ≤ 1048576) :
    Calls Try.prog 3 #[.slice a len cap, .int .u64 n, .int .u64 m] w fun e w' => e = .returned (.bool true) ∧ Below w.heap.size w w' := by
  go_enter Try.func3, Try.ntmps3
  go_wp2_with (go_at_call 5; refine (bound_no _ _ _ _ _ _ hn).mono ?_; rintro e w' ⟨rfl, rfl⟩)
  go_ret
  exact ⟨rfl, Below.refl _ _⟩

set_option maxHeartbeats 300000 in
theorem walk_fit (a : Option Addr) (len cap : Nat) (zs : List Int) (n m : Nat) (w : World) (hz : zs.length = len) (hn : len ≤ 1048576) (hr : Rd w.heap.size w a cap zs) (hnil : a = none → len = 0) (h : n + m ≤ len) :
    Calls Try.prog 3 #[.slice a len cap, .int .u64 n, .int .u64 m] w fun e w' => e = .returned (.bool true) ∧ Below w.heap.size w w' := by
  obtain ⟨d, hd⟩ : ∃ d, d = decide (n + m = len) := ⟨_, rfl⟩
  have hdd : (((n : Int) + (m : Int)) == (len : Int)) = d := by
    rw [hd, Bool.eq_iff_iff]; simp; omega
  have hd1 : Hid ((true && decide ((zs.drop n).drop m = [])) = d) := by
    show _ = _
    rw [hd, Bool.eq_iff_iff]; simp; omega
  clear hd
  have hcap : len ≤ cap := by have := hr.1; omega
  go_enter Try.func3, Try.ntmps3
  go_wp2_with (go_at_call 5; refine (bound_yes _ _ _ _ _ _ hn).mono ?_; rintro e w' ⟨rfl, rfl⟩)
  refine (clone_any _ w.heap.size a len cap zs hz hn (Nat.le_refl _) hr hnil).mono ?_
  rintro e w1 ⟨a1, c1, rfl, hr1, hb1⟩
  go_wp2_with (go_at_call 6; refine (new_any _ _ _ _).mono ?_; rintro e w' ⟨rfl, rfl⟩)
  have hf1 := Fd.new hz hr1
  have hs1 : w.heap.size ≤ w1.heap.size := hb1.size
  have hb2 : Below w.heap.size w (w1.alloc (.cells #[.slice a1 len c1, .bool true] 34)) := hb1.alloc hs1 _
  refine (bytes_yes _ _ _ _ n hf1 (by omega) (by omega)).mono ?_
  rintro e w2 ⟨a2, c2, rfl, hr2, hf2, hb3⟩
  have hb4 := hb2.trans (hb3.mono hs1)
  have hs2 : w1.heap.size < w2.heap.size := by have := hb3.size; simp at this; omega
  clear hr1 hb1 hf1 hb2 hb3
  go_wp2_with fail
  refine (bytes_yes _ _ _ _ m hf2 (by simp; omega) (by simp; omega)).mono ?_
  rintro e w3 ⟨a3, c3, rfl, hr3, hf3, hb5⟩
  have hr2' := hr2.below hb5 (Nat.le_refl _)
  have hb6 := hb4.trans (hb5.mono hs1)
  have hs3 : w1.heap.size < w3.heap.size := by have := hb5.size; omega
  clear hr2 hf2 hb4 hb5 hs2
  go_wp2_with (go_at_call 9; refine (done_is _ _ _ _ d hf3 hd1.out).mono ?_; rintro e w' ⟨rfl, rfl⟩)
  have hrec := hr.below hb6 (Nat.le_refl _)
  refine (clone_any _ w.heap.size a len cap zs hz hn (by omega) hrec hnil).mono ?_
  rintro e w4 ⟨a4, c4, rfl, hr4, hb7⟩
  have hs4 := hb7.size
  have hr2'' := hr2'.below hb7 (by omega)
  have hr3'' := hr3.below hb7 (by omega)
  have hb8 := hb6.trans (hb7.mono (by omega))
  clear hr2' hr3 hb7 hrec hf3 hb6
  go_wp2_with (go_at_call 6; refine (new_any _ _ _ _).mono ?_; rintro e w' ⟨rfl, rfl⟩)
  have hf4 := Fd.new hz hr4
  have hb9 : Below w.heap.size w (w4.alloc (.cells #[.slice a4 len c4, .bool true] 34)) := hb8.alloc (by omega) _
  have hb10 : Below w4.heap.size w4 (w4.alloc (.cells #[.slice a4 len c4, .bool true] 34)) := (Below.refl _ _).alloc (Nat.le_refl _) _
  have hr2a := hr2''.below hb10 (by omega)
  have hr3a := hr3''.below hb10 (by omega)
  clear hr2'' hr3'' hb10 hb8 hr4
  refine (bytes_yes' _ _ _ _ _ (n + m) (by omega) hf4 (by omega) (by omega)).mono ?_
  rintro e w5 ⟨a5, c5, rfl, hr5, hf5, hb11⟩
  have hs5 : w4.heap.size < w5.heap.size := by have := hb11.size; simp at this; omega
  have hr2 := hr2a.below hb11 (by omega)
  have hr3 := hr3a.below hb11 (by omega)
  have hb12 := hb9.trans (hb11.mono (by omega))
  clear hr2a hr3a hb9 hb11 hf4
  have hd2 : Hid ((true && decide (zs.drop (n + m) = [])) = d) := by
    show _ = _
    rw [← hd1.out]; simp
  go_wp2_with (go_at_call 9; refine (done_is _ _ _ _ d hf5 hd2.out).mono ?_; rintro e w' ⟨rfl, rfl⟩)
  have hrec := hr.below hb12 (Nat.le_refl _)
  have hlt : (zs.take n).length = n := by simp; omega
  refine (eq_any _ w1.heap.size a2 a n c2 cap (zs.take n) hlt (by omega) hr2 ((hrec.take n).mono hs1)).mono ?_
  rintro e w6 ⟨rfl, hq⟩
  have hr5' := hr5.below (hq _) (Nat.le_refl _)
  have hr3' := hr3.below (hq _) (Nat.le_refl _)
  have hrec' := hrec.below (hq _) (Nat.le_refl _)
  have hb13 := hb12.trans (hq _)
  clear hr2 hr3 hr5 hrec hb12 hq hlt hf5
  go_wp2_with fail
  all_goals have hlm : (List.take m (List.drop n zs)).length = m := by simp; omega
  all_goals
    first
    | (have hcn : cap = n := by assumption
       have hsub : Rd w.heap.size w6 a 0 (zs.drop n) := by have := hrec'.dropEnd; rw [hcn] at this; exact this
       refine (eq_any w6 w1.heap.size a3 a m c3 0 (List.take m (List.drop n zs)) hlm (by omega) hr3' ((hsub.take m).mono hs1)).mono ?_
       clear hsub)
    | (have hcn : ¬ cap = n := by assumption
       refine (eq_any w6 w1.heap.size a3 (Option.map (fun x => x.add n) a) m c3 (cap - n) (List.take m (List.drop n zs)) hlm (by omega) hr3' (((hrec'.drop n).take m).mono hs1)).mono ?_)
    rintro e w7 ⟨rfl, hq⟩
    have hr5 := hr5'.below (hq _) (Nat.le_refl _)
    have hrec := hrec'.below (hq _) (Nat.le_refl _)
    have hb14 := hb13.trans (hq _)
    clear hr3' hr5' hrec' hb13 hq hlm
    go_wp2_with fail
    have hl5 : (zs.take (n + m)).length = n + m := by simp; omega
    have hs6 : w.heap.size ≤ w4.heap.size := by omega
    have hrec5 := (hrec.take (n + m)).mono hs6
    first
    | (have hcn : cap = n := by assumption
       rw [hcn] at hrec5
       refine (eq_any w7 w4.heap.size a5 a (n + m) c5 n (zs.take (n + m)) hl5 (by omega) hr5 hrec5).mono ?_)
    | (have hcn : ¬ cap = n := by assumption
       refine (eq_any w7 w4.heap.size a5 a (n + m) c5 cap (zs.take (n + m)) hl5 (by omega) hr5 hrec5).mono ?_)
    rintro e w8 ⟨rfl, hq⟩
    have hb15 := hb14.trans (hq _)
    clear hrec hr5 hb14 hq
    go_wp2_with fail
    go_ret
    exact ⟨rfl, hb15⟩

theorem walk_first (a : Option Addr) (len cap : Nat) (zs : List Int) (n m : Int) (w : World) (hz : zs.length = len) (hn : len ≤ 1048576) (hr : Rd w.heap.size w a cap zs) (hnil : a = none → len = 0) (h : (len : Int) < n) (hm : 0 ≤ m) :
    Calls Try.prog 3 #[.slice a len cap, .int .u64 n, .int .u64 m] w fun e w' => e = .returned (.bool true) ∧ Below w.heap.size w w' := by
  have hcap : len ≤ cap := by have := hr.1; omega
  go_enter Try.func3, Try.ntmps3
  go_wp2_with (go_at_call 5; refine (bound_yes _ _ _ _ _ _ hn).mono ?_; rintro e w' ⟨rfl, rfl⟩)
  refine (clone_any _ w.heap.size a len cap zs hz hn (Nat.le_refl _) hr hnil).mono ?_
  rintro e w1 ⟨a1, c1, rfl, hr1, hb1⟩
  go_wp2_with (go_at_call 6; refine (new_any _ _ _ _).mono ?_; rintro e w' ⟨rfl, rfl⟩)
  have hf1 := Fd.new hz hr1
  have hs1 : w.heap.size ≤ w1.heap.size := hb1.size
  have hb2 : Below w.heap.size w (w1.alloc (.cells #[.slice a1 len c1, .bool true] 34)) := hb1.alloc hs1 _
  refine (bytes_no _ _ _ _ n hf1 (by omega) (by omega)).mono ?_
  rintro e w2 ⟨rfl, hf2, hb3⟩
  have hb4 := hb2.trans (hb3.mono hs1)
  have hs2 : w1.heap.size < w2.heap.size := by have := hb3.size; simp at this; omega
  clear hr1 hb1 hf1 hb2 hb3
  go_wp2_with fail
  refine (bytes_nil _ _ m hf2 hm).mono ?_
  rintro e w3 ⟨a3, c3, rfl, hf3, hb5⟩
  have hb6 := hb4.trans (hb5.mono hs1)
  have hs3 : w1.heap.size < w3.heap.size := by have := hb5.size; omega
  clear hf2 hb4 hb5 hs2
  go_wp2_with (go_at_call 9; refine (done_is _ _ _ _ false hf3 rfl).mono ?_; rintro e w' ⟨rfl, rfl⟩)
  · go_ret
    exact ⟨rfl, hb6⟩
  · have hrec := hr.below hb6 (Nat.le_refl _)
    refine (clone_any _ w.heap.size a len cap zs hz hn (by omega) hrec hnil).mono ?_
    rintro e w4 ⟨a4, c4, rfl, hr4, hb7⟩
    have hs4 := hb7.size
    have hb8 := hb6.trans (hb7.mono (by omega))
    clear hb7 hrec hf3 hb6
    go_wp2_with (go_at_call 6; refine (new_any _ _ _ _).mono ?_; rintro e w' ⟨rfl, rfl⟩)
    have hf4 := Fd.new hz hr4
    have hb9 : Below w.heap.size w (w4.alloc (.cells #[.slice a4 len c4, .bool true] 34)) := hb8.alloc (by omega) _
    clear hb8 hr4
    refine (bytes_no _ _ _ _ _ hf4 (by omega) (by omega)).mono ?_
    rintro e w5 ⟨rfl, hf5, hb11⟩
    have hb12 := hb9.trans (hb11.mono (by omega))
    clear hb9 hb11 hf4
    go_wp2_with (go_at_call 9; refine (done_is _ _ _ _ false hf5 rfl).mono ?_; rintro e w' ⟨rfl, rfl⟩)
    go_ret
    exact ⟨rfl, hb12⟩

theorem wrap_ge {n m : Int} (_h : 0 ≤ n) (hm : 0 ≤ m) (_hn2 : n < 18446744073709551616) (hm2 : m < 18446744073709551616) (hw : n ≤ IntKind.u64.wrap (n + m)) : n + m ≤ IntKind.u64.wrap (n + m) := by
  have e : IntKind.u64.wrap (n + m) = (n + m) % 18446744073709551616 := by
    unfold IntKind.wrap
    simp [IntKind.signed, IntKind.bits]
  rw [e] at hw ⊢
  omega

set_option maxHeartbeats 1000000 in
theorem walk_second (a : Option Addr) (len cap : Nat) (zs : List Int) (n : Nat) (m : Int) (w : World) (hz : zs.length = len) (hn : len ≤ 1048576) (hr : Rd w.heap.size w a cap zs) (hnil : a = none → len = 0) (h : n ≤ len) (hm : (len : Int) - n < m) (hm2 : m < 18446744073709551616) :
    Calls Try.prog 3 #[.slice a len cap, .int .u64 n, .int .u64 m] w fun e w' => e = .returned (.bool true) ∧ Below w.heap.size w w' := by
  have hcap : len ≤ cap := by have := hr.1; omega
  have hmd : decide (m ≤ (len : Int) - (n : Int)) = false := by simp; omega
  go_enter Try.func3, Try.ntmps3
  go_wp2_with (go_at_call 5; refine (bound_yes _ _ _ _ _ _ hn).mono ?_; rintro e w' ⟨rfl, rfl⟩)
  refine (clone_any _ w.heap.size a len cap zs hz hn (Nat.le_refl _) hr hnil).mono ?_
  rintro e w1 ⟨a1, c1, rfl, hr1, hb1⟩
  go_wp2_with (go_at_call 6; refine (new_any _ _ _ _).mono ?_; rintro e w' ⟨rfl, rfl⟩)
  have hf1 := Fd.new hz hr1
  have hs1 : w.heap.size ≤ w1.heap.size := hb1.size
  have hb2 : Below w.heap.size w (w1.alloc (.cells #[.slice a1 len c1, .bool true] 34)) := hb1.alloc hs1 _
  refine (bytes_yes _ _ _ _ n hf1 (by omega) (by omega)).mono ?_
  rintro e w2 ⟨a2, c2, rfl, hr2, hf2, hb3⟩
  have hb4 := hb2.trans (hb3.mono hs1)
  have hs2 : w1.heap.size < w2.heap.size := by have := hb3.size; simp at this; omega
  clear hr1 hb1 hf1 hb2 hb3
  go_wp2_with fail
  refine (bytes_no _ _ _ _ m hf2 (by simp; omega) (by simp; omega)).mono ?_
  rintro e w3 ⟨rfl, hf3, hb5⟩
  have hr2' := hr2.below hb5 (Nat.le_refl _)
  have hb6 := hb4.trans (hb5.mono hs1)
  have hs3 : w1.heap.size < w3.heap.size := by have := hb5.size; omega
  clear hr2 hf2 hb4 hb5 hs2
  go_wp2_with (go_at_call 9; refine (done_is _ _ _ _ false hf3 rfl).mono ?_; rintro e w' ⟨rfl, rfl⟩)
  have hrec := hr.below hb6 (Nat.le_refl _)
  have hlt : (zs.take n).length = n := by simp; omega
  refine (eq_any w3 w1.heap.size a2 a n c2 cap (zs.take n) hlt (by omega) hr2' ((hrec.take n).mono hs1)).mono ?_
  rintro e w6 ⟨rfl, hq⟩
  have hb7 := hb6.trans (hq _)
  have hs6 := (hq 0).size
  clear hr2' hrec hlt hf3 hb6 hq
  go_wp2_with fail
  · go_ret
    exact ⟨rfl, hb7⟩
  · have hw : (n : Int) ≤ IntKind.u64.wrap (n + m) := by assumption
    have hgt : (len : Int) < IntKind.u64.wrap (n + m) := by
      have := wrap_ge (n := n) (m := m) (by omega) (by omega) (by omega) hm2 hw
      omega
    have hrec := hr.below hb7 (Nat.le_refl _)
    refine (clone_any w6 w.heap.size a len cap zs hz hn (by omega) hrec hnil).mono ?_
    rintro e w4 ⟨a4, c4, rfl, hr4, hb8⟩
    have hs4 := hb8.size
    have hb9 := hb7.trans (hb8.mono (by omega))
    clear hb8 hrec hb7
    go_wp2_with (go_at_call 6; refine (new_any _ _ _ _).mono ?_; rintro e w' ⟨rfl, rfl⟩)
    have hf4 := Fd.new hz hr4
    have hb10 : Below w.heap.size w (w4.alloc (.cells #[.slice a4 len c4, .bool true] 34)) := hb9.alloc (by omega) _
    clear hb9 hr4
    refine (bytes_no _ _ _ _ _ hf4 (by omega) (by omega)).mono ?_
    rintro e w5 ⟨rfl, hf5, hb11⟩
    have hb12 := hb10.trans (hb11.mono (by omega))
    clear hb10 hb11 hf4
    go_wp2_with (go_at_call 9; refine (done_is _ _ _ _ false hf5 rfl).mono ?_; rintro e w' ⟨rfl, rfl⟩)
    go_ret
    exact ⟨rfl, hb12⟩

/-- THE LAW, for every record and all counts. -/
theorem walk_cut (a : Option Addr) (len cap : Nat) (zs : List Int) (n m : Int) (w : World) (hz : zs.length = len) (hr : Rd w.heap.size w a cap zs) (hnil : a = none → len = 0) (hn : 0 ≤ n) (hm : 0 ≤ m) (hm2 : m < 18446744073709551616) :
    Calls Try.prog 3 #[.slice a len cap, .int .u64 n, .int .u64 m] w fun e w' => e = .returned (.bool true) ∧ Below w.heap.size w w' := by
  by_cases hl : len ≤ 1048576
  · by_cases h1 : (len : Int) < n
    · exact walk_first a len cap zs n m w hz hl hr hnil h1 hm
    · obtain ⟨k, rfl⟩ : ∃ k : Nat, n = k := ⟨n.toNat, by omega⟩
      by_cases h2 : (len : Int) - k < m
      · exact walk_second a len cap zs k m w hz hl hr hnil (by omega) h2 hm2
      · obtain ⟨j, rfl⟩ : ∃ j : Nat, m = j := ⟨m.toNat, by omega⟩
        exact walk_fit a len cap zs k j w hz hl hr hnil (by omega)
  · exact walk_big a len cap n m w hl
end Go.Proofs.Qxb6608512a
