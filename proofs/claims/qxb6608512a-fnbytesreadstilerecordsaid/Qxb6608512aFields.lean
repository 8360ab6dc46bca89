import Derived.Test.Qxb6608512aBase
namespace Go.Proofs.Qxb6608512a
open Go.RowKit

/-- A Fields at the head of block fb: what is left of the record reads as 'zs'. -/
def Fd (w : World) (fb : Nat) (zs : List Int) (ok : Bool) : Prop :=
  ∃ a c, w.cell? ⟨fb, 0, none⟩ = some (.slice a zs.length c) ∧ w.cell? ⟨fb, 1, none⟩ = some (.bool ok) ∧ w.frozen? ⟨fb, 0, none⟩ = false ∧ w.frozen? ⟨fb, 1, none⟩ = false ∧ Rd fb w a c zs

theorem Fd.below {w w' : World} {fb B : Nat} {zs : List Int} {ok : Bool} (h : Fd w fb zs ok) (hb : Below B w w') (hB : fb < B) : Fd w' fb zs ok := by
  obtain ⟨a, c, h1, h2, h3, h4, h5⟩ := h
  exact ⟨a, c, (hb.cell (p := ⟨fb, 0, none⟩) hB).trans h1, (hb.cell (p := ⟨fb, 1, none⟩) hB).trans h2, (hb.frozen (p := ⟨fb, 0, none⟩) hB).trans h3, (hb.frozen (p := ⟨fb, 1, none⟩) hB).trans h4, h5.below hb (by omega)⟩

theorem Fd.new {w : World} {a : Option Addr} {n c : Nat} {zs : List Int} (hz : zs.length = n) (h : Rd w.heap.size w a c zs) : Fd (w.alloc (.cells #[.slice a n c, .bool true] 34)) w.heap.size zs true := by
  subst hz
  exact ⟨a, c, by simp, by simp, by simp, by simp, h.below ((Below.refl w.heap.size w).alloc (Nat.le_refl _) _) (Nat.le_refl _)⟩

theorem Rd.take {B : Nat} {w : World} {a : Option Addr} {c : Nat} {zs : List Int} (h : Rd B w a c zs) (n : Nat) : Rd B w a c (zs.take n) := by
  refine ⟨by have := h.1; simp; omega, fun i hi => ?_⟩
  simp only [List.length_take] at hi
  obtain ⟨b, o, h1, h2, h3⟩ := h.2 i (by omega)
  exact ⟨b, o, h1, h2, by rw [h3]; simp [show i < n by omega]⟩

theorem Rd.drop {B : Nat} {w : World} {a : Option Addr} {c : Nat} {zs : List Int} (h : Rd B w a c zs) (n : Nat) : Rd B w (a.map fun x => x.add n) (c - n) (zs.drop n) := by
  refine ⟨by have := h.1; simp; omega, fun i hi => ?_⟩
  simp only [List.length_drop] at hi
  obtain ⟨b, o, rfl, h2, h3⟩ := h.2 (n + i) (by omega)
  exact ⟨b, o + n, by simp [Addr.add_lit], h2, by rw [Nat.add_assoc, h3]; simp⟩

theorem Rd.dropEnd {B : Nat} {w : World} {a : Option Addr} {c : Nat} {zs : List Int} (h : Rd B w a c zs) : Rd B w a 0 (zs.drop c) := by
  have := h.1
  exact ⟨by simp; omega, fun i hi => by simp at hi; omega⟩

/-- 'xs[n:]' in the walk's own words. -/
theorem Rd.dropIf {B : Nat} {w : World} {a : Option Addr} {c : Nat} {zs : List Int} (h : Rd B w a c zs) (n : Nat) : Rd B w (if c = n then a else a.map fun x => x.add n) (c - n) (zs.drop n) := by
  split
  · rename_i e
    subst e
    rw [Nat.sub_self]
    exact h.dropEnd
  · exact h.drop n

theorem new_any (w : World) (a : Option Addr) (n c : Nat) :
    Calls Try.prog 6 #[.slice a n c] w fun e w' => e = .returned (.pointer (some ⟨w.heap.size, 0, none⟩)) ∧ w' = w.alloc (.cells #[.slice a n c, .bool true] 34) := by
  go_enter Try.func6, Try.ntmps6
  go_wp2
  go_ret
  exact ⟨rfl, rfl⟩

theorem done_any (w : World) (fb : Nat) (zs : List Int) (ok : Bool) (h : Fd w fb zs ok) :
    Calls Try.prog 9 #[.pointer (some ⟨fb, 0, none⟩)] w fun e w' => e = .returned (.bool (ok && decide (zs = []))) ∧ w = w' := by
  obtain ⟨a, c, h1, h2, h3, h4, h5⟩ := h
  cases ok
  · go_enter Try.func9, Try.ntmps9
    go_wp2
    go_ret
    exact ⟨rfl, rfl⟩
  · have hd : ((zs.length : Int) == 0) = decide (zs = []) := by
      rw [Bool.eq_iff_iff]; simp
    go_enter Try.func9, Try.ntmps9
    go_wp2
    go_ret
    exact ⟨rfl, rfl⟩

theorem bytes_no (w : World) (fb : Nat) (zs : List Int) (ok : Bool) (n : Int) (h : Fd w fb zs ok) (hn : (zs.length : Int) < n) (hm : zs.length ≤ 1048576) :
    Calls Try.prog 8 #[.pointer (some ⟨fb, 0, none⟩), .int .u64 n] w fun e w' => e = .returned (.slice none 0 0) ∧ Fd w' fb [] false ∧ Below fb w w' := by
  obtain ⟨a, c, h1, h2, h3, h4, h5⟩ := h
  go_enter Try.func8, Try.ntmps8
  go_wp2
  go_ret
  refine ⟨rfl, ⟨none, 0, ?_, ?_, by simpa using h3, by simpa using h4, ⟨by simp, by simp⟩⟩, ((Below.refl _ _).setCell (by exact Nat.le_refl _) _).setCell (by exact Nat.le_refl _) _⟩
  · rw [World.cell?_setCell_other _ _ _ _ (by simp)]
    exact World.cell?_setCell_same _ _ _ h1
  · exact World.cell?_setCell_same _ _ _ (u := .bool ok) (by rw [World.cell?_setCell_other _ _ _ _ (by simp)]; exact h2)

theorem bytes_yes (w : World) (fb : Nat) (zs : List Int) (ok : Bool) (n : Nat) (h : Fd w fb zs ok) (hn : n ≤ zs.length) (hm : zs.length ≤ 1048576) :
    Calls Try.prog 8 #[.pointer (some ⟨fb, 0, none⟩), .int .u64 n] w fun e w' => ∃ a' c', e = .returned (.slice a' n c') ∧ Rd fb w' a' c' (zs.take n) ∧ Fd w' fb (zs.drop n) ok ∧ Below fb w w' := by
  obtain ⟨a, c, h1, h2, h3, h4, h5⟩ := h
  have hc := h5.1
  have fin : ∀ a' c', Rd fb w a' c' (zs.drop n) → Rd fb (w.setCell ⟨fb, 0, none⟩ (.slice a' (zs.length - n) c')) a c (zs.take n) ∧ Fd (w.setCell ⟨fb, 0, none⟩ (.slice a' (zs.length - n) c')) fb (zs.drop n) ok ∧ Below fb w (w.setCell ⟨fb, 0, none⟩ (.slice a' (zs.length - n) c')) := by
    intro a' c' hr
    have hb : Below fb w (w.setCell ⟨fb, 0, none⟩ (.slice a' (zs.length - n) c')) := (Below.refl _ _).setCell (by exact Nat.le_refl _) _
    refine ⟨(h5.take n).below hb (Nat.le_refl _), ⟨a', c', ?_, ?_, by simpa using h3, by simpa using h4, hr.below hb (Nat.le_refl _)⟩, hb⟩
    · rw [World.cell?_setCell_same _ _ _ h1]; simp
    · rw [World.cell?_setCell_other _ _ _ _ (by simp)]; exact h2
  by_cases hcn : c = n
  · subst hcn
    have F := fin a 0 h5.dropEnd
    rw [show zs.length - c = 0 by omega] at F
    have HF : Hid _ := F
    clear F fin
    go_enter Try.func8, Try.ntmps8
    go_wp2
    go_ret
    exact ⟨_, _, rfl, HF.out⟩
  · have F := fin _ _ (h5.drop n)
    have HF : Hid _ := F
    clear F fin
    go_enter Try.func8, Try.ntmps8
    go_wp2
    go_ret
    exact ⟨_, _, rfl, HF.out⟩

theorem bytes_yes' (w : World) (fb : Nat) (zs : List Int) (ok : Bool) (N : Int) (n : Nat) (hN : N = (n : Int)) (h : Fd w fb zs ok) (hn : n ≤ zs.length) (hm : zs.length ≤ 1048576) :
    Calls Try.prog 8 #[.pointer (some ⟨fb, 0, none⟩), .int .u64 N] w fun e w' => ∃ a' c', e = .returned (.slice a' n c') ∧ Rd fb w' a' c' (zs.take n) ∧ Fd w' fb (zs.drop n) ok ∧ Below fb w w' := by
  subst hN
  exact bytes_yes w fb zs ok n h hn hm

/-- Done, its answer named ahead. -/
theorem done_is (w : World) (fb : Nat) (zs : List Int) (ok b : Bool) (h : Fd w fb zs ok) (hb : (ok && decide (zs = [])) = b) :
    Calls Try.prog 9 #[.pointer (some ⟨fb, 0, none⟩)] w fun e w' => e = .returned (.bool b) ∧ w = w' := by
  subst hb
  exact done_any w fb zs ok h

/-- A reader that has failed: every read gives nothing. -/
theorem bytes_nil (w : World) (fb : Nat) (n : Int) (h : Fd w fb [] false) (hn : 0 ≤ n) :
    Calls Try.prog 8 #[.pointer (some ⟨fb, 0, none⟩), .int .u64 n] w fun e w' => ∃ a' c', e = .returned (.slice a' 0 c') ∧ Fd w' fb [] false ∧ Below fb w w' := by
  by_cases h0 : n = 0
  · subst h0
    refine (bytes_yes w fb [] false 0 h (by simp) (by simp)).mono ?_
    rintro e w' ⟨a', c', rfl, _, h2, h3⟩
    exact ⟨a', c', rfl, by simpa using h2, h3⟩
  · refine (bytes_no w fb [] false n h (by simp; omega) (by simp)).mono ?_
    rintro e w' ⟨rfl, h2, h3⟩
    exact ⟨none, 0, rfl, h2, h3⟩

theorem bound_yes (w : World) (a : Option Addr) (len cap : Nat) (n m : Int) (h : len ≤ 1048576) :
    Calls Try.prog 5 #[.slice a len cap, .int .u64 n, .int .u64 m] w fun e w' => e = .returned (.bool true) ∧ w = w' := by
  go_enter Try.func5, Try.ntmps5
  go_wp2
  go_ret
  exact ⟨rfl, rfl⟩

theorem bound_no (w : World) (a : Option Addr) (len cap : Nat) (n m : Int) (h : ¬ len ≤ 1048576) :
    Calls Try.prog 5 #[.slice a len cap, .int .u64 n, .int .u64 m] w fun e w' => e = .returned (.bool false) ∧ w = w' := by
  have h' : (1048576 : Int) < (len : Int) := by omega
  go_enter Try.func5, Try.ntmps5
  go_wp2
  go_ret
  exact ⟨rfl, rfl⟩

theorem bound2_yes (w : World) (a a' : Option Addr) (len cap len' cap' : Nat) (h : len + len' ≤ 1048576) :
    Calls Try.prog 11 #[.slice a len cap, .slice a' len' cap'] w fun e w' => e = .returned (.bool true) ∧ w = w' := by
  go_enter Try.func11, Try.ntmps11
  go_wp2
  go_ret
  exact ⟨rfl, rfl⟩

theorem bound2_no (w : World) (a a' : Option Addr) (len cap len' cap' : Nat) (hm : len ≤ maxLen) (hm' : len' ≤ maxLen) (h : ¬ len + len' ≤ 1048576) :
    Calls Try.prog 11 #[.slice a len cap, .slice a' len' cap'] w fun e w' => e = .returned (.bool false) ∧ w = w' := by
  unfold maxLen at hm hm'
  by_cases h1 : len ≤ 1048576
  · by_cases h2 : len' ≤ 1048576
    all_goals
      go_enter Try.func11, Try.ntmps11
      go_wp2
      go_ret
      exact ⟨rfl, rfl⟩
  · go_enter Try.func11, Try.ntmps11
    go_wp2
    go_ret
    exact ⟨rfl, rfl⟩

/-- What the shell's reading of a slice of bytes gives the walks. -/
theorem rd_of {w : World} {x : Addr} {len cap : Nat} {zs : List Int} (hl : len ≤ cap) (hz : zs.length = cap) (hc : ∀ i, i < zs.length → w.cell? (x.add i) = some (.int .u8 (zs.getD i 0))) : Rd w.heap.size w (some x) cap (zs.take len) := by
  refine ⟨by simp; omega, fun i hi => ?_⟩
  simp only [List.length_take] at hi
  have h0 := hc 0 (by omega)
  obtain ⟨b, o, s⟩ := x
  have hs : s = none := by simpa [Addr.add] using World.cell?_spot h0
  subst hs
  have hi' := hc i (by omega)
  rw [Addr.add_lit] at hi'
  exact ⟨b, o, rfl, World.block_lt_of_cell? w _ hi', by rw [hi']; simp [show i < len by omega]⟩
end Go.Proofs.Qxb6608512a
