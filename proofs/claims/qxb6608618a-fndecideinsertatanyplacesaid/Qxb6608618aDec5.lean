import Derived.Test.Qxb6608618aDec4
namespace Go.Proofs.Qxb6608618a
open Go.RowKit

theorem equalIn_nil (d : Nat) (w : World) : (Op.equalIn (d + 1) 71 .nilFunc .nilFunc).run Try.prog w = .ok true w := by
  simp [Op.equalIn, run_underlying Try.underlying71]
theorem equalIn_func (d : Nat) (w : World) : (Op.equalIn (d + 1) 71 (.func (.func 35) #[] #[]) .nilFunc).run Try.prog w = .ok false w := by
  simp [Op.equalIn, run_underlying Try.underlying71]
theorem neq_nil (w : World) : (binOp .neq 71 .nilFunc .nilFunc).run Try.prog w = .ok (.bool false) w := by
  simp only [binOp]
  simp [Op.equal, Op.maxDepth, equalIn_nil 9999 w]
theorem neq_func (w : World) : (binOp .neq 71 (.func (.func 35) #[] #[]) .nilFunc).run Try.prog w = .ok (.bool true) w := by
  simp only [binOp]
  simp [Op.equal, Op.maxDepth, equalIn_func 9999 w]

set_option maxHeartbeats 1000000 in
theorem decide_any (w : World) (lb : Nat) (rq : Value) (rs : List Rl) (hlb : lb < w.heap.size) (hn : rs.length ≤ 1048576) (hl : Lst w lb rs) :
    Calls Try.prog 21 #[.pointer (some ⟨lb, 0, none⟩), rq] w fun e w' => e = .returned (.agg #[.int .i64 (vE rs (fst rs)), .int .i64 (vL rs (fst rs))]) ∧ Below w.heap.size w w' := by
  have q0 := neq_nil
  have q1 := neq_func
  obtain ⟨a, c, cb, cs, hl0, hl1, hlc, hcon⟩ := hl
  obtain ⟨n, hz⟩ : ∃ n, rs.length = n := ⟨_, rfl⟩
  rw [hz] at hl0 hl1 hlc hn
  have HCON : Hid (∀ (j : Nat) (r : Rl), rs[j]? = some r → Fv cs j r) := hcon
  clear hcon
  have HL1 : Hid (0 < n → a = some ⟨cb, 0, none⟩ ∧ Blk w cb cs 73) := hl1
  clear hl1
  go_enter Try.func21, Try.ntmps21
  go_wp2
  go_loopw [5, 6, 12] (fun _ _ i wr => ∃ k q : Nat, k ≤ n ∧ i = .int .i64 k ∧ wr = (w.alloc (.cells #[.int .i64 0, .int .i64 0] 43)).drewN q ∧ ∀ (j : Nat) (h : Rl), j < k → rs[j]? = some h → h.alw = false) (fun _ _ i _ => n - (intOf i).toNat)
  case atStart => exact ⟨0, 0, Nat.zero_le _, rfl, rfl, fun j h hj => absurd hj (Nat.not_lt_zero _)⟩
  case round =>
    obtain ⟨k, q, hk, rfl, rfl, hno⟩ := hrel
    have HNO : Hid (∀ (j : Nat) (h : Rl), j < k → rs[j]? = some h → h.alw = false) := hno
    clear hno
    by_cases hlt : k < n
    · obtain ⟨rfl, hblk⟩ := HL1.out (by omega)
      obtain ⟨g, hg⟩ : ∃ g, rs[k]? = some g := ⟨_, List.getElem?_eq_getElem (by omega)⟩
      obtain ⟨t0, _, t2, _, t4⟩ := HCON.out k g hg
      have c0 := hblk.cell t0
      have c2 := hblk.cell t2
      have c4 := hblk.cell t4
      have hcb := hblk.lt
      have l1 : (k : Int) < (n : Int) := by omega
      have HG : Hid (rs[k]? = some g) := hg
      obtain ⟨d, hd⟩ : ∃ d, g.alw = d := ⟨_, rfl⟩
      have HD : Hid (g.alw = d) := hd
      rw [hd] at c4
      clear hg hblk t0 t2 t4 hd
      cases d
      · have c4' : w.cell? ⟨cb, k * 5 + 4, none⟩ = some .nilFunc := c4
        clear c4
        go_wp2
        go_roundw
        case rel =>
          refine ⟨k + 1, q, by omega, by go_num, rfl, fun j h hj hjg => ?_⟩
          by_cases hjk : j = k
          · subst hjk
            rw [HG.out] at hjg
            cases hjg
            exact HD.out
          · exact HNO.out j h (by omega) hjg
        case measure => simp [intOf]; omega
      · have c4' : w.cell? ⟨cb, k * 5 + 4, none⟩ = some (.func (.func 35) #[] #[]) := c4
        clear c4
        go_wp2_with (go_at_call 35; refine (always_any _ _).mono ?_; rintro e w1 ⟨rfl, rfl⟩)
        go_region
        go_wp2
        have hf := fst_hit HG.out HNO.out HD.out
        refine bodyPost_ret (v := .agg #[.int .i64 g.eff, .int .i64 g.line]) (by simp [results, Try.results21, go_sem]) rfl ⟨by rw [hf, vE_hit HG.out, vL_hit HG.out], ((below_drewN ((Below.refl w.heap.size w).alloc (Nat.le_refl _) _) _).setCell (by exact Nat.le_refl _) _).setCell (by exact Nat.le_refl _) _⟩
    · go_wp2
      have hf := fst_none (rs := rs) (fun j h hj => HNO.out j h (by omega))
      refine bodyPost_ret (v := .agg #[.int .i64 0, .int .i64 0]) (by simp [results, Try.results21, go_sem]) rfl ⟨by rw [hf]; rfl, ((below_drewN ((Below.refl w.heap.size w).alloc (Nat.le_refl _) _) _).setCell (by exact Nat.le_refl _) _).setCell (by exact Nat.le_refl _) _⟩

theorem verdict_any (w : World) (B : Nat) (a : Option Addr) (n c : Nat) (rs : List Rl) (F E L : Int) (hz : rs.length = n) (hn : n ≤ 1048576) (hB : B ≤ w.heap.size) (ha : Rs B w a c rs) (hF : fst rs = F) (hE : vE rs (fst rs) = E) (hL : vL rs (fst rs) = L) :
    Calls Try.prog 23 #[.slice a n c, .int .i64 F] w fun e w' => e = .returned (.agg #[.int .i64 E, .int .i64 L]) ∧ Below w.heap.size w w' := by
  rcases fst_cases rs with hf | ⟨k, g, hf, hk⟩
  · obtain rfl : F = -1 := by rw [← hF]; exact hf
    obtain rfl : E = 0 := by rw [← hE, hf]; rfl
    obtain rfl : L = 0 := by rw [← hL, hf]; rfl
    clear hF hE hL hf
    go_enter Try.func23, Try.ntmps23
    go_wp2
    refine bodyPost_ret (v := .agg #[.int .i64 0, .int .i64 0]) (by simp [results, Try.results23, go_sem]) rfl ⟨rfl, ?_⟩
    first
      | exact (((Below.refl w.heap.size w).alloc (Nat.le_refl _) _).setCell (by exact Nat.le_refl _) _).setCell (by exact Nat.le_refl _) _
      | exact (Below.refl w.heap.size w).alloc (Nat.le_refl _) _
  · have hkl : k < n := by rw [← hz]; exact (List.getElem?_eq_some_iff.1 hk).1
    obtain rfl : F = (k : Int) := by rw [← hF]; exact hf
    obtain rfl : E = g.eff := by rw [← hE, hf]; exact vE_hit hk
    obtain rfl : L = g.line := by rw [← hL, hf]; exact vL_hit hk
    obtain ⟨b1, o1, rfl, hb1, hcs⟩ := ha.addr (by omega)
    obtain ⟨c0, _, c2, _, _⟩ := hcs k g hk
    have lk : (k : Int) < (n : Int) := by omega
    have hbw : b1 < w.heap.size := by omega
    clear hF hE hL hf hcs hk
    go_enter Try.func23, Try.ntmps23
    go_wp2
    go_region
    go_wp2
    refine bodyPost_ret (v := .agg #[.int .i64 g.eff, .int .i64 g.line]) (by simp [results, Try.results23, go_sem]) rfl ⟨rfl, ?_⟩
    first
      | exact (((Below.refl w.heap.size w).alloc (Nat.le_refl _) _).setCell (by exact Nat.le_refl _) _).setCell (by exact Nat.le_refl _) _
      | exact ((Below.refl w.heap.size w).alloc (Nat.le_refl _) _).drew
      | exact ((((Below.refl w.heap.size w).alloc (Nat.le_refl _) _).drew).setCell (by exact Nat.le_refl _) _).setCell (by exact Nat.le_refl _) _
end Go.Proofs.Qxb6608618a
