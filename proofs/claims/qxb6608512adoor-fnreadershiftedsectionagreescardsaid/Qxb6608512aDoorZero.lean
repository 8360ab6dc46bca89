import Derived.Test.Qxb6608512aDoorRel
namespace Go.Proofs.Qxb6608512aDoor
open Go.RowKit

/-- 'append([]byte(nil), make([]byte, n)...)': a new row of zeros. -/
theorem zeros_run (w : World) (ty : TypeId) (n : Nat) (h0 : 0 < n) (h1 : n ≤ 281474976710656) :
    ∃ (cap : Nat) (Z : List Value), (Builtin.append_ #[22, 3] ty #[.slice none 0 0, .int .i64 n]).run Tryd.prog w = .ok (.slice (some ⟨w.heap.size, 0, none⟩) n cap) (w.drew.alloc (.cells Z.toArray 5)) ∧ Z.length = cap ∧ n ≤ cap ∧ cap ≤ maxLen := by
  obtain ⟨i0, hi, hz0, hz1, hz2⟩ := info_parts info5
  have hr := Lib.run_append_nil_zeros (P := Tryd.prog) w 22 3 ty 5 i0 (.int .u8 0) .i64 .i64 Tryd.underlying22 Tryd.underlying3 hi hz0 n h0 (by omega) (by omega) (by rw [hz2]; omega)
  have hge := grownCap_ge w n 0 5
  have hm := grownCap_le_maxLen w n 0 5 (by unfold maxLen; omega)
  refine ⟨grownCap w n 0 5, (Builtin.zeroCells (Value.int .u8 0).cells n ++ Builtin.zeroCells (Value.int .u8 0).cells (grownCap w n 0 5 - n)).toList, ?_, ?_, hge, hm⟩
  · rw [hr]
  · simp only [Array.toList_append, List.length_append, Array.length_toList, size_zeroCells]
    simp [Value.cells]
    omega

theorem eof_same (x : Addr) (w : World) : (binOp .eql 39 (.iface 64 (.pointer (some x))) (.iface 64 (.pointer (some x)))).run Tryd.prog w = .ok (.bool true) w := by
  obtain ⟨i, hi, hc⟩ := Option.map_eq_some_iff.1 (show (Tryd.prog.info? 64).map (·.comparable) = some true by kernel_rfl)
  obtain ⟨j, hj, _⟩ := Option.map_eq_some_iff.1 (show (Tryd.prog.info? 85).map (·.size) = some 1 by kernel_rfl)
  exact run_eql_iface_ptr_same w x Tryd.underlying39 Tryd.underlying64 hi hc hj

theorem ret_len {a : Option Addr} {m k c : Nat} {v : Value} (h : m = k) : Ending.returned (.tuple #[.slice a m c, v]) = .returned (.tuple #[.slice a k c, v]) := by rw [h]

theorem own_addr {w : World} {base : Nat} {e : TypeId} {ca : Option Addr} {n cc : Nat} {xs : List Value} (h : w.ownsRow base e 1 (.slice ca n cc) n xs) (hn : 0 < n) : ∃ g, ca = some ⟨g, 0, none⟩ := by
  rcases h.2 with ⟨h', h0⟩ | ⟨g, cap, cur, h', _⟩
  · omega
  · simp only [Value.slice.injEq] at h'
    exact ⟨g, h'.1⟩

theorem flat_succ (ps : List Piece) (j : Nat) (p : Piece) (h : ps[j]? = some p) : flat (ps.take (j + 1)) = flat (ps.take j) ++ p.bs := by
  have hj := (List.getElem?_eq_some_iff.1 h).1
  have he := (List.getElem?_eq_some_iff.1 h).2
  rw [List.take_succ_eq_append_getElem hj, flat_append, flat_one, he]

theorem flat_take_le (ps : List Piece) (j : Nat) : (flat (ps.take j)).length ≤ (flat ps).length := by
  have : flat ps = flat (ps.take j) ++ flat (ps.drop j) := by rw [← flat_append, List.take_append_drop]
  rw [this, List.length_append]; omega

theorem held_news {w : World} {p : Piece} (h : Held w p) : ∀ j u, (ints p.bs)[j]? = some u → w.cell? ((⟨p.blk, 0, none⟩ : Addr).add j) = some u := by
  intro j u hu
  obtain ⟨cur, hb, ht, _⟩ := h
  rw [Addr.add_lit, Nat.zero_add]
  refine hb.cell ?_
  rw [← ht] at hu
  have hj : j < p.bs.length := by
    have := (List.getElem?_eq_some_iff.1 hu).1
    simp at this; omega
  rw [List.getElem?_take, if_pos hj] at hu
  exact hu

theorem blk_news {w : World} {g : Nat} {cur : List Value} {bs : List Int} (hb : Blk w g cur 5) (ht : cur.take bs.length = ints bs) : ∀ j u, (ints bs)[j]? = some u → w.cell? ((⟨g, 0, none⟩ : Addr).add j) = some u := by
  intro j u hu
  rw [Addr.add_lit, Nat.zero_add]
  refine hb.cell ?_
  rw [← ht] at hu
  have hj : j < bs.length := by
    have := (List.getElem?_eq_some_iff.1 hu).1
    simp at this; omega
  rw [List.getElem?_take, if_pos hj] at hu
  exact hu

theorem rd_of_news {w : World} {g c : Nat} {bs : List Int} (hg : g < w.heap.size) (hc : bs.length ≤ c) (h : ∀ j u, (ints bs)[j]? = some u → w.cell? ((⟨g, 0, none⟩ : Addr).add j) = some u) : Rd w.heap.size w (some ⟨g, 0, none⟩) c bs := by
  refine ⟨hc, fun i hi => ⟨g, 0, rfl, hg, ?_⟩⟩
  have := h i (.int .u8 (bs.getD i 0)) (by simp [ints, hi])
  rw [Addr.add_lit] at this
  exact this
end Go.Proofs.Qxb6608512aDoor
