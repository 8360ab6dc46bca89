import Derived.Test.Qxb6608512aDoorBuf4
import Derived.Lib.AppendZeros
import Derived.LaidEql
import Derived.Deep.DeepCutAuto
namespace Go.Proofs.Qxb6608512aDoor
open Go.RowKit

theorem info22 : (Tryd.prog.info? 22).map (fun i => (i.zero, i.size, i.bytes)) = some (some (.slice none 0 0), 1, 24) := by kernel_rfl

def lenOf : Value → Nat | .slice _ n _ => n | _ => 0

theorem ownsRow_chg {w w' : World} {S : Nat → Prop} {base : Nat} {e : TypeId} {size : Nat} {v : Value} {n : Nat} {xs : List Value} (h : w.ownsRow base e size v n xs) (hc : Chg S w w') (hn : ∀ k, v.ownBlock = some k → ¬ S k) : w'.ownsRow base e size v n xs := by
  refine ⟨h.1, ?_⟩
  rcases h.2 with hn' | ⟨g, cap, cur, rfl, hb, hgg, r⟩
  · exact .inl hn'
  · refine .inr ⟨g, cap, cur, rfl, hb, ?_, r⟩
    rw [hc.block g (Array.getElem?_eq_some_iff.1 hgg).1 (hn g rfl)]
    exact hgg

/-- The pieces that io.ReadAll has laid by: each its block, its capacity, its bytes. -/
structure Piece where
  blk : Nat
  cap : Nat
  bs : List Int

def Piece.val (p : Piece) : Value := .slice (some ⟨p.blk, 0, none⟩) p.bs.length p.cap
def Held (w : World) (p : Piece) : Prop := ∃ cur, Blk w p.blk cur 5 ∧ cur.take p.bs.length = ints p.bs ∧ 0 < p.bs.length ∧ p.bs.length ≤ p.cap ∧ p.cap ≤ maxLen
def flat (ps : List Piece) : List Int := ps.flatMap Piece.bs

/-- What holds at the head of each round of io.ReadAll. -/
def Rel (w : World) (B rb sb bb gb : Nat) (zs : List Int) (ev : Value) (S0 : List Int) (b next chunks fs : Value) (wr : World) : Prop :=
  ∃ (gB capB : Nat) (bytes : List Int) (cur : List Value) (nx : Nat) (ps : List Piece) (S : List Int),
    b = .slice (some ⟨gB, 0, none⟩) bytes.length capB ∧ Blk wr gB cur 5 ∧ cur.length = capB ∧ cur.take bytes.length = ints bytes ∧ bytes.length < capB ∧ capB ≤ maxLen ∧ 256 ≤ capB ∧
    next = .int .i64 nx ∧ 256 ≤ nx ∧ nx ≤ 8388608 ∧ nx ≤ 2 * capB ∧
    wr.ownsRow w.heap.size 22 1 chunks ps.length (ps.map Piece.val) ∧ (∀ p ∈ ps, Held wr p ∧ w.heap.size ≤ p.blk ∧ p.blk ≠ gB) ∧
    fs = .int .i64 ((flat ps).length : Nat) ∧ S0 = flat ps ++ bytes ++ S ∧ Bf wr B rb sb bb gb zs ev S ∧ wr.cell? ⟨0, 0, none⟩ = some ev ∧
    Chg (fun k => k = sb ∨ k = bb ∨ k = gb) w wr ∧ w.heap.size ≤ gB

theorem blk_of_owns {w : World} {base : Nat} {e : TypeId} {g n cap : Nat} {xs : List Value} (h : w.ownsRow base e 1 (.slice (some ⟨g, 0, none⟩) n cap) n xs) :
    ∃ cur, Blk w g cur e ∧ cur.length = cap ∧ cur.take n = xs ∧ base ≤ g := by
  rcases h.2 with ⟨h', _⟩ | ⟨g', cap', cur, h', hb, hg, _, _, hs, ht⟩
  · simp at h'
  · simp only [Value.slice.injEq, Option.some.injEq, Addr.mk.injEq, and_true, true_and] at h'
    obtain ⟨rfl, rfl⟩ := h'
    exact ⟨cur.toList, by unfold Blk; simpa using hg, by simpa using hs, by simpa using ht, hb⟩

theorem bf_chg {w w' : World} {S : Nat → Prop} {B rb sb bb gb : Nat} {zs : List Int} {ev : Value} {R : List Int} (h : Bf w B rb sb bb gb zs ev R) (hc : Chg S w w') (hB : ∀ k, k ≤ gb → ¬ S k) (hBr : B ≤ rb) (hrs : rb < sb) (hsb : sb < bb) (hbg : bb < gb) : Bf w' B rb sb bb gb zs ev R := by
  obtain ⟨off, lim, r, wp, er, v5, v6, buf, pend, hr, hs, hl, hb, hbuf, rest⟩ := h
  have := hbuf.lt
  exact ⟨off, lim, r, wp, er, v5, v6, buf, pend, src_chg hr hc (hB _ (by omega)) (by omega) (fun k hk => hB _ (by omega)), sec_chg hs hc (hB _ (by omega)), hl, hb.chg hc (hB _ (by omega)), hbuf.chg hc (hB _ (by omega)), rest⟩

/-- What a Read of the round has left. -/
def Got (wr : World) (B rb sb bb gb : Nat) (zs : List Int) (x : Addr) (S : List Int) (gB off plen : Nat) (cur : List Value) (n : Nat) (err : Value) (w3 : World) : Prop :=
  n ≤ plen ∧ n ≤ S.length ∧ Blk w3 gB (splice cur off (ints (S.take n))) 5 ∧ Bf w3 B rb sb bb gb zs (.iface 64 (.pointer (some x))) (S.drop n) ∧ Chg (fun k => k = gB ∨ k = sb ∨ k = bb ∨ k = gb) wr w3 ∧
    ((err = .nilIface ∧ 0 < n) ∨ (err = .iface 64 (.pointer (some x)) ∧ S.drop n = []))

theorem bf_lt {w : World} {B rb sb bb gb : Nat} {zs : List Int} {ev : Value} {R : List Int} (h : Bf w B rb sb bb gb zs ev R) : gb < w.heap.size := by
  obtain ⟨off, lim, r, wp, er, v5, v6, buf, pend, hr, hs, hl, hb, hbuf, rest⟩ := h
  exact hbuf.lt

theorem nilAhead_bufRead (a : Addr) (w : World) : (nilAhead 188 36 (.pointer (some a)) "Read").run Tryd.prog w = .ok (some false) w := by kernel_rfl
theorem method_bufRead (a : Addr) (w : World) : (method 188 36 (.pointer (some a)) "Read").run Tryd.prog w = .ok (42, .pointer (some a)) w := by kernel_rfl

theorem Chg.trans2 {S T : Nat → Prop} {a b c : World} (h : Chg S a b) (k : Chg T b c) (hT : ∀ i, i < a.heap.size → T i → S i) : Chg S a c :=
  ⟨k.os.trans h.os, k.tape.trans h.tape, k.output.trans h.output, Nat.le_trans h.size k.size, fun i hi hn => (k.block i (Nat.lt_of_lt_of_le hi h.size) (fun e => hn (hT i hi e))).trans (h.block i hi hn)⟩

theorem own_ne {w : World} {base : Nat} {v : Value} {n : Nat} {xs : List Value} (h : w.ownsRow base 22 1 v n xs) {k b : Nat} (hk : v.ownBlock = some k) {cs : List Value} {t : TypeId} (hb : Blk w b cs t) (ht : t ≠ 22) : k ≠ b := by
  rintro rfl
  rcases h.2 with ⟨rfl, _⟩ | ⟨g, cap, cur, rfl, _, hg, _⟩
  · simp [Value.ownBlock] at hk
  · simp [Value.ownBlock] at hk
    subst hk
    rw [hb] at hg
    simp at hg
    exact ht hg.2

theorem own_shape {w : World} {base : Nat} {e : TypeId} {v : Value} {n : Nat} {xs : List Value} (h : w.ownsRow base e 1 v n xs) : ∃ a c, v = .slice a n c := by
  rcases h.2 with ⟨rfl, rfl⟩ | ⟨g, cap, cur, rfl, _⟩
  · exact ⟨_, _, rfl⟩
  · exact ⟨_, _, rfl⟩

theorem splice_take {α : Type} (L : List α) (o : Nat) (cs : List α) (ho : o ≤ L.length) : (splice L o cs).take (o + cs.length) = L.take o ++ cs := by
  unfold splice
  rw [← List.append_assoc, List.take_append_of_le_length (by simp; omega), List.take_of_length_le (by simp; omega)]

theorem held_chg {w w' : World} {S : Nat → Prop} {p : Piece} (h : Held w p) (hc : Chg S w w') (hn : ¬ S p.blk) : Held w' p := by
  obtain ⟨cur, hb, r⟩ := h
  exact ⟨cur, hb.chg hc hn, r⟩

theorem flat_ge (w : World) : ∀ ps : List Piece, (∀ p ∈ ps, Held w p) → ps.length ≤ (flat ps).length
  | [], _ => by simp [flat]
  | p :: ps, h => by
    have h1 := flat_ge w ps (fun q hq => h q (List.mem_cons_of_mem _ hq))
    obtain ⟨_, _, _, h0, _⟩ := h p (List.mem_cons_self ..)
    simp only [flat, List.flatMap_cons, List.length_append, List.length_cons] at h1 ⊢
    omega

theorem flat_append (ps qs : List Piece) : flat (ps ++ qs) = flat ps ++ flat qs := by simp [flat]
theorem flat_one (p : Piece) : flat [p] = p.bs := by simp [flat]

/-- What holds in the midst of a round, behind the Read: 'bs' lie in b now. -/
def Mid (w : World) (B rb sb bb gb : Nat) (zs : List Int) (ev : Value) (S0 : List Int) (gB capB : Nat) (bs : List Int) (chunks : Value) (ps : List Piece) (S : List Int) (wc : World) : Prop :=
  ∃ cur, Blk wc gB cur 5 ∧ cur.length = capB ∧ cur.take bs.length = ints bs ∧ wc.ownsRow w.heap.size 22 1 chunks ps.length (ps.map Piece.val) ∧ (∀ p ∈ ps, Held wc p ∧ w.heap.size ≤ p.blk ∧ p.blk ≠ gB) ∧
    S0 = flat ps ++ bs ++ S ∧ Bf wc B rb sb bb gb zs ev S ∧ wc.cell? ⟨0, 0, none⟩ = some ev ∧ Chg (fun k => k = sb ∨ k = bb ∨ k = gb) w wc

theorem mid_of {w wr wc : World} {B rb sb bb gb : Nat} {zs : List Int} {x : Addr} {S0 : List Int} {gB capB : Nat} {bytes : List Int} {cur : List Value} {chunks : Value} {ps : List Piece} {S : List Int} {n : Nat}
    (hK : cur.take bytes.length = ints bytes ∧ wr.ownsRow w.heap.size 22 1 chunks ps.length (ps.map Piece.val) ∧ (∀ p ∈ ps, Held wr p ∧ w.heap.size ≤ p.blk ∧ p.blk ≠ gB) ∧ S0 = flat ps ++ bytes ++ S ∧ Chg (fun k => k = sb ∨ k = bb ∨ k = gb) w wr)
    (hgB : Blk wr gB cur 5) (hcl : cur.length = capB) (hnp : n ≤ capB - bytes.length) (hbl : bytes.length < capB) (hnS : n ≤ S.length) (he : wr.cell? ⟨0, 0, none⟩ = some (.iface 64 (.pointer (some x))))
    (hB3 : Blk wc gB (splice cur bytes.length (ints (S.take n))) 5) (hbf3 : Bf wc B rb sb bb gb zs (.iface 64 (.pointer (some x))) (S.drop n)) (hC3 : Chg (fun k => k = gB ∨ k = sb ∨ k = bb ∨ k = gb) wr wc)
    (hB0 : 0 < B) (hBr : B ≤ rb) (hrs : rb < sb) (hsb : sb < bb) (hbg : bb < gb) (hgg : gb < w.heap.size) (hgw : w.heap.size ≤ gB) :
    Mid w B rb sb bb gb zs (.iface 64 (.pointer (some x))) S0 gB capB (bytes ++ S.take n) chunks ps (S.drop n) wc := by
  obtain ⟨hct, hown, hps, hS0, hC⟩ := hK
  have hl : (ints (S.take n)).length = n := by rw [ints_length, List.length_take]; omega
  refine ⟨_, hB3, by rw [splice_length _ _ _ (by rw [hl]; omega)]; exact hcl, ?_, ?_, ?_, ?_, hbf3, eof_chg he hC3 (by omega), ?_⟩
  · rw [List.length_append, List.length_take, Nat.min_eq_left hnS]
    have := splice_take cur bytes.length (ints (S.take n)) (by omega)
    rw [hl] at this
    rw [this, hct]
    simp [ints]
  · refine ownsRow_chg hown hC3 (fun k hk h => ?_)
    have h1 := (hown.lt k hk).1
    have h2 := own_ne hown hk hgB (by decide)
    omega
  · intro p hp
    obtain ⟨h1, h2, h3⟩ := hps p hp
    exact ⟨held_chg h1 hC3 (by omega), h2, h3⟩
  · rw [hS0]
    simp only [List.append_assoc]
    rw [List.take_append_drop]
  · exact hC.trans2 hC3 (fun k hk h => by rcases h with h | h | h | h; omega; exact .inl h; exact .inr (.inl h); exact .inr (.inr h))

theorem rel_stay {w wc : World} {B rb sb bb gb : Nat} {zs : List Int} {ev : Value} {S0 : List Int} {gB capB nx : Nat} {bs : List Int} {chunks : Value} {ps : List Piece} {S : List Int}
    (h : Mid w B rb sb bb gb zs ev S0 gB capB bs chunks ps S wc) (hbl : bs.length < capB) (hcm : capB ≤ maxLen) (hc256 : 256 ≤ capB) (h1 : 256 ≤ nx) (h2 : nx ≤ 8388608) (h3 : nx ≤ 2 * capB) (hgw : w.heap.size ≤ gB) :
    Rel w B rb sb bb gb zs ev S0 (.slice (some ⟨gB, 0, none⟩) bs.length capB) (.int .i64 nx) chunks (.int .i64 ((flat ps).length : Nat)) wc := by
  obtain ⟨cur, a1, a2, a3, a4, a5, a6, a7, a8, a9⟩ := h
  exact ⟨gB, capB, bs, cur, nx, ps, S, rfl, a1, a2, a3, hbl, hcm, hc256, rfl, h1, h2, h3, a4, a5, rfl, a6, a7, a8, a9, hgw⟩

/-- b is laid by among the pieces; a new b of zeros. -/
theorem rel_move {w wc w4 w5 : World} {B rb sb bb gb : Nat} {zs : List Int} {ev : Value} {S0 : List Int} {gB capB nx cap' nx' : Nat} {bs : List Int} {chunks v' : Value} {ps : List Piece} {S : List Int} {o : Obj} {Z : List Value}
    (h : Mid w B rb sb bb gb zs ev S0 gB capB bs chunks ps S wc) (hcm : capB ≤ maxLen) (hb0 : 0 < bs.length) (hbc : bs.length ≤ capB) (hgw : w.heap.size ≤ gB)
    (hown' : w4.ownsRow w.heap.size 22 1 v' (ps.length + 1) (ps.map Piece.val ++ [.slice (some ⟨gB, 0, none⟩) bs.length capB])) (hgrow : (wc.alloc o).grownBy w4 chunks.ownBlock)
    (hw5 : w5 = w4.drew.alloc (.cells Z.toArray 5)) (hZ : Z.length = cap') (hc' : cap' ≤ maxLen) (hnc : nx ≤ cap') (h1 : 256 ≤ nx) (h2 : nx' ≤ 8388608) (h3 : nx' ≤ 2 * nx) (h4 : 256 ≤ nx')
    (hBr : B ≤ rb) (hrs : rb < sb) (hsb : sb < bb) (hbg : bb < gb) (hgg : gb < w.heap.size) :
    Rel w B rb sb bb gb zs ev S0 (.slice (some ⟨w4.heap.size, 0, none⟩) 0 cap') (.int .i64 nx') v' (.int .i64 ((flat ps).length + bs.length : Nat)) w5 := by
  obtain ⟨cur, a1, a2, a3, a4, a5, a6, a7, a8, a9⟩ := h
  have hc4 : Chg (fun k => chunks.ownBlock = some k) wc w4 := (Chg.alloc _ wc o).trans (Chg.grown hgrow (fun k e => e))
  have hc5 : Chg (fun k => chunks.ownBlock = some k) wc w5 := by
    rw [hw5]
    exact (hc4.trans (Chg.drew _ w4)).trans (Chg.alloc _ w4.drew _)
  have hc45 : Chg (fun _ => False) w4 w5 := by
    rw [hw5]
    exact (Chg.drew _ w4).trans (Chg.alloc _ w4.drew _)
  have hlow : ∀ k, k < w.heap.size → ¬ chunks.ownBlock = some k := fun k hk e => by have := (a4.lt k e).1; omega
  have hgB5 : Blk w5 gB cur 5 := a1.chg hc5 (fun e => own_ne a4 e a1 (by decide) rfl)
  have hsw : wc.heap.size ≤ w4.heap.size := hc4.size
  have hlt := a1.lt
  have hps5 : ∀ p ∈ ps, Held w5 p ∧ w.heap.size ≤ p.blk ∧ p.blk ≠ w4.heap.size := by
    intro p hp
    obtain ⟨h1, h2, h3⟩ := a5 p hp
    obtain ⟨c, hb, _⟩ := h1
    have := hb.lt
    exact ⟨held_chg (a5 p hp).1 hc5 (fun e => own_ne a4 e hb (by decide) rfl), h2, by omega⟩
  refine ⟨w4.heap.size, cap', [], Z, nx', ps ++ [⟨gB, capB, bs⟩], S, rfl, ?_, hZ, by simp [ints], by simp; omega, hc', by omega, rfl, h4, h2, by omega, ?_, ?_, ?_, ?_, ?_, eof_chg a8 hc5 (hlow 0 (by omega)), ?_, ?_⟩
  · rw [hw5]
    exact Blk.new w4.drew Z 5
  · have := ownsRow_chg hown' hc45 (fun _ _ h => h)
    simpa [Piece.val] using this
  · intro p hp
    rcases List.mem_append.1 hp with hp | hp
    · exact hps5 p hp
    · simp at hp
      subst hp
      exact ⟨⟨cur, hgB5, a3, hb0, hbc, hcm⟩, hgw, by simp; omega⟩
  · rw [flat_append, flat_one, List.length_append]
  · rw [flat_append, flat_one, List.append_nil]; exact a6
  · exact bf_chg a7 hc5 (fun k hk => hlow k (by omega)) hBr hrs hsb hbg
  · exact a9.trans2 hc5 (fun k hk h => absurd h (hlow k hk))
  · have := a9.size; omega
end Go.Proofs.Qxb6608512aDoor
