import Derived.WalkKit
import Derived.WalkSpells
import Derived.WalkLawsBesides
import Derived.Laws.CopyOwn
namespace Go.Proofs.Qxb6608512aDoor
open Go.RowKit

/-- From w to w' only blocks of S (and new ones) have turned. -/
structure Chg (S : Nat → Prop) (w w' : World) : Prop where
  os : w'.os = w.os
  tape : w'.tape = w.tape
  output : w'.output = w.output
  size : w.heap.size ≤ w'.heap.size
  block : ∀ k, k < w.heap.size → ¬ S k → w'.heap[k]? = w.heap[k]?

theorem Chg.refl (S : Nat → Prop) (w : World) : Chg S w w := ⟨rfl, rfl, rfl, Nat.le_refl _, fun _ _ _ => rfl⟩

theorem Chg.trans {S : Nat → Prop} {a b c : World} (h : Chg S a b) (k : Chg S b c) : Chg S a c :=
  ⟨k.os.trans h.os, k.tape.trans h.tape, k.output.trans h.output, Nat.le_trans h.size k.size, fun i hi hn => (k.block i (Nat.lt_of_lt_of_le hi h.size) hn).trans (h.block i hi hn)⟩

theorem Chg.mono {S T : Nat → Prop} {w w' : World} (h : Chg S w w') (hT : ∀ k, k < w.heap.size → S k → T k) : Chg T w w' :=
  ⟨h.os, h.tape, h.output, h.size, fun k hk hn => h.block k hk (fun hs => hn (hT k hk hs))⟩

theorem Chg.of_below {S : Nat → Prop} {w w' : World} (h : Below w.heap.size w w') : Chg S w w' := ⟨h.os, h.tape, h.output, h.size, fun k hk _ => h.block k hk⟩

theorem Chg.below {S : Nat → Prop} {B : Nat} {w w' : World} (h : Chg S w w') (hB : B ≤ w.heap.size) (hS : ∀ k, k < B → ¬ S k) : Below B w w' :=
  ⟨h.os, h.tape, h.output, h.size, fun k hk => h.block k (by omega) (hS k hk)⟩

theorem Chg.alloc (S : Nat → Prop) (w : World) (o : Obj) : Chg S w (w.alloc o) := Chg.of_below ((Below.refl _ _).alloc (Nat.le_refl _) _)
theorem Chg.drew (S : Nat → Prop) (w : World) : Chg S w w.drew := ⟨rfl, rfl, rfl, Nat.le_refl _, fun _ _ _ => rfl⟩
theorem Chg.drewN (S : Nat → Prop) (w : World) (n : Nat) : Chg S w (w.drewN n) := ⟨rfl, rfl, rfl, Nat.le_refl _, fun _ _ _ => rfl⟩
theorem Chg.setCell {S : Nat → Prop} (w : World) {p : Addr} (hp : S p.block) (u : Value) : Chg S w (w.setCell p u) :=
  ⟨rfl, rfl, rfl, by simp [World.setCell], fun k _ hn => Below.heap_setCell _ _ _ _ (fun e => hn (e ▸ hp))⟩
theorem Chg.grown {S : Nat → Prop} {w w' : World} {row : Option Nat} (h : w.grownBy w' row) (hr : ∀ k, row = some k → S k) : Chg S w w' :=
  ⟨h.os, h.tape, h.output, h.size, fun k hk hn => h.block k hk (fun e => hn (hr k e.symm))⟩

/-- A block that is known whole. -/
def Blk (w : World) (b : Nat) (cs : List Value) (t : TypeId) : Prop := w.heap[b]? = some (.cells cs.toArray t (0, 0))

theorem Blk.lt {w : World} {b : Nat} {cs : List Value} {t : TypeId} (h : Blk w b cs t) : b < w.heap.size := (Array.getElem?_eq_some_iff.1 h).1

theorem Blk.cell {w : World} {b : Nat} {cs : List Value} {t : TypeId} (h : Blk w b cs t) {j : Nat} {v : Value} (hv : cs[j]? = some v) : w.cell? ⟨b, j, none⟩ = some v := by
  rw [cell_of_row w b j _ t (0, 0) h]; simpa using hv

theorem Blk.free {w : World} {b : Nat} {cs : List Value} {t : TypeId} (h : Blk w b cs t) (j : Nat) : w.frozen? ⟨b, j, none⟩ = false := frozen_of_row w b j _ t h

theorem Blk.set {w : World} {b : Nat} {cs : List Value} {t : TypeId} (h : Blk w b cs t) (j : Nat) (u : Value) : Blk (w.setCell ⟨b, j, none⟩ u) b (cs.set j u) t := by
  have := heap_setCell_same w b j _ t u h
  unfold Blk
  rw [this]; simp

theorem Blk.chg {w w' : World} {S : Nat → Prop} {b : Nat} {cs : List Value} {t : TypeId} (h : Blk w b cs t) (hc : Chg S w w') (hn : ¬ S b) : Blk w' b cs t := (hc.block b h.lt hn).trans h

theorem Blk.below {w w' : World} {B b : Nat} {cs : List Value} {t : TypeId} (h : Blk w b cs t) (hc : Below B w w') (hn : b < B) : Blk w' b cs t := (hc.block b hn).trans h

theorem Blk.other {w : World} {b : Nat} {cs : List Value} {t : TypeId} (h : Blk w b cs t) {p : Addr} (hp : p.block ≠ b) (u : Value) : Blk (w.setCell p u) b cs t := by
  unfold Blk
  rw [Below.heap_setCell _ _ _ _ (Ne.symm hp)]; exact h

theorem Blk.new (w : World) (cs : List Value) (t : TypeId) : Blk (w.alloc (.cells cs.toArray t)) w.heap.size cs t := heap_alloc_new w _

theorem Blk.old {w : World} {b : Nat} {cs : List Value} {t : TypeId} (h : Blk w b cs t) (o : Obj) : Blk (w.alloc o) b cs t := by
  unfold Blk
  rw [Below.heap_alloc w o b h.lt]; exact h

theorem Chg.setRow {S : Nat → Prop} (w : World) {g : Nat} (hg : S g) (cs : Array Value) : Chg S w (w.setRow g cs) :=
  ⟨rfl, rfl, rfl, by simp [World.setRow], fun k _ hn => setRow_other w g k cs (fun e => hn (e ▸ hg))⟩

/-- What a copy into a known row does: the row behind it is known whole; nothing else turns. -/
theorem copy_run {P : Program} (w : World) (dT sT ty : TypeId) (elem : TypeId) (hu : P.underlying dT = some (.slice elem)) (hsz : (P.info? elem).map (·.size) = some 1)
    (dp sp : Option Addr) (dLen dCap sLen sCap : Nat) (g off : Nat) (cur : List Value) (t : TypeId) (hg : Blk w g cur t) (cs : List Value) (hn : cs.length = Nat.min sLen dLen)
    (hpos : 0 < cs.length → dp = some ⟨g, off, none⟩ ∧ ∃ ad, sp = some ad ∧ ∀ j v, cs[j]? = some v → w.cell? (ad.add j) = some v)
    (hfit : off + cs.length ≤ cur.length) (h1 : ∀ v ∈ cs, v.oneCell' = true) :
    ∃ w1, (Builtin.copy_ #[dT, sT] ty #[.slice dp dLen dCap, .slice sp sLen sCap]).run P w = .ok (.int .i64 (cs.length : Nat)) w1 ∧ Blk w1 g (splice cur off cs) t ∧ Chg (fun k => k = g) w w1 := by
  by_cases h0 : cs.length = 0
  · obtain rfl : cs = [] := List.eq_nil_of_length_eq_zero h0
    have hrun := run_copy_none (P := P) w dT sT ty elem dp sp dLen dCap sLen sCap hu hsz (by simpa using hn.symm)
    exact ⟨w, hrun, by simpa [splice] using hg, Chg.refl _ _⟩
  · obtain ⟨rfl, ad, rfl, hsrc⟩ := hpos (by omega)
    have hrun := run_copy_row (P := P) w dT sT ty elem g off dLen dCap ad sLen sCap cur.toArray t cs hu hsz hg hn hsrc (by simpa using hfit) h1
    exact ⟨_, hrun, by unfold Blk; simpa [splice] using setRow_heap w g _ _ t _ hg, Chg.setRow (S := fun k => k = g) w rfl _⟩

/-- The same, the world behind it written out, whatever was drawn ahead of it. -/
theorem copy_run_row {P : Program} (w : World) (dT sT ty : TypeId) (elem : TypeId) (hu : P.underlying dT = some (.slice elem)) (hsz : (P.info? elem).map (·.size) = some 1)
    (ad : Addr) (dLen dCap sLen sCap : Nat) (g off : Nat) (cur : List Value) (t : TypeId) (hg : Blk w g cur t) (cs : List Value) (hn : cs.length = Nat.min sLen dLen)
    (hsrc : ∀ j v, cs[j]? = some v → w.cell? (ad.add j) = some v) (hfit : off + cs.length ≤ cur.length) (h1 : ∀ v ∈ cs, v.oneCell' = true) :
    ∃ C : Array Value, (∀ q, (Builtin.copy_ #[dT, sT] ty #[.slice (some ⟨g, off, none⟩) dLen dCap, .slice (some ad) sLen sCap]).run P (w.drewN q) = .ok (.int .i64 (cs.length : Nat)) ((w.setRow g C).drewN q)) ∧ Blk (w.setRow g C) g (splice cur off cs) t ∧ Chg (fun k => k = g) w (w.setRow g C) := by
  refine ⟨(cur.take off ++ (cs ++ cur.drop (off + cs.length))).toArray, fun q => ?_, by unfold Blk; simpa [splice] using setRow_heap w g _ _ t _ hg, Chg.setRow (S := fun k => k = g) w rfl _⟩
  have hrun := run_copy_row (P := P) (w.drewN q) dT sT ty elem g off dLen dCap ad sLen sCap cur.toArray t cs hu hsz hg hn hsrc (by simpa using hfit) h1
  rw [List.append_assoc] at hrun
  exact hrun

theorem step_copy_chg {P : Program} {ops : Array Oper} {o : Oper} {a : Act} {w : World} {K : Act → World → Prop} {Q : Exit → Act → World → Prop} {E : Prop} (hgd : o.guard = none) (d s : Operand) (dT sT : TypeId)
    (ho : o.op = .call { callee := .builtin .copy, args := #[d, s], argTypes := #[dT, sT] }) (elem : TypeId) (hu : P.underlying dT = some (.slice elem)) (hsz : (P.info? elem).map (·.size) = some 1)
    (dp sp : Option Addr) (dLen dCap sLen sCap : Nat) (hd : a.eval d = .slice dp dLen dCap) (hs : a.eval s = .slice sp sLen sCap)
    (g off : Nat) (cur : List Value) (t : TypeId) (hg : Blk w g cur t) (cs : List Value) (hn : cs.length = Nat.min sLen dLen)
    (hpos : 0 < cs.length → dp = some ⟨g, off, none⟩ ∧ ∃ ad, sp = some ad ∧ ∀ j v, cs[j]? = some v → w.cell? (ad.add j) = some v)
    (hfit : off + cs.length ≤ cur.length) (h1 : ∀ v ∈ cs, v.oneCell' = true)
    (h : ∀ w', Hid (Blk w' g (splice cur off cs) t) → Hid (Chg (fun k => k = g) w w') → K (a.put o.dst (goInt cs.length)) w') :
    if Region.wanted o (yielded ops a.tmps) = true then Oper.wp P o a w K Q else E := by
  have hw : Region.wanted o (yielded ops a.tmps) = true := by simp [Region.wanted, hgd]
  rw [if_pos hw]
  by_cases h0 : cs.length = 0
  · obtain rfl : cs = [] := List.eq_nil_of_length_eq_zero h0
    have hrun := run_copy_none (P := P) w dT sT o.type elem dp sp dLen dCap sLen sCap hu hsz (by simpa using hn.symm)
    unfold Oper.wp
    simp [execOp, ho, resolve, invoke, builtin, hd, hs, hrun, Result.andThen]
    exact h w (show Blk _ _ _ _ by simpa [splice] using hg) (Chg.refl _ _)
  · obtain ⟨rfl, ad, rfl, hsrc⟩ := hpos (by omega)
    have hrun := run_copy_row (P := P) w dT sT o.type elem g off dLen dCap ad sLen sCap cur.toArray t cs hu hsz hg hn hsrc (by simpa using hfit) h1
    unfold Oper.wp
    simp [execOp, ho, resolve, invoke, builtin, hd, hs, hrun, Result.andThen]
    exact h _ (show Blk _ _ _ _ by unfold Blk; simpa [splice] using setRow_heap w g _ _ t _ hg) (Chg.setRow (S := fun k => k = g) w rfl _)

/-- The slice that begins at 'a' (room for 'c') reads as 'zs', all of it in blocks below B. -/
def Rd (B : Nat) (w : World) (a : Option Addr) (c : Nat) (zs : List Int) : Prop :=
  zs.length ≤ c ∧ ∀ i, i < zs.length → ∃ b o, a = some ⟨b, o, none⟩ ∧ b < B ∧ w.cell? ⟨b, o + i, none⟩ = some (.int .u8 (zs.getD i 0))

theorem Rd.below {B B' : Nat} {w w' : World} {a : Option Addr} {c : Nat} {zs : List Int} (h : Rd B w a c zs) (hb : Below B' w w') (hB : B ≤ B') : Rd B w' a c zs := by
  refine ⟨h.1, fun i hi => ?_⟩
  obtain ⟨b, o, h1, h2, h3⟩ := h.2 i hi
  exact ⟨b, o, h1, h2, (hb.cell (p := ⟨b, o + i, none⟩) (by show b < B'; omega)).trans h3⟩

theorem Rd.mono {B B' : Nat} {w : World} {a : Option Addr} {c : Nat} {zs : List Int} (h : Rd B w a c zs) (hB : B ≤ B') : Rd B' w a c zs := by
  refine ⟨h.1, fun i hi => ?_⟩
  obtain ⟨b, o, h1, h2, h3⟩ := h.2 i hi
  exact ⟨b, o, h1, by omega, h3⟩

theorem Rd.cells {B : Nat} {w : World} {a : Option Addr} {c : Nat} {zs : List Int} (h : Rd B w a c zs) (h0 : 0 < zs.length) :
    ∃ b o, a = some ⟨b, o, none⟩ ∧ b < B ∧ ∀ i, i < zs.length → w.cell? ⟨b, o + i, none⟩ = some (.int .u8 (zs.getD i 0)) := by
  obtain ⟨b, o, h1, h2, _⟩ := h.2 0 h0
  refine ⟨b, o, h1, h2, fun i hi => ?_⟩
  obtain ⟨b', o', h1', _, h3'⟩ := h.2 i hi
  rw [h1] at h1'
  simp only [Option.some.injEq, Addr.mk.injEq, and_true] at h1'
  obtain ⟨rfl, rfl⟩ := h1'
  exact h3'

theorem Rd.take {B : Nat} {w : World} {a : Option Addr} {c : Nat} {zs : List Int} (h : Rd B w a c zs) (n : Nat) : Rd B w a c (zs.take n) := by
  refine ⟨by have := h.1; simp; omega, fun i hi => ?_⟩
  simp only [List.length_take] at hi
  obtain ⟨b, o, h1, h2, h3⟩ := h.2 i (by omega)
  exact ⟨b, o, h1, h2, by rw [h3]; simp [show i < n by omega]⟩

theorem Rd.drop {B : Nat} {w : World} {a : Option Addr} {c : Nat} {zs : List Int} (h : Rd B w a c zs) (n : Nat) : Rd B w (a.map fun x => x.add n) (c - n) (zs.drop n) := by
  refine ⟨by have := h.1; simp; omega, fun i hi => ?_⟩
  simp only [List.length_drop] at hi
  obtain ⟨b, o, rfl, h2, h3⟩ := h.2 (n + i) (by omega)
  exact ⟨b, o + n, by simp [Addr.add_lit], h2, by rw [Nat.add_assoc, h3]; simp⟩

theorem Rd.dropEnd {B : Nat} {w : World} {a : Option Addr} {c : Nat} {zs : List Int} (h : Rd B w a c zs) : Rd B w a 0 (zs.drop c) := by
  have := h.1
  exact ⟨by simp; omega, fun i hi => by simp at hi; omega⟩

/-- 'xs[n:]' in the walk's own words. -/
theorem Rd.dropIf {B : Nat} {w : World} {a : Option Addr} {c : Nat} {zs : List Int} (h : Rd B w a c zs) (n : Nat) : Rd B w (if c = n then a else a.map fun x => x.add n) (c - n) (zs.drop n) := by
  split
  · rename_i e
    subst e
    rw [Nat.sub_self]
    exact h.dropEnd
  · exact h.drop n

/-- Bytes as cells. -/
def ints (zs : List Int) : List Value := zs.map (Value.int .u8)
theorem ints_length (zs : List Int) : (ints zs).length = zs.length := by simp [ints]
theorem ints_take (zs : List Int) (n : Nat) : (ints zs).take n = ints (zs.take n) := by simp [ints]
theorem ints_drop (zs : List Int) (n : Nat) : (ints zs).drop n = ints (zs.drop n) := by simp [ints]
theorem ints_one (zs : List Int) : ∀ v ∈ ints zs, v.oneCell' = true := ints_oneCell _ _

theorem Rd.src {B : Nat} {w : World} {a : Option Addr} {c : Nat} {zs : List Int} (h : Rd B w a c zs) (n : Nat) (h0 : 0 < (ints (zs.take n)).length) :
    ∃ ad, a = some ad ∧ ∀ j v, (ints (zs.take n))[j]? = some v → w.cell? (ad.add j) = some v := by
  rw [ints_length] at h0
  obtain ⟨b, o, h1, _, h3⟩ := (h.take n).cells h0
  refine ⟨_, h1, fun j v hv => ?_⟩
  have hj : j < (zs.take n).length := by rw [← ints_length]; exact (List.getElem?_eq_some_iff.1 hv).1
  rw [Addr.add_lit, h3 j hj]
  simp only [ints, List.getElem?_map, Option.map_eq_some_iff] at hv
  obtain ⟨x, hx, rfl⟩ := hv
  simp [hx]

theorem rd_of_blk {w : World} {g o n c : Nat} {cs : List Value} {t : TypeId} {B : Nat} {zs : List Int} (h : Blk w g cs t) (hB : g < B) (hz : zs.length = n) (hc : n ≤ c) (hv : ∀ i, i < n → cs[o + i]? = some (.int .u8 (zs.getD i 0))) : Rd B w (some ⟨g, o, none⟩) c zs :=
  ⟨by omega, fun i hi => ⟨g, o, rfl, hB, h.cell (hv i (by omega))⟩⟩
end Go.Proofs.Qxb6608512aDoor
