import Derived.WalkKit
import Derived.WalkSpells
import Derived.WalkLawsBesides
import Derived.Laws.CopyOwn
namespace Go.Proofs.Qxb6608618a
open Go.RowKit

/-- From w to w' only blocks of S (and new ones) have turned. -/
structure Chg (S : Nat → Prop) (w w' : World) : Prop where
  os : w'.os = w.os
  tape : w'.tape = w.tape
  output : w'.output = w.output
  size : w.heap.size ≤ w'.heap.size
  block : ∀ k, k < w.heap.size → ¬ S k → w'.heap[k]? = w.heap[k]?

theorem Chg.refl (S : Nat → Prop) (w : World) : Chg S w w := ⟨rfl, rfl, rfl, Nat.le_refl _, fun _ _ _ => rfl⟩

theorem Chg.trans {S : Nat → Prop} {a b c : World} (h : Chg S a b) (k : Chg S b c) : Chg S a c :=
  ⟨k.os.trans h.os, k.tape.trans h.tape, k.output.trans h.output, Nat.le_trans h.size k.size, fun i hi hn => (k.block i (Nat.lt_of_lt_of_le hi h.size) hn).trans (h.block i hi hn)⟩

theorem Chg.mono {S T : Nat → Prop} {w w' : World} (h : Chg S w w') (hT : ∀ k, k < w.heap.size → S k → T k) : Chg T w w' :=
  ⟨h.os, h.tape, h.output, h.size, fun k hk hn => h.block k hk (fun hs => hn (hT k hk hs))⟩

theorem Chg.of_below {S : Nat → Prop} {w w' : World} (h : Below w.heap.size w w') : Chg S w w' := ⟨h.os, h.tape, h.output, h.size, fun k hk _ => h.block k hk⟩

theorem Chg.below {S : Nat → Prop} {B : Nat} {w w' : World} (h : Chg S w w') (hB : B ≤ w.heap.size) (hS : ∀ k, k < B → ¬ S k) : Below B w w' :=
  ⟨h.os, h.tape, h.output, h.size, fun k hk => h.block k (by omega) (hS k hk)⟩

theorem Chg.alloc (S : Nat → Prop) (w : World) (o : Obj) : Chg S w (w.alloc o) := Chg.of_below ((Below.refl _ _).alloc (Nat.le_refl _) _)
theorem Chg.drew (S : Nat → Prop) (w : World) : Chg S w w.drew := ⟨rfl, rfl, rfl, Nat.le_refl _, fun _ _ _ => rfl⟩
theorem Chg.drewN (S : Nat → Prop) (w : World) (n : Nat) : Chg S w (w.drewN n) := ⟨rfl, rfl, rfl, Nat.le_refl _, fun _ _ _ => rfl⟩
theorem Chg.setCell {S : Nat → Prop} (w : World) {p : Addr} (hp : S p.block) (u : Value) : Chg S w (w.setCell p u) :=
  ⟨rfl, rfl, rfl, by simp [World.setCell], fun k _ hn => Below.heap_setCell _ _ _ _ (fun e => hn (e ▸ hp))⟩
theorem Chg.grown {S : Nat → Prop} {w w' : World} {row : Option Nat} (h : w.grownBy w' row) (hr : ∀ k, row = some k → S k) : Chg S w w' :=
  ⟨h.os, h.tape, h.output, h.size, fun k hk hn => h.block k hk (fun e => hn (hr k e.symm))⟩

/-- A block that is known whole. -/
def Blk (w : World) (b : Nat) (cs : List Value) (t : TypeId) : Prop := w.heap[b]? = some (.cells cs.toArray t (0, 0))

theorem Blk.lt {w : World} {b : Nat} {cs : List Value} {t : TypeId} (h : Blk w b cs t) : b < w.heap.size := (Array.getElem?_eq_some_iff.1 h).1

theorem Blk.cell {w : World} {b : Nat} {cs : List Value} {t : TypeId} (h : Blk w b cs t) {j : Nat} {v : Value} (hv : cs[j]? = some v) : w.cell? ⟨b, j, none⟩ = some v := by
  rw [cell_of_row w b j _ t (0, 0) h]; simpa using hv

theorem Blk.free {w : World} {b : Nat} {cs : List Value} {t : TypeId} (h : Blk w b cs t) (j : Nat) : w.frozen? ⟨b, j, none⟩ = false := frozen_of_row w b j _ t h

theorem Blk.set {w : World} {b : Nat} {cs : List Value} {t : TypeId} (h : Blk w b cs t) (j : Nat) (u : Value) : Blk (w.setCell ⟨b, j, none⟩ u) b (cs.set j u) t := by
  have := heap_setCell_same w b j _ t u h
  unfold Blk
  rw [this]; simp

theorem Blk.chg {w w' : World} {S : Nat → Prop} {b : Nat} {cs : List Value} {t : TypeId} (h : Blk w b cs t) (hc : Chg S w w') (hn : ¬ S b) : Blk w' b cs t := (hc.block b h.lt hn).trans h

theorem Blk.below {w w' : World} {B b : Nat} {cs : List Value} {t : TypeId} (h : Blk w b cs t) (hc : Below B w w') (hn : b < B) : Blk w' b cs t := (hc.block b hn).trans h

theorem Blk.other {w : World} {b : Nat} {cs : List Value} {t : TypeId} (h : Blk w b cs t) {p : Addr} (hp : p.block ≠ b) (u : Value) : Blk (w.setCell p u) b cs t := by
  unfold Blk
  rw [Below.heap_setCell _ _ _ _ (Ne.symm hp)]; exact h

theorem Blk.new (w : World) (cs : List Value) (t : TypeId) : Blk (w.alloc (.cells cs.toArray t)) w.heap.size cs t := heap_alloc_new w _

theorem Blk.old {w : World} {b : Nat} {cs : List Value} {t : TypeId} (h : Blk w b cs t) (o : Obj) : Blk (w.alloc o) b cs t := by
  unfold Blk
  rw [Below.heap_alloc w o b h.lt]; exact h

/-- A store into a block of S. -/
theorem Chg.put {S : Nat → Prop} {w0 w : World} (h : Chg S w0 w) (b j : Nat) (hb : S b) (u : Value) : Chg S w0 (w.setCell ⟨b, j, none⟩ u) := h.trans (Chg.setCell w (p := ⟨b, j, none⟩) hb u)

theorem blk_of_owns {w : World} {base : Nat} {e : TypeId} {size g n cap : Nat} {xs : List Value} (h : w.ownsRow base e size (.slice (some ⟨g, 0, none⟩) n cap) n xs) :
    ∃ cur, Blk w g cur e ∧ cur.length = cap * size ∧ cur.take (n * size) = xs ∧ base ≤ g := by
  rcases h.2 with ⟨h', _⟩ | ⟨g', cap', cur, h', hb, hg, _, _, hs, ht⟩
  · simp at h'
  · simp only [Value.slice.injEq, Option.some.injEq, Addr.mk.injEq, and_true, true_and] at h'
    obtain ⟨rfl, rfl⟩ := h'
    exact ⟨cur.toList, by unfold Blk; simpa using hg, by simpa using hs, by simpa using ht, hb⟩
end Go.Proofs.Qxb6608618a
