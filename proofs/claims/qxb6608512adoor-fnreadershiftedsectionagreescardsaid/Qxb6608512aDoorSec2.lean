import Derived.Test.Qxb6608512aDoorSec
namespace Go.Proofs.Qxb6608512aDoor
open Go.RowKit

/-- Where the section's Read ends without an error. -/
def Good (zs : List Int) (off lim plen : Nat) : Prop := off < lim ∧ min plen (lim - off) ≤ zs.length - off

theorem secRead_dec (w : World) (B sb rb off lim : Nat) (zs : List Int) (g o plen pcap : Nat) (cur : List Value) (t : TypeId) (ev : Value) (hr : Src w B rb zs) (hs : Sec w sb rb off lim) (hl : lim ≤ maxLen) (he : w.cell? ⟨0, 0, none⟩ = some ev)
    (hg : Blk w g cur t) (hfit : o + plen ≤ cur.length) (hg0 : g ≠ 0) (hp : 0 < plen) (hpc : plen ≤ pcap) (hgs : g ≠ sb) :
    Calls Tryd.prog 46 #[.pointer (some ⟨sb, 0, none⟩), .slice (some ⟨g, o, none⟩) plen pcap] w fun e w' => ∃ n err, e = .returned (.tuple #[.int .i64 ((n : Nat) : Int), err]) ∧ n = min plen (rest zs off lim).length ∧
      Blk w' g (splice cur o (ints ((rest zs off lim).take n))) t ∧ Sec w' sb rb (off + n) lim ∧ Chg (fun k => k = g ∨ k = sb) w w' ∧ ((err = .nilIface ∧ 0 < n ∧ Good zs off lim plen) ∨ (err = ev ∧ rest zs (off + n) lim = [] ∧ ¬ Good zs off lim plen)) := by
  have hrl := rest_length zs off lim
  by_cases h1 : off < lim
  · by_cases h2 : plen ≤ lim - off
    · refine (secRead_short w B sb rb off lim zs g o plen pcap cur t ev hr hs h1 hl he hg hfit hg0 hp hgs h2).mono ?_
      rintro e w' ⟨n, err, rfl, hn, hB, hS, hC, her⟩
      refine ⟨n, err, rfl, by omega, by rw [rest_take _ _ _ _ (by omega)]; exact hB, hS, hC, ?_⟩
      rcases her with ⟨rfl, h⟩ | ⟨rfl, h⟩
      · exact .inl ⟨rfl, by omega, by unfold Good; omega⟩
      · exact .inr ⟨rfl, nil_of_length (by rw [rest_length]; omega), by unfold Good; omega⟩
    · refine (secRead_long w B sb rb off lim zs g o plen pcap cur t ev hr hs h1 hl he hg hfit hg0 hpc hgs (by omega)).mono ?_
      rintro e w' ⟨n, err, rfl, hn, hB, hS, hC, her⟩
      refine ⟨n, err, rfl, by omega, by rw [rest_take _ _ _ _ (by omega)]; exact hB, hS, hC, ?_⟩
      rcases her with ⟨rfl, h⟩ | ⟨rfl, h⟩
      · exact .inl ⟨rfl, by omega, by unfold Good; omega⟩
      · exact .inr ⟨rfl, nil_of_length (by rw [rest_length]; omega), by unfold Good; omega⟩
  · refine (secRead_end w sb rb off lim _ plen pcap ev hs (by omega) he).mono ?_
    rintro e w' ⟨rfl, hC⟩
    obtain ⟨i, j, hb⟩ := hs
    refine ⟨0, ev, rfl, by omega, ?_, ⟨i, j, hb.chg hC (fun h => h)⟩, hC.mono (fun _ _ h => absurd h (fun h => h)), .inr ⟨rfl, nil_of_length (by rw [rest_length]; omega), by unfold Good; omega⟩⟩
    have e0 : splice cur o (ints ((rest zs off lim).take 0)) = cur := by simp [ints, splice_nil]
    rw [e0]
    exact hg.chg hC (fun h => h)

theorem secRead_nil (w : World) (B sb rb off lim : Nat) (zs : List Int) (g o plen pcap : Nat) (cur : List Value) (t : TypeId) (ev : Value) (hr : Src w B rb zs) (hs : Sec w sb rb off lim) (hl : lim ≤ maxLen) (he : w.cell? ⟨0, 0, none⟩ = some ev)
    (hg : Blk w g cur t) (hfit : o + plen ≤ cur.length) (hg0 : g ≠ 0) (hp : 0 < plen) (hpc : plen ≤ pcap) (hgs : g ≠ sb) (hgood : Good zs off lim plen) :
    Calls Tryd.prog 46 #[.pointer (some ⟨sb, 0, none⟩), .slice (some ⟨g, o, none⟩) plen pcap] w fun e w' => ∃ n, e = .returned (.tuple #[.int .i64 ((n : Nat) : Int), .nilIface]) ∧ n = min plen (rest zs off lim).length ∧
      Blk w' g (splice cur o (ints ((rest zs off lim).take n))) t ∧ Sec w' sb rb (off + n) lim ∧ Chg (fun k => k = g ∨ k = sb) w w' ∧ 0 < n := by
  refine (secRead_dec w B sb rb off lim zs g o plen pcap cur t ev hr hs hl he hg hfit hg0 hp hpc hgs).mono ?_
  rintro e w' ⟨n, err, rfl, hn, hB, hS, hC, her⟩
  rcases her with ⟨rfl, h, _⟩ | ⟨_, _, h⟩
  · exact ⟨n, rfl, hn, hB, hS, hC, h⟩
  · exact absurd hgood h

theorem secRead_eof (w : World) (B sb rb off lim : Nat) (zs : List Int) (g o plen pcap : Nat) (cur : List Value) (t : TypeId) (ev : Value) (hr : Src w B rb zs) (hs : Sec w sb rb off lim) (hl : lim ≤ maxLen) (he : w.cell? ⟨0, 0, none⟩ = some ev)
    (hg : Blk w g cur t) (hfit : o + plen ≤ cur.length) (hg0 : g ≠ 0) (hp : 0 < plen) (hpc : plen ≤ pcap) (hgs : g ≠ sb) (hgood : ¬ Good zs off lim plen) :
    Calls Tryd.prog 46 #[.pointer (some ⟨sb, 0, none⟩), .slice (some ⟨g, o, none⟩) plen pcap] w fun e w' => ∃ n, e = .returned (.tuple #[.int .i64 ((n : Nat) : Int), ev]) ∧ n = min plen (rest zs off lim).length ∧
      Blk w' g (splice cur o (ints ((rest zs off lim).take n))) t ∧ Sec w' sb rb (off + n) lim ∧ Chg (fun k => k = g ∨ k = sb) w w' ∧ rest zs (off + n) lim = [] := by
  refine (secRead_dec w B sb rb off lim zs g o plen pcap cur t ev hr hs hl he hg hfit hg0 hp hpc hgs).mono ?_
  rintro e w' ⟨n, err, rfl, hn, hB, hS, hC, her⟩
  rcases her with ⟨_, _, h⟩ | ⟨rfl, h, _⟩
  · exact absurd h hgood
  · exact ⟨n, rfl, hn, hB, hS, hC, h⟩
end Go.Proofs.Qxb6608512aDoor
