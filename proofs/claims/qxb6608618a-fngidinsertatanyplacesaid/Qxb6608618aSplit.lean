import Derived.Test.Qxb6608618aCount
namespace Go.Proofs.Qxb6608618a
open Go.RowKit

theorem first_spec {gs : List Grp} {nm : ByteArray} {k : Nat} (h : first gs nm = (k : Int)) : (∃ g, gs[k]? = some g ∧ eqS g.name nm = true) ∧ ∀ j g, j < k → gs[j]? = some g → eqS g.name nm = false := by
  unfold first at h
  split at h
  · rename_i hlt
    have hk : gs.findIdx (fun g => eqS g.name nm) = k := by omega
    rw [hk] at hlt
    have := (List.findIdx_eq hlt).1 hk
    refine ⟨⟨_, List.getElem?_eq_getElem hlt, this.1⟩, fun j g hj hg => ?_⟩
    have h2 := this.2 j hj
    obtain ⟨_, he⟩ := List.getElem?_eq_some_iff.1 hg
    rw [he] at h2
    exact h2
  · omega

theorem first_miss {gs : List Grp} {nm : ByteArray} (h : first gs nm = -1) : ∀ (j : Nat) (g : Grp), gs[j]? = some g → eqS g.name nm = false := by
  intro j g hg
  have hjl := (List.getElem?_eq_some_iff.1 hg).1
  cases hq : eqS g.name nm with
  | false => rfl
  | true =>
    unfold first at h
    split at h
    · omega
    · rename_i hn
      exfalso
      apply hn
      rw [List.findIdx_lt_length]
      exact ⟨g, List.mem_of_getElem? hg, hq⟩

theorem first_take {gs : List Grp} {nm : ByteArray} {j k : Nat} (h : first gs nm = (j : Int)) (hjk : j < k) : first (gs.take k) nm = (j : Int) := by
  obtain ⟨⟨g, hg, hit⟩, hno⟩ := first_spec h
  refine first_hit (g := g) (by rw [List.getElem?_take, if_pos hjk]; exact hg) (fun i h hi hig => ?_) hit
  rw [List.getElem?_take, if_pos (by omega)] at hig
  exact hno i h hi hig

theorem first_drop {gs : List Grp} {nm : ByteArray} {j k : Nat} (h : first gs nm = (j : Int)) (hjk : k ≤ j) : first (gs.drop k) nm = ((j - k : Nat) : Int) := by
  obtain ⟨⟨g, hg, hit⟩, hno⟩ := first_spec h
  refine first_hit (g := g) (by rw [List.getElem?_drop, show k + (j - k) = j by omega]; exact hg) (fun i h hi hig => ?_) hit
  rw [List.getElem?_drop] at hig
  exact hno (k + i) h (by omega) hig

theorem first_drop_none {gs : List Grp} {nm : ByteArray} {k : Nat} (h : first gs nm = -1) : first (gs.drop k) nm = -1 := by
  refine first_none (fun j g _ hg => ?_)
  rw [List.getElem?_drop] at hg
  exact first_miss h _ g hg

theorem Gs.take {B : Nat} {w : World} {a : Option Addr} {c : Nat} {gs : List Grp} (h : Gs B w a c gs) (k : Nat) : Gs B w a c (gs.take k) := by
  refine ⟨by have := h.1; simp; omega, fun i g hi => ?_⟩
  rw [List.getElem?_take] at hi
  split at hi
  · exact h.2 i g hi
  · cases hi

theorem Gs.drop {B : Nat} {w : World} {a : Option Addr} {c : Nat} {gs : List Grp} (h : Gs B w a c gs) (k : Nat) : Gs B w (if c = k then a else Option.map (fun x => x.add (k * 3)) a) (c - k) (gs.drop k) := by
  refine ⟨by have := h.1; simp; omega, fun i g hi => ?_⟩
  rw [List.getElem?_drop] at hi
  have hl := (List.getElem?_eq_some_iff.1 hi).1
  have hc := h.1
  rw [if_neg (by omega)]
  obtain ⟨b, o, rfl, h2, h3, h4, h5⟩ := h.2 (k + i) g hi
  refine ⟨b, o + k * 3, by simp [Addr.add_lit], h2, ?_, ?_, ?_⟩
  · rw [show o + k * 3 + i * 3 = o + (k + i) * 3 by omega]; exact h3
  · rw [show o + k * 3 + i * 3 = o + (k + i) * 3 by omega]; exact h4
  · rw [show o + k * 3 + i * 3 = o + (k + i) * 3 by omega]; exact h5

set_option maxHeartbeats 2000000 in
theorem split_walk (w : World) (u : Option Addr) (ul uc : Nat) (us : List Usr) (a : Option Addr) (n c : Nat) (gs : List Grp) (x : Int) (nm : ByteArray) (hul : us.length = ul) (hu : Us w.heap.size w u us) (hz : gs.length = n) (ha : Gs w.heap.size w a c gs) (hnil : a = none → n = 0) (hm : Ms w gs) :
    Calls Try.prog 7 #[.slice u ul uc, .slice a n c, .int .i64 x, .string nm] w fun e w' => e = .returned (.bool true) ∧ Below w.heap.size w w' := by
  have HNIL : Hid (a = none → n = 0) := hnil
  clear hnil
  go_enter Try.func7, Try.ntmps7
  go_wp2_with fail
  refine (bytesSplit w w.heap.size u ul uc us a n c gs x nm hul hu hz ha hm).mono ?_
  rintro e w' ⟨rfl, rfl | ⟨rfl, hU, hN, hnm⟩⟩
  · go_wp2_with fail
    go_ret
    exact ⟨rfl, Below.refl _ _⟩
  go_wp2_with fail
  refine (accountsBytes_any w w.heap.size u ul uc us a n c gs hul hu hz ha hm).mono ?_
  rintro e w1 ⟨hb1, r, rfl, hr0, hr1, hr2⟩
  by_cases hr : (1048576 : Int) < r + (nm.size : Int)
  · go_wp2_with fail
    go_ret
    exact ⟨rfl, hb1 _⟩
  have HR : Hid (¬ (1048576 : Int) < r + (nm.size : Int)) := hr
  by_cases hx0 : x < 0
  · go_wp2_with fail
    go_ret
    exact ⟨rfl, hb1 _⟩
  by_cases hxn : (n : Int) < x
  · go_wp2_with fail
    go_ret
    exact ⟨rfl, hb1 _⟩
  obtain ⟨k, rfl⟩ : ∃ k : Nat, x = k := ⟨x.toNat, by omega⟩
  have hkn : k ≤ n := by omega
  have hcn : n ≤ c := by have := ha.1; omega
  obtain ⟨A, hA⟩ : ∃ A, (if c = k then a else Option.map (fun x => x.add (k * 3)) a) = A := ⟨_, rfl⟩
  obtain ⟨F, hF⟩ : ∃ F, first gs nm = F := ⟨_, rfl⟩
  obtain ⟨G, hG⟩ : ∃ G, gidAt gs (first gs nm) = G := ⟨_, rfl⟩
  obtain ⟨O, hO⟩ : ∃ O, decide (0 ≤ first gs nm) = O := ⟨_, rfl⟩
  obtain ⟨Gl, hGl⟩ : ∃ G, gidAt (gs.take k) (first (gs.take k) nm) = G := ⟨_, rfl⟩
  obtain ⟨Ol, hOl⟩ : ∃ O, decide (0 ≤ first (gs.take k) nm) = O := ⟨_, rfl⟩
  obtain ⟨Gr, hGr⟩ : ∃ G, gidAt (gs.drop k) (first (gs.drop k) nm) = G := ⟨_, rfl⟩
  obtain ⟨Or', hOr⟩ : ∃ O, decide (0 ≤ first (gs.drop k) nm) = O := ⟨_, rfl⟩
  have HF : Hid (first gs nm = F) := hF
  have HG : Hid (gidAt gs (first gs nm) = G) := hG
  have HO : Hid (decide (0 ≤ first gs nm) = O) := hO
  have HGl : Hid (gidAt (gs.take k) (first (gs.take k) nm) = Gl) := hGl
  have HOl : Hid (decide (0 ≤ first (gs.take k) nm) = Ol) := hOl
  have HGr : Hid (gidAt (gs.drop k) (first (gs.drop k) nm) = Gr) := hGr
  have HOr : Hid (decide (0 ≤ first (gs.drop k) nm) = Or') := hOr
  have hu1 := hu.below (hb1 _) (Nat.le_refl _)
  have ha1 := ha.below (hb1 _) (Nat.le_refl _)
  have hbw1 := hb1 w.heap.size
  have hs1 := (hb1 0).size
  clear hF hG hO hGl hOl hGr hOr hb1 hm hr2
  go_wp2_with fail
  refine (accounts_any w1 w.heap.size u ul uc us a n c gs hul hU hu1 hz hN hs1 ha1 HNIL.out).mono ?_
  rintro e w2 ⟨u2, ul2, uc2, a2, c2, rfl, hg2, hb2⟩
  have hbw2 := hbw1.trans (hb2.mono hs1)
  have hs2 := hbw2.size
  clear hbw1 hb2 hu1 ha1
  go_wp2_with fail
  refine (zzgid_any w2 w2.heap.size u2 ul2 uc2 a2 n c2 gs nm hz hN (Nat.le_refl _) hg2).mono ?_
  rintro e w3 ⟨rfl, hb3⟩
  rw [HG.out, HO.out]
  have hbw3 := hbw2.trans (hb3.mono hs2)
  have hs3 := hbw3.size
  have hu3 := hu.below hbw3 (Nat.le_refl _)
  have ha3 := ha.below hbw3 (Nat.le_refl _)
  clear hbw2 hb3 hg2
  go_wp2_with fail
  refine (accounts_any w3 w.heap.size u ul uc us a k c (gs.take k) hul hU hu3 (by simp; omega) (by omega) hs3 (ha3.take k) (fun h => by have := HNIL.out h; omega)).mono ?_
  rintro e w4 ⟨u4, ul4, uc4, a4, c4, rfl, hg4, hb4⟩
  have hbw4 := hbw3.trans (hb4.mono hs3)
  have hs4 := hbw4.size
  clear hbw3 hb4 hu3 ha3
  go_wp2_with fail
  refine (zzgid_any w4 w4.heap.size u4 ul4 uc4 a4 k c4 (gs.take k) nm (by simp; omega) (by omega) (Nat.le_refl _) hg4).mono ?_
  rintro e w5 ⟨rfl, hb5⟩
  rw [HGl.out, HOl.out]
  have hbw5 := hbw4.trans (hb5.mono hs4)
  have hs5 := hbw5.size
  have hu5 := hu.below hbw5 (Nat.le_refl _)
  have ha5 := (ha.below hbw5 (Nat.le_refl _)).drop k
  rw [hA] at ha5
  have hAnil : Hid (A = none → n - k = 0) := by
    intro h
    rw [← hA] at h
    split at h
    · have := HNIL.out h; omega
    · cases a with
      | none => have := HNIL.out rfl; omega
      | some y => cases h
  clear hbw4 hb5 hg4
  go_wp2_with fail
  refine (accounts_any w5 w.heap.size u ul uc us A (n - k) (c - k) (gs.drop k) hul hU hu5 (by simp; omega) (by omega) hs5 ha5 hAnil.out).mono ?_
  rintro e w6 ⟨u6, ul6, uc6, a6, c6, rfl, hg6, hb6⟩
  have hbw6 := hbw5.trans (hb6.mono hs5)
  have hs6 := hbw6.size
  clear hbw5 hb6 hu5 ha5 hAnil
  go_wp2_with fail
  refine (zzgid_any w6 w6.heap.size u6 ul6 uc6 a6 (n - k) c6 (gs.drop k) nm (by simp; omega) (by omega) (Nat.le_refl _) hg6).mono ?_
  rintro e w7 ⟨rfl, hb7⟩
  rw [HGr.out, HOr.out]
  have hbw7 := hbw6.trans (hb7.mono hs6)
  have ha7 := ha.below hbw7 (Nat.le_refl _)
  clear hbw6 hb7 hg6
  go_wp2_with fail
  refine (firstGroup_any w7 w.heap.size a n c gs nm hz hN ha7).mono ?_
  rintro e w' ⟨rfl, rfl⟩
  rw [HF.out]
  rcases first_cases gs nm with hf | ⟨j, g, hf, hj⟩
  · obtain rfl : F = -1 := by rw [← HF.out]; exact hf
    obtain rfl : G = 0 := by rw [← HG.out, hf]; rfl
    obtain rfl : O = false := by rw [← HO.out, hf]; rfl
    have hd := first_drop_none (k := k) hf
    obtain rfl : Gr = 0 := by rw [← HGr.out, hd]; rfl
    obtain rfl : Or' = false := by rw [← HOr.out, hd]; rfl
    clear hf hd
    go_wp2_with fail
    go_ret
    exact ⟨rfl, hbw7⟩
  · have hjn : j < n := by rw [← hz]; exact (List.getElem?_eq_some_iff.1 hj).1
    obtain rfl : F = (j : Int) := by rw [← HF.out]; exact hf
    obtain rfl : G = g.gid := by rw [← HG.out, hf]; exact gidAt_hit hj
    obtain rfl : O = true := by rw [← HO.out, hf]; simp
    obtain ⟨b1, o1, rfl, hbb, hcs⟩ := ha7.addr (by omega)
    have e1 := (hcs j g hj).2.1
    have l1 : (j : Int) < (n : Int) := by omega
    by_cases hjk : j < k
    · have ht := first_take hf hjk
      obtain rfl : Gl = g.gid := by rw [← HGl.out, ht]; exact gidAt_hit (by rw [List.getElem?_take, if_pos hjk]; exact hj)
      obtain rfl : Ol = true := by rw [← HOl.out, ht]; simp
      have l2 : (j : Int) < (k : Int) := by omega
      clear hf ht hj hcs ha7 ha hu
      go_wp2_with fail
      go_ret
      exact ⟨by simp, hbw7⟩
    · have ht := first_drop hf (show k ≤ j by omega)
      obtain rfl : Gr = g.gid := by rw [← HGr.out, ht]; exact gidAt_hit (by rw [List.getElem?_drop, show k + (j - k) = j by omega]; exact hj)
      obtain rfl : Or' = true := by rw [← HOr.out, ht]; simp
      have l2 : ¬ (j : Int) < (k : Int) := by omega
      clear hf ht hj hcs ha7 ha hu
      go_wp2_with fail
      go_ret
      exact ⟨by simp, hbw7⟩
end Go.Proofs.Qxb6608618a
