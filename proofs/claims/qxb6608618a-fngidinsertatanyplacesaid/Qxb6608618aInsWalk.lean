import Derived.Test.Qxb6608618aIns
namespace Go.Proofs.Qxb6608618a
open Go.RowKit

theorem info65 : (Try.prog.info? 65).map (fun i => (i.zero, i.size, i.bytes)) = some (some (.agg #[.string ByteArray.empty, .int .u32 0, .slice none 0 0]), 3, 48) := by kernel_rfl

set_option maxHeartbeats 2000000 in
theorem insert_walk (w : World) (u : Option Addr) (ul uc : Nat) (us : List Usr) (a : Option Addr) (n c : Nat) (gs : List Grp) (x : Int) (nn : ByteArray) (ng : Int) (nm : ByteArray) (hul : us.length = ul) (hu : Us w.heap.size w u us) (hz : gs.length = n) (ha : Gs w.heap.size w a c gs) (hnil : a = none → n = 0 ∧ c = 0) (hm : Ms w gs) :
    Calls Try.prog 8 #[.slice u ul uc, .slice a n c, .int .i64 x, .string nn, .int .u32 ng, .string nm] w fun e w' => e = .returned (.bool true) ∧ Below w.heap.size w w' := by
  have HNIL : Hid (a = none → n = 0 ∧ c = 0) := hnil
  clear hnil
  obtain ⟨i0, hi, hz0, hz1, hz2⟩ := info_parts info65
  go_enter Try.func8, Try.ntmps8
  go_wp2_with fail
  refine (bytesInsert w w.heap.size u ul uc us a n c gs x ng nn nm hul hu hz ha hm).mono ?_
  rintro e w' ⟨rfl, rfl | ⟨rfl, hU, hN, hnn, hnm⟩⟩
  · go_wp2_with fail
    go_ret
    exact ⟨rfl, Below.refl _ _⟩
  go_wp2_with fail
  refine (accountsBytes_any w w.heap.size u ul uc us a n c gs hul hu hz ha hm).mono ?_
  rintro e w1 ⟨hb1, r, rfl, hr0, hr1, hr2⟩
  by_cases hr : (1048576 : Int) < r + (nm.size : Int) + (nn.size : Int) + 40
  · go_wp2_with fail
    go_ret
    exact ⟨rfl, hb1 _⟩
  have HR : Hid (¬ (1048576 : Int) < r + (nm.size : Int) + (nn.size : Int) + 40) := hr
  by_cases hx0 : x < 0
  · go_wp2_with fail
    go_ret
    exact ⟨rfl, hb1 _⟩
  by_cases hxn : (n : Int) < x
  · go_wp2_with fail
    go_ret
    exact ⟨rfl, hb1 _⟩
  obtain ⟨k, rfl⟩ : ∃ k : Nat, x = k := ⟨x.toNat, by omega⟩
  have hkn : k ≤ n := by omega
  have hn6 : n ≤ 65536 := by have := hr2 (by omega); omega
  have hcn : n ≤ c := by have := ha.1; omega
  obtain ⟨A, hA⟩ : ∃ A, (if c = k then a else Option.map (fun x => x.add (k * 3)) a) = A := ⟨_, rfl⟩
  have hbw1 := hb1 w.heap.size
  have hs1 := (hb1 0).size
  have ha1 := ha.below hbw1 (Nat.le_refl _)
  clear hb1 hm hr2
  have HA1 : Hid (Gs w.heap.size w a c gs) := ha
  have HBW1 : Hid (Below w.heap.size w w1) := hbw1
  clear ha1 ha hbw1
  have S1 : Hid (w.heap.size ≤ w1.heap.size) := hs1
  have FC : Hid ((gcells (gs.take k)).length = k * 3) := by show _ = _; rw [gcells_length, List.length_take]; omega
  have FD : Hid (a = none → k = 0 ∧ c = 0) := fun h => by have := HNIL.out h; omega
  have FC2 : Hid ((gcells (gs.drop k)).length = (n - k) * 3) := by show _ = _; rw [gcells_length, List.length_drop]; omega
  have FD2 : Hid (A = none → n - k = 0 ∧ c - k = 0) := by
    intro h
    rw [← hA] at h
    split at h
    · have := HNIL.out h; omega
    · cases a with
      | none => have := HNIL.out rfl; omega
      | some y => cases h
  have FG2 : Hid (∀ w4, Below w.heap.size w w4 → ∀ ad, A = some ad → ∀ (j : Nat) u, (gcells (gs.drop k))[j]? = some u → w4.cell? (ad.add j) = some u) := by
    intro w4 hb
    have := (HA1.out.below hb (Nat.le_refl _)).drop k
    rw [hA] at this
    exact this.cells
  have FN : Hid (∀ w3 : World, ∀ (j : Nat) u, (gcells [⟨nn, ng, none, 0, 0⟩])[j]? = some u → (w3.alloc (.cells #[.string nn, .int .u32 ng, .slice none 0 0] 65)).cell? (Addr.add ⟨w3.heap.size, 0, none⟩ j) = some u) := by
    intro w3 j u hj
    have := Blk.new w3 [.string nn, .int .u32 ng, .slice none 0 0] 65
    rw [Addr.add_lit, Nat.zero_add]
    exact this.cell (by simpa [gcells] using hj)
  have b1 : k + 1 ≤ n + 1 := by omega
  have b2 : k + 1 + (n - k) ≤ n + 1 := by omega
  have b3 : 0 + k ≤ n + 1 := by omega
  have b4 : i0.bytes * (n + 1) ≤ 281474976710656 := by rw [hz2]; omega
  have b5 : n + 1 ≤ maxLen := by unfold maxLen; omega
  have B1 : Hid _ := b1
  have B2 : Hid _ := b2
  have B3 : Hid (0 + k ≤ n + 1) := b3
  have B4 : Hid (i0.bytes * (n + 1) ≤ 281474976710656) := b4
  have B5 : Hid (n + 1 ≤ maxLen) := b5
  clear b1 b2 b3 b4 b5
  go_wp2_with (first
    | (at_make; refine wpList_make_own w1 rfl _ _ 52 rfl w.heap.size 65 i0 _ 3 Try.underlying52 hi hz0 hz1 .i64 .i64 _ (n + 1) rfl rfl (by simp) B4.out B5.out S1.out ?_; intro w2 hown2 hgrow2; have HO2 : Hid (w2.ownsRow w.heap.size 65 3 (.slice (some ⟨w1.heap.size, 0, none⟩) 0 (n + 1)) 0 []) := hown2; have HB2 : Hid (Below w.heap.size w w2) := HBW1.out.grown hgrow2 S1.out (fun k e => by cases e); clear hown2 hgrow2)
    | (at_builtin; apply Hid.out))
  delta Hid
  refine wpList_append_fits_any w2 rfl (.tmp 59) (.tmp 62) 52 rfl w.heap.size 65 i0 3 Try.underlying52 hi hz1 w1.heap.size 0 (n + 1) [] rfl HO2.out a k c (gcells (gs.take k)) rfl FC.out FD.out ((HA1.out.below HB2.out (Nat.le_refl _)).take k).cells (gcells_one _) B3.out ?_
  intro w3 hown3 hgrow3
  simp only [Nat.zero_add, List.nil_append] at hown3
  have HO3 : Hid (w3.ownsRow w.heap.size 65 3 (.slice (some ⟨w1.heap.size, 0, none⟩) k (n + 1)) k (gcells (gs.take k))) := hown3
  have HB3 : Hid (Below w.heap.size w w3) := HB2.out.grown hgrow3 HB2.out.size (fun k e => by have := Option.some.inj e; have := S1.out; omega)
  clear hown3 hgrow3
  go_wp2_with (at_builtin; apply Hid.out)
  delta Hid
  refine wpList_append_fits (w3.alloc (.cells #[.string nn, .int .u32 ng, .slice none 0 0] 65)) rfl (.tmp 64) (.tmp 68) 52 rfl w.heap.size 65 i0 3 Try.underlying52 hi hz1 w1.heap.size k (n + 1) (gcells (gs.take k)) rfl (ownsRow_chg HO3.out (Chg.alloc (fun _ => False) w3 _) (fun k e => id)) ⟨w3.heap.size, 0, none⟩ 1 1 (gcells [⟨nn, ng, none, 0, 0⟩]) rfl rfl (FN.out w3) (gcells_one _) B1.out ?_
  intro w4 hown4 hgrow4
  have HO4 : Hid (w4.ownsRow w.heap.size 65 3 (.slice (some ⟨w1.heap.size, 0, none⟩) (k + 1) (n + 1)) (k + 1) (gcells (gs.take k) ++ gcells [⟨nn, ng, none, 0, 0⟩])) := hown4
  have HB4 : Hid (Below w.heap.size w w4) := (HB3.out.alloc HB3.out.size _).grown hgrow4 (by simp; have := HB3.out.size; omega) (fun k e => by have := Option.some.inj e; have := S1.out; omega)
  clear hown4 hgrow4
  go_wp2_with (at_builtin; apply Hid.out)
  delta Hid
  refine wpList_append_fits_any w4 rfl (.tmp 70) (.tmp 73) 52 rfl w.heap.size 65 i0 3 Try.underlying52 hi hz1 w1.heap.size (k + 1) (n + 1) (gcells (gs.take k) ++ gcells [⟨nn, ng, none, 0, 0⟩]) rfl HO4.out A (n - k) (c - k) (gcells (gs.drop k)) rfl FC2.out FD2.out (FG2.out w4 HB4.out) (gcells_one _) B2.out ?_
  intro w5 hown5 hgrow5
  have e5 : k + 1 + (n - k) = n + 1 := by omega
  rw [e5] at hown5 ⊢
  have hown5' : w5.ownsRow w.heap.size 65 3 (.slice (some ⟨w1.heap.size, 0, none⟩) (n + 1) (n + 1)) (n + 1) (gcells (ins gs k ⟨nn, ng, none, 0, 0⟩)) := by
    unfold ins
    rw [gcells_append, gcells_append, ← List.append_assoc]
    exact hown5
  have HG5 : Hid (Gs w5.heap.size w5 (some ⟨w1.heap.size, 0, none⟩) (n + 1) (ins gs k ⟨nn, ng, none, 0, 0⟩)) := gs_of_owns hown5' (by rw [ins_length (by omega)]; omega)
  have HB5 : Hid (Below w.heap.size w w5) := HB4.out.grown hgrow5 HB4.out.size (fun k e => by have := Option.some.inj e; have := S1.out; omega)
  clear hown5 hgrow5 hown5' HO2 HO3 HO4 HB2 HB3 HB4 FC FD FC2 FD2 FG2 FN B1 B2 B3 B4 B5 e5 hA
  have hbw5 := HB5.out
  have hs5 := hbw5.size
  have hu5 := hu.below hbw5 (Nat.le_refl _)
  have ha5 := HA1.out.below hbw5 (Nat.le_refl _)
  obtain ⟨F, hF⟩ : ∃ F, first gs nm = F := ⟨_, rfl⟩
  obtain ⟨G, hG⟩ : ∃ G, gidAt gs (first gs nm) = G := ⟨_, rfl⟩
  obtain ⟨O, hO⟩ : ∃ O, decide (0 ≤ first gs nm) = O := ⟨_, rfl⟩
  obtain ⟨L, hL⟩ : ∃ L, L = ins gs k ⟨nn, ng, none, 0, 0⟩ := ⟨_, rfl⟩
  obtain ⟨G1, hG1⟩ : ∃ G, gidAt L (first L nm) = G := ⟨_, rfl⟩
  obtain ⟨O1, hO1⟩ : ∃ O, decide (0 ≤ first L nm) = O := ⟨_, rfl⟩
  rw [← hL] at HG5
  have hLl : L.length = n + 1 := by rw [hL, ins_length (by omega)]; omega
  have HF : Hid (first gs nm = F) := hF
  have HG : Hid (gidAt gs (first gs nm) = G) := hG
  have HO : Hid (decide (0 ≤ first gs nm) = O) := hO
  have HG1 : Hid (gidAt L (first L nm) = G1) := hG1
  have HO1 : Hid (decide (0 ≤ first L nm) = O1) := hO1
  have HL : Hid (L = ins gs k ⟨nn, ng, none, 0, 0⟩) := hL
  have HLl : Hid (L.length = n + 1) := hLl
  clear hF hG hO hG1 hO1 hL hLl
  go_wp2_with fail
  refine (accounts_any w5 w.heap.size u ul uc us a n c gs hul hU hu5 hz hN hs5 ha5 (fun h => (HNIL.out h).1)).mono ?_
  rintro e w6 ⟨u2, ul2, uc2, a2, c2, rfl, hg6, hb6⟩
  have hbw6 := hbw5.trans (hb6.mono hs5)
  have hs6 := hbw6.size
  have HG6 := HG5.out.below hb6 (Nat.le_refl _)
  have hb56 := hb6.size
  clear hbw5 hb6 hu5 ha5 HG5 HB5
  have HG6' : Hid (Gs w5.heap.size w6 (some ⟨w1.heap.size, 0, none⟩) (n + 1) L) := HG6
  clear HG6
  go_wp2_with fail
  refine (zzgid_any w6 w6.heap.size u2 ul2 uc2 a2 n c2 gs nm hz hN (Nat.le_refl _) hg6).mono ?_
  rintro e w7 ⟨rfl, hb7⟩
  rw [HG.out, HO.out]
  have hbw7 := hbw6.trans (hb7.mono hs6)
  have hs7 := hbw7.size
  have hu7 := hu.below hbw7 (Nat.le_refl _)
  have hL7 := HG6'.out.below hb7 hb56
  have hs57 : w5.heap.size ≤ w7.heap.size := by have := hb7.size; omega
  have hN1 : n + 1 ≤ 1048576 := by omega
  have hL7' := hL7.mono hs57
  have hU7 : Us w7.heap.size w7 u us := fun i g hi => by obtain ⟨b, o, p1, p2, p3⟩ := hu7 i g hi; exact ⟨b, o, p1, by omega, p3⟩
  clear hbw6 hb7 hg6 HG6' hL7 hu7
  go_wp2_with fail
  refine (accounts_any w7 w7.heap.size u ul uc us (some ⟨w1.heap.size, 0, none⟩) (n + 1) (n + 1) L hul hU hU7 HLl.out hN1 (Nat.le_refl _) hL7' (fun h => by cases h)).mono ?_
  rintro e w8 ⟨u4, ul4, uc4, a4, c4, rfl, hg8, hb8⟩
  have hbw8 := hbw7.trans (hb8.mono hs7)
  have hs8 := hbw8.size
  clear hbw7 hb8 hU7 hL7'
  go_wp2_with fail
  refine (zzgid_any w8 w8.heap.size u4 ul4 uc4 a4 (n + 1) c4 L nm HLl.out hN1 (Nat.le_refl _) hg8).mono ?_
  rintro e w9 ⟨rfl, hb9⟩
  rw [HG1.out, HO1.out]
  have hbw9 := hbw8.trans (hb9.mono hs8)
  have ha9 := HA1.out.below hbw9 (Nat.le_refl _)
  clear hbw8 hb9 hg8
  go_wp2_with fail
  refine (firstGroup_any w9 w.heap.size a n c gs nm hz hN ha9).mono ?_
  rintro e w' ⟨rfl, rfl⟩
  rw [HF.out]
  have hkl : k ≤ gs.length := by omega
  obtain ⟨d, hd⟩ : ∃ d, (nm.toList == nn.toList) = d := ⟨_, rfl⟩
  have HD : Hid (eqS nn nm = d) := by
    show eqS nn nm = d
    rw [← hd, Bool.eq_iff_iff]
    simp [eqS]
    exact eq_comm
  rcases first_cases gs nm with hf | ⟨j, g, hf, hj⟩
  · obtain rfl : F = -1 := by rw [← HF.out]; exact hf
    obtain rfl : G = 0 := by rw [← HG.out, hf]; rfl
    obtain rfl : O = false := by rw [← HO.out, hf]; rfl
    cases d
    · have h1 := first_ins_none (g := ⟨nn, ng, none, 0, 0⟩) hkl hf HD.out
      rw [← HL.out] at h1
      obtain rfl : G1 = 0 := by rw [← HG1.out, h1]; rfl
      obtain rfl : O1 = false := by rw [← HO1.out, h1]; rfl
      clear hf h1 ha9 hu
      go_wp2_with fail
      go_ret
      exact ⟨by simp, hbw9⟩
    · have h1 := first_ins_new (g := ⟨nn, ng, none, 0, 0⟩) hkl (fun i q _ hq => first_miss hf i q hq) HD.out
      rw [← HL.out] at h1
      obtain rfl : G1 = ng := by rw [← HG1.out, h1]; exact gidAt_hit (gs := L) (k := k) (g := ⟨nn, ng, none, 0, 0⟩) (by rw [HL.out]; exact ins_eq hkl)
      obtain rfl : O1 = true := by rw [← HO1.out, h1]; simp
      clear hf h1 ha9 hu
      go_wp2_with fail
      go_ret
      exact ⟨by simp, hbw9⟩
  · have hjn : j < n := by rw [← hz]; exact (List.getElem?_eq_some_iff.1 hj).1
    obtain rfl : F = (j : Int) := by rw [← HF.out]; exact hf
    obtain rfl : G = g.gid := by rw [← HG.out, hf]; exact gidAt_hit hj
    obtain rfl : O = true := by rw [← HO.out, hf]; simp
    obtain ⟨b1, o1, rfl, hbb, hcs⟩ := ha9.addr (by omega)
    have e1 := (hcs j g hj).2.1
    have l1 : (j : Int) < (n : Int) := by omega
    by_cases hjk : j < k
    · have h1 := first_ins_old (g := ⟨nn, ng, none, 0, 0⟩) hkl hf hjk
      rw [← HL.out] at h1
      obtain rfl : G1 = g.gid := by rw [← HG1.out, h1]; exact gidAt_hit (gs := L) (k := j) (g := g) (by rw [HL.out, ins_lt hkl hjk]; exact hj)
      obtain rfl : O1 = true := by rw [← HO1.out, h1]; simp
      have l2 : ¬ (k : Int) ≤ (j : Int) := by omega
      clear hf h1 hj hcs ha9 hu
      cases d
      · go_wp2_with fail
        go_ret
        exact ⟨by simp, hbw9⟩
      · go_wp2_with fail
        go_ret
        exact ⟨by simp, hbw9⟩
    · have l2 : (k : Int) ≤ (j : Int) := by omega
      cases d
      · have h1 := first_ins_later (g := ⟨nn, ng, none, 0, 0⟩) hkl hf (by omega) HD.out
        rw [← HL.out] at h1
        obtain rfl : G1 = g.gid := by rw [← HG1.out, h1]; exact gidAt_hit (gs := L) (k := j + 1) (g := g) (by rw [HL.out, ins_gt hkl (by omega)]; exact hj)
        obtain rfl : O1 = true := by rw [← HO1.out, h1]; exact decide_eq_true (by omega)
        clear hf h1 hj hcs ha9 hu
        go_wp2_with fail
        go_ret
        exact ⟨by simp, hbw9⟩
      · have h1 := first_ins_new (g := ⟨nn, ng, none, 0, 0⟩) hkl (fun i q hi hq => (first_spec hf).2 i q (by omega) hq) HD.out
        rw [← HL.out] at h1
        obtain rfl : G1 = ng := by rw [← HG1.out, h1]; exact gidAt_hit (gs := L) (k := k) (g := ⟨nn, ng, none, 0, 0⟩) (by rw [HL.out]; exact ins_eq hkl)
        obtain rfl : O1 = true := by rw [← HO1.out, h1]; simp
        clear hf h1 hj hcs ha9 hu
        go_wp2_with fail
        go_ret
        exact ⟨by simp, hbw9⟩
end Go.Proofs.Qxb6608618a
