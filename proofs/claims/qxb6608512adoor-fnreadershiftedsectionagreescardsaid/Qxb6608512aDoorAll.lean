import Derived.Test.Qxb6608512aDoorZero
namespace Go.Proofs.Qxb6608512aDoor
open Go.RowKit

set_option maxHeartbeats 4000000 in
set_option maxRecDepth 20000 in
theorem all_start (w : World) (B rb sb bb gb : Nat) (zs : List Int) (x : Addr) (S0 : List Int)
    (hz : zs.length ≤ 1048576) (he : w.cell? ⟨0, 0, none⟩ = some (.iface 64 (.pointer (some x)))) (h : Bf w B rb sb bb gb zs (.iface 64 (.pointer (some x))) S0) (hS : S0.length ≤ 1048576)
    (hB0 : 0 < B) (hBr : B ≤ rb) (hrs : rb < sb) (hsb : sb < bb) (hbg : bb < gb) :
    Calls Tryd.prog 20 #[.iface 36 (.pointer (some ⟨bb, 0, none⟩))] w fun e w' => ∃ a c, e = .returned (.tuple #[.slice a S0.length c, .nilIface]) ∧ Rd w'.heap.size w' a c S0 ∧ (∀ y, a = some y → w.heap.size ≤ y.block) ∧ Chg (fun k => k = sb ∨ k = bb ∨ k = gb) w w' := by
  have hgg := bf_lt h
  obtain ⟨i0, hi, hz0, hz1, hz2⟩ := info_parts info5
  obtain ⟨j0, ji, jz0, jz1, jz2⟩ := info_parts info22
  go_enter Tryd.func20, Tryd.ntmps20
  go_wp2_with (first
    | (at_make; refine wpList_make_own _ rfl _ _ 22 rfl w.heap.size 5 i0 (.int .u8 0) 1 Tryd.underlying22 hi hz0 hz1 .i64 .i64 _ 512 rfl rfl rfl (by rw [hz2]; omega) (by unfold maxLen; omega) (by simp) ?_; intro w1 hown1 hgrow1)
    | (at_make; refine wpList_make_own _ rfl _ _ 55 rfl w.heap.size 22 j0 (.slice none 0 0) 1 Tryd.underlying55 ji jz0 jz1 .i64 .i64 _ 4 rfl rfl rfl (by rw [jz2]; omega) (by unfold maxLen; omega) (by have := hgrow1.size; omega) ?_; intro w2 hown2 hgrow2))
  have hs1 : w.heap.size < w1.heap.size := (hown1.lt _ rfl).2
  have hs2 : w1.heap.size < w2.heap.size := (hown2.lt _ rfl).2
  have hc1 : Chg (fun k => k = sb ∨ k = bb ∨ k = gb) w w1 := Chg.grown hgrow1 (fun k e => by cases e)
  have hc2 : Chg (fun k => k = sb ∨ k = bb ∨ k = gb) w1 w2 := Chg.grown hgrow2 (fun k e => by cases e)
  have hn1 : Chg (fun _ => False) w w1 := Chg.grown hgrow1 (fun k e => by cases e)
  have hn2 : Chg (fun _ => False) w1 w2 := Chg.grown hgrow2 (fun k e => by cases e)
  obtain ⟨cur, hcur, hcl, _, _⟩ := blk_of_owns hown1
  have hst : Rel w B rb sb bb gb zs (.iface 64 (.pointer (some x))) S0 (.slice (some ⟨w.heap.size, 0, none⟩) 0 512) (.int .i64 256) (.slice (some ⟨w1.heap.size, 0, none⟩) 0 4) (.int .i64 0) w2 :=
    ⟨w.heap.size, 512, [], cur, 256, [], S0, rfl, hcur.chg hn2 (fun h => h), hcl, by simp [ints], by simp, by unfold maxLen; omega, by omega, rfl, by omega, by omega, by omega, by simpa using hown2, by simp,
      rfl, by simp [flat], bf_chg h (hn1.trans hn2) (fun _ _ h => h) hBr hrs hsb hbg, eof_chg he (hn1.trans hn2) (fun h => h), hc1.trans hc2, Nat.le_refl _⟩
  clear hown1 hown2 hgrow1 hgrow2 hc1 hc2 hn1 hn2 hcur hcl he h hs1 hs2
  go_loopw [4, 5, 6, 7] (Rel w B rb sb bb gb zs (.iface 64 (.pointer (some x))) S0) (fun b _ _ fs _ => S0.length - ((intOf fs).toNat + lenOf b))
  case atStart => exact hst
  case round =>
    obtain ⟨gB, capB, bytes, cur, nx, ps, S, rfl, hgB, hcl, hct, hbl, hcm, hc256, rfl, hnx1, hnx2, hnx3, hown, hps, rfl, hS0, hbf, he, hC, hgw⟩ := hrel
    clear hst
    have hpl := flat_ge wr ps (fun p hp => (hps p hp).1)
    obtain ⟨ca, cc, rfl⟩ := own_shape hown
    have hne : ¬ capB = bytes.length := by omega
    have hcm' : capB ≤ 9223372036854775807 := by unfold maxLen at hcm; omega
    have HCM : Hid (capB ≤ maxLen) := hcm
    clear hcm
    have HK : Hid (cur.take bytes.length = ints bytes ∧ wr.ownsRow w.heap.size 22 1 (.slice ca ps.length cc) ps.length (ps.map Piece.val) ∧ (∀ p ∈ ps, Held wr p ∧ w.heap.size ≤ p.blk ∧ p.blk ≠ gB) ∧ S0 = flat ps ++ bytes ++ S ∧ Chg (fun k => k = sb ∨ k = bb ∨ k = gb) w wr) := ⟨hct, hown, hps, hS0, hC⟩
    have htotE : Hid (S0.length = (flat ps).length + bytes.length + S.length) := by
      have := congrArg List.length hS0
      simp only [List.length_append] at this
      exact this
    have htot : (flat ps).length + bytes.length + S.length ≤ 1048576 := by have := htotE.out; omega
    clear hS0 hct hown hps hC
    have hna := nilAhead_bufRead ⟨bb, 0, none⟩
    have hmt := method_bufRead ⟨bb, 0, none⟩
    go_wp2
    go_cut [8, 9] (fun s8 s9 wx => ∃ n : Nat, s8 = .int .i64 n ∧ Got wr B rb sb bb gb zs x S gB bytes.length (capB - bytes.length) cur n s9 wx)
    case first =>
      go_region_with (go_at_call 42; refine (bufRead_any _ B rb sb bb gb zs 64 x S gB bytes.length (capB - bytes.length) (capB - bytes.length) cur 5 hz (by exact he) (by exact hbf) (by exact hgB) (by omega) (by omega) (Nat.le_refl _) hB0 hBr hrs hsb hbg (by omega)).mono ?_; rintro e w3 ⟨n, err, rfl, hnp, hnS, hB3, hbf3, hC3, her⟩)
      all_goals
        go_wp2_with fail
        go_meet
        exact ⟨n, rfl, hnp, hnS, hB3, hbf3, (Chg.drew _ wr).trans hC3, her⟩
    case rest =>
      obtain ⟨n, rfl, hnp, hnS, hB3, hbf3, hC3, her⟩ := hcut
      have hmid := mid_of HK.out hgB hcl hnp hbl hnS he hB3 hbf3 hC3 hB0 hBr hrs hsb hbg hgg hgw
      have hbsl : Hid ((bytes ++ S.take n).length = bytes.length + n) := by show _ = _; rw [List.length_append, List.length_take, Nat.min_eq_left hnS]
      have HM : Hid _ := hmid
      clear hgB hbf he hna hmt hB3 hbf3 hC3 HK hmid
      rcases her with ⟨rfl, hn0⟩ | ⟨rfl, hend⟩
      · by_cases hfull : (capB : Int) - ((bytes.length : Int) + (n : Int)) < (capB : Int) / 16
        · obtain ⟨cur', m1, m2, m3, hown3, hps3, hrest⟩ := HM.out
          have HX : Hid (wc.ownsRow w.heap.size 22 1 (.slice ca ps.length cc) ps.length (ps.map Piece.val)) := hown3
          clear m1 m2 m3 hown3 hps3 hrest
          go_wp2_with (at_builtin; refine wpList_append_own _ rfl (.tmp 76) (.tmp 78) 55 rfl w.heap.size 22 j0 (.slice none 0 0) 1 24 Tryd.underlying55 ji jz0 jz1 jz2 rfl (by decide) (.slice ca ps.length cc) ps.length (ps.map Piece.val) rfl (HX.out.alloc _) ⟨wc.heap.size, 0, none⟩ 1 1 [.slice (some ⟨gB, 0, none⟩) (bytes.length + n) capB] rfl rfl ?c1 ?c2 ?c3 ?c4 ?c5 ?_)
          case c1 =>
            intro j u hj
            match j, hj with
            | 0, hj => simp at hj; subst hj; simp [Addr.add]
          case c2 => intro u hu; simp at hu; subst hu; rfl
          case c3 => unfold maxLen; omega
          case c4 => omega
          case c5 => have := HX.out; have := HM.out; obtain ⟨_, _, _, _, _, _, _, _, _, hc⟩ := this; have := hc.size; first | omega | (simp; omega)
          intro v' w4 hown' hgrow _
          obtain ⟨cap', Z, hzr, hZl, hZ1, hZ2⟩ := zeros_run w4 22 nx (by omega) (by omega)
          have HO : Hid (w4.ownsRow w.heap.size 22 1 v' (ps.length + 1) (ps.map Piece.val ++ [.slice (some ⟨gB, 0, none⟩) (bytes.length + n) capB])) := hown'
          have HG : Hid ((wc.alloc (.cells #[.slice (some ⟨gB, 0, none⟩) (bytes.length + n) capB] 22)).grownBy w4 (Value.slice ca ps.length cc).ownBlock) := hgrow
          clear hown' hgrow HX
          go_wp2_with (at_builtin; refine Lib.wpList_append_run w4 rfl _ _ 22 3 rfl (.slice none 0 0) (.int .i64 nx) rfl rfl _ _ hzr ?_)
          go_roundw
          case rel =>
            have R := rel_move (nx' := nx + nx / 2) HM.out HCM.out (by rw [hbsl.out]; omega) (by rw [hbsl.out]; omega) hgw (by rw [hbsl.out]; exact HO.out) HG.out rfl hZl hZ2 hZ1 hnx1 (by omega) (by omega) (by omega) hBr hrs hsb hbg hgg
            rw [hbsl.out, show ((nx + nx / 2 : Nat) : Int) = (nx : Int) + (nx : Int) / 2 from by omega, show (((flat ps).length + (bytes.length + n) : Nat) : Int) = ((flat ps).length : Int) + ((bytes.length : Int) + (n : Int)) from by omega] at R
            exact R
          case measure => have := htotE.out; simp [intOf, lenOf]; omega
        · go_wp2_with fail
          go_roundw
          case rel =>
            have R := rel_stay HM.out (by rw [hbsl.out]; omega) HCM.out hc256 hnx1 hnx2 hnx3 hgw
            rw [hbsl.out] at R
            exact R
          case measure => have := htotE.out; simp [intOf, lenOf]; omega
      · obtain ⟨cur', m1, m2, m3, hown3, hps3, hS3, hbf3, he3, hC3⟩ := HM.out
        have heq := eof_same x
        have hSf : Hid (S0 = flat ps ++ (bytes ++ S.take n)) := by show _ = _; rw [hS3, hend, List.append_nil]
        have HC3 : Hid (Chg (fun k => k = sb ∨ k = bb ∨ k = gb) w wc) := hC3
        have HM1 : Hid (Blk wc gB cur' 5) := m1
        have HM3 : Hid (cur'.take (bytes ++ S.take n).length = ints (bytes ++ S.take n)) := m3
        have hlen : Hid (S0.length = (flat ps).length + (bytes.length + n)) := by show _ = _; rw [hSf.out, List.length_append, hbsl.out]
        by_cases hp0 : ps.length = 0
        · have hl0 : ((ps.length : Int) == 0) = true := by simp [hp0]
          have hf0 : flat ps = [] := by rw [nil_of_length hp0]; rfl
          have HF0 : Hid (flat ps = []) := hf0
          clear m1 m2 m3 hown3 hps3 hS3 hbf3 hC3 hend hf0 HM
          go_wp2_with fail
          go_ret2
          refine ⟨_, _, ret_len (by rw [hlen.out, HF0.out]; simp), ?_, fun y hy => by cases hy; exact hgw, HC3.out⟩
          rw [hSf.out, HF0.out, List.nil_append]
          exact rd_of_news HM1.out.lt (by rw [hbsl.out]; omega) (blk_news HM1.out HM3.out)
        · have hl0 : ((ps.length : Int) == 0) = false := beq_eq_false_iff_ne.mpr (by omega)
          obtain ⟨gK, rfl⟩ := own_addr hown3 (by omega)
          obtain ⟨cap', Z, hzr, hZl, hZ1, hZ2⟩ := zeros_run wc 22 ((flat ps).length + (bytes.length + n)) (by omega) (by omega)
          rw [show (((flat ps).length + (bytes.length + n) : Nat) : Int) = ((flat ps).length : Int) + ((bytes.length : Int) + (n : Int)) from by omega] at hzr
          have HOW : Hid (wc.ownsRow w.heap.size 22 1 (.slice (some ⟨gK, 0, none⟩) ps.length cc) ps.length (ps.map Piece.val)) := hown3
          have HPS : Hid (∀ p ∈ ps, Held wc p ∧ w.heap.size ≤ p.blk ∧ p.blk ≠ gB) := hps3
          clear m1 m2 m3 hown3 hps3 hS3 hbf3 hC3 hend HM
          go_wp2_with (at_builtin; refine Lib.wpList_append_run wc rfl _ _ 22 3 rfl (.slice none 0 0) (.int .i64 (((flat ps).length : Int) + ((bytes.length : Int) + (n : Int)))) rfl rfl _ _ hzr ?_)
          have hO5 : (wc.alloc (.cells Z.toArray 5)).drew.ownsRow wc.heap.size 5 1 (.slice (some ⟨wc.heap.size, 0, none⟩) 0 cap') 0 [] := (World.ownsRow_made wc Z.toArray cap' (Nat.le_refl _) hZ2 (by simpa using hZl)).drew
          have hC5 : Chg (fun _ => False) wc (wc.alloc (.cells Z.toArray 5)).drew := (Chg.alloc _ wc _).trans (Chg.drew _ _)
          have HC5 : Hid (Chg (fun _ => False) wc (wc.alloc (.cells Z.toArray 5)).drew) := hC5
          have hlow : Hid (∀ p ∈ ps, p.blk < wc.heap.size) := fun p hp => by obtain ⟨⟨c, hb, _⟩, _⟩ := HPS.out p hp; exact hb.lt
          have hgKl : Hid (gK < wc.heap.size) := (HOW.out.lt gK rfl).2
          have hgBl : Hid (gB < wc.heap.size) := HM1.out.lt
          generalize (wc.alloc (.cells Z.toArray 5)).drew = w5 at *
          obtain ⟨F, hF⟩ : ∃ F, wc.heap.size = F := ⟨_, rfl⟩
          rw [hF] at hO5 hlow hgKl hgBl
          have HF : Hid (wc.heap.size = F) := hF
          simp only [hF]
          clear hzr hZl hF hC5 heq he3
          go_loopw [10, 54] (fun fin idx wx => ∃ j : Nat, j ≤ ps.length ∧ idx = .int .i64 j ∧ fin = .slice (some ⟨F, 0, none⟩) (flat (ps.take j)).length cap' ∧ wx.ownsRow F 5 1 (.slice (some ⟨F, 0, none⟩) (flat (ps.take j)).length cap') (flat (ps.take j)).length (ints (flat (ps.take j))) ∧ Chg (fun k => k = F) w5 wx) (fun _ idx _ => ps.length - (intOf idx).toNat)
          case atStart => exact ⟨0, Nat.zero_le _, rfl, rfl, hO5, Chg.refl _ _⟩
          case round =>
            obtain ⟨j, hj, rfl, rfl, hox, hCx⟩ := hrel
            have hft := flat_take_le ps j
            have HOX : Hid (wr.ownsRow F 5 1 (.slice (some ⟨F, 0, none⟩) (flat (ps.take j)).length cap') (flat (ps.take j)).length (ints (flat (ps.take j)))) := hox
            have HCX : Hid (Chg (fun k => k = F) wc wr) := (HC5.out.mono (fun _ _ h => absurd h (fun h => h))).trans hCx
            have HCY : Hid (Chg (fun k => k = F) w5 wr) := hCx
            by_cases hjl : j < ps.length
            · obtain ⟨q, hq⟩ : ∃ q, ps[j]? = some q := ⟨_, List.getElem?_eq_getElem hjl⟩
              have hqm : q ∈ ps := List.mem_of_getElem? hq
              have hqh : Hid (Held wr q) := held_chg (HPS.out q hqm).1 HCX.out (by have := hlow.out q hqm; omega)
              have hcell : wr.cell? ⟨gK, j, none⟩ = some (.slice (some ⟨q.blk, 0, none⟩) q.bs.length q.cap) := by
                have := (ownsRow_chg HOW.out HCX.out (fun k hk => by simp [Value.ownBlock] at hk; have := hgKl.out; omega)).cellAt j (by omega)
                rw [this]
                simp [hq, Piece.val]
              have hfs : Hid (flat (ps.take (j + 1)) = flat (ps.take j) ++ q.bs) := flat_succ ps j q hq
              have hfl : (flat (ps.take j)).length + q.bs.length ≤ (flat ps).length := by
                have := flat_take_le ps (j + 1)
                rw [hfs.out, List.length_append] at this
                exact this
              have hji : (j : Int) < (ps.length : Int) := by omega
              have hnl : Hid ((ints q.bs).length = q.bs.length * 1) := by show _ = _; rw [ints_length]; omega
              clear hox hCx hq hqm
              go_wp2_with (at_builtin; refine wpList_append_fits wr rfl (.tmp 58) (.tmp 59) 22 rfl F 5 i0 1 Tryd.underlying22 hi hz1 F (flat (ps.take j)).length cap' (ints (flat (ps.take j))) rfl HOX.out ⟨q.blk, 0, none⟩ q.bs.length q.cap (ints q.bs) rfl hnl.out (held_news hqh.out) (ints_one _) (by omega) ?_; intro w6 hown6 hgrow6)
              go_roundw
              case rel =>
                refine ⟨j + 1, by omega, by go_num, by rw [hfs.out, List.length_append], ?_, HCY.out.trans (Chg.grown hgrow6 (fun k e => by simpa using e.symm))⟩
                rw [hfs.out, List.length_append, show ints (flat (List.take j ps) ++ q.bs) = ints (flat (List.take j ps)) ++ ints q.bs by simp [ints]]
                exact hown6
              case measure => simp [intOf]; omega
            · obtain rfl : j = ps.length := by omega
              simp only [List.take_length] at HOX ⊢
              have hnl : Hid ((ints (bytes ++ S.take n)).length = (bytes.length + n) * 1) := by show _ = _; rw [ints_length, hbsl.out]; omega
              have hnw : Hid (∀ j u, (ints (bytes ++ S.take n))[j]? = some u → wr.cell? ((⟨gB, 0, none⟩ : Addr).add j) = some u) := blk_news (HM1.out.chg HCX.out (by have := hgBl.out; omega)) HM3.out
              clear hox hCx
              go_wp2_with (at_builtin; refine wpList_append_fits wr rfl (.tmp 62) (.tmp 63) 22 rfl F 5 i0 1 Tryd.underlying22 hi hz1 F (flat ps).length cap' (ints (flat ps)) rfl HOX.out ⟨gB, 0, none⟩ (bytes.length + n) capB (ints (bytes ++ S.take n)) rfl hnl.out hnw.out (ints_one _) (by omega) ?_; intro w6 hown6 hgrow6)
              go_ret2
              have hfin : ints (flat ps) ++ ints (bytes ++ S.take n) = ints S0 := by rw [hSf.out]; simp [ints]
              rw [hfin] at hown6
              refine ⟨_, _, ret_len hlen.out.symm, ?_, fun y hy => by cases hy; have := HC3.out.size; have := HF.out; show w.heap.size ≤ F; omega, ?_⟩
              · have hlt := (hown6.lt F rfl).2
                refine rd_of_news hlt (by rw [hlen.out]; omega) (hown6.cells rfl)
              · refine (HC3.out.trans2 (T := fun k => k = F) HCX.out (fun k hk e => ?_)).trans2 (T := fun k => k = F) (Chg.grown hgrow6 (fun k e => by simpa using e.symm)) (fun k hk e => ?_)
                · have := HC3.out.size; have := HF.out; omega
                · have := HC3.out.size; have := HF.out; omega
end Go.Proofs.Qxb6608512aDoor
