import Derived.Test.Qxb6608512aDoorBuf3
namespace Go.Proofs.Qxb6608512aDoor
open Go.RowKit

/-- A bufio.Reader over a section: what it still gives, in all, is S. -/
def Bf (w : World) (B rb sb bb gb : Nat) (zs : List Int) (ev : Value) (S : List Int) : Prop :=
  ∃ (off lim r wp : Nat) (err v5 v6 : Value) (buf : List Value) (pend : List Int), Src w B rb zs ∧ Sec w sb rb off lim ∧ lim ≤ maxLen ∧
    Blk w bb [.slice (some ⟨gb, 0, none⟩) 32768 32768, .iface 49 (.pointer (some ⟨sb, 0, none⟩)), .int .i64 r, .int .i64 wp, err, v5, v6] 60 ∧
    Blk w gb buf 5 ∧ buf.length = 32768 ∧ r ≤ wp ∧ wp ≤ 32768 ∧ (buf.drop r).take (wp - r) = ints pend ∧ S = pend ++ rest zs off lim ∧ (err = .nilIface ∨ (err = ev ∧ rest zs off lim = []))

theorem ints_nil {zs : List Int} (h : ints zs = []) : zs = [] := by simpa [ints] using h
theorem ints_nil' : ints [] = [] := rfl

theorem splice_length {α : Type} (L : List α) (o : Nat) (cs : List α) (h : o + cs.length ≤ L.length) : (splice L o cs).length = L.length := length_splice L o cs h

theorem splice_zero {α : Type} (L cs : List α) (n : Nat) (h : cs.length = n) : (splice L 0 cs).take n = cs := by
  unfold splice
  rw [List.take_zero, List.nil_append, List.take_append_of_le_length (by omega), List.take_of_length_le (by omega)]

theorem bufRead_any (w : World) (B rb sb bb gb : Nat) (zs : List Int) (T : Nat) (x : Addr) (S : List Int) (g o plen pcap : Nat) (cur : List Value) (t : TypeId)
    (hz : zs.length ≤ 1048576) (he : w.cell? ⟨0, 0, none⟩ = some (.iface T (.pointer (some x)))) (h : Bf w B rb sb bb gb zs (.iface T (.pointer (some x))) S)
    (hg : Blk w g cur t) (hfit : o + plen ≤ cur.length) (hp : 0 < plen) (hpc : plen ≤ pcap) (hB0 : 0 < B) (hBr : B ≤ rb) (hrs : rb < sb) (hsb : sb < bb) (hbg : bb < gb) (hgg : gb < g) :
    Calls Tryd.prog 42 #[.pointer (some ⟨bb, 0, none⟩), .slice (some ⟨g, o, none⟩) plen pcap] w fun e w' => ∃ n err, e = .returned (.tuple #[.int .i64 ((n : Nat) : Int), err]) ∧ n ≤ plen ∧ n ≤ S.length ∧
      Blk w' g (splice cur o (ints (S.take n))) t ∧ Bf w' B rb sb bb gb zs (.iface T (.pointer (some x))) (S.drop n) ∧ Chg (fun k => k = g ∨ k = sb ∨ k = bb ∨ k = gb) w w' ∧
      ((err = .nilIface ∧ 0 < n) ∨ (err = .iface T (.pointer (some x)) ∧ S.drop n = [])) := by
  obtain ⟨off, lim, r, wp, er, v5, v6, buf, pend, hr, hs, hl, hb, hbuf, hbl, hrw, hw, hpd, rfl, her⟩ := h
  have hpl : pend.length = wp - r := by
    have := congrArg List.length hpd
    rw [ints_length] at this
    simp at this; omega
  have hbs := hb.lt
  by_cases h1 : r < wp
  · refine (bufRead_have w bb gb r wp _ er v5 v6 buf pend g o plen pcap cur t hb hbuf hbl h1 hw hpd hg hfit hp (by omega) (by omega) (by omega)).mono ?_
    rintro e w' ⟨n, v5', v6', rfl, hn, hB, hbb, hC⟩
    have hnp : n ≤ pend.length := by omega
    refine ⟨n, _, rfl, by omega, by rw [List.length_append]; omega, by rw [List.take_append_of_le_length hnp]; exact hB, ?_, hC.mono (fun k _ h => by rcases h with h | h; exact .inl h; exact .inr (.inr (.inl h))), .inl ⟨rfl, by omega⟩⟩
    refine ⟨off, lim, r + n, wp, er, v5', v6', buf, pend.drop n, src_chg hr hC (by omega) (by omega) (fun k hk => by omega), sec_chg hs hC (by omega), hl, hbb, hbuf.chg hC (by omega), hbl, by omega, hw, ?_, by rw [List.drop_append_of_le_length hnp], her⟩
    rw [← ints_drop, ← hpd, List.drop_take, List.drop_drop, Nat.sub_sub]
  · obtain rfl : r = wp := by omega
    obtain rfl : pend = [] := nil_of_length (by omega)
    rw [List.nil_append]
    rcases her with rfl | ⟨rfl, hrest⟩
    · by_cases h2 : 32768 ≤ plen
      · refine (bufRead_big w B rb sb bb off lim zs T x r g o plen pcap v5 v6 gb cur t hz hr hs hl he hb hg hfit (by omega) h2 hpc (by omega) (by omega) (by omega)).mono ?_
        rintro e w' ⟨n, err, v5', v6', rfl, hn, hB, hS, hbb, hC, her⟩
        refine ⟨n, err, rfl, by omega, by omega, hB, ?_, hC.mono (fun k _ h => by rcases h with h | h | h; exact .inl h; exact .inr (.inl h); exact .inr (.inr (.inl h))), by rw [← rest_step]; exact her⟩
        exact ⟨off + n, lim, r, r, .nilIface, v5', v6', buf, [], src_chg hr hC (by omega) (by omega) (fun k hk => by omega), hS, hl, hbb, hbuf.chg hC (by omega), hbl, Nat.le_refl _, hw, hpd, by rw [List.nil_append, rest_step], .inl rfl⟩
      · by_cases hgood : Good zs off lim 32768
        · refine (bufRead_small_nil w B rb sb bb gb off lim zs T x r g o plen pcap v5 v6 buf cur t hr hs hl he hb hbuf hbl hg hfit hp (by omega) hB0 hBr hrs hsb hbg hgg hgood).mono ?_
          rintro e w' ⟨n0, hn0, hpos, hS, hC, hB, hcase⟩
          rcases hcase with ⟨h0, _⟩ | ⟨_, n, v5', v6', hn, rfl, hGg, hbb⟩
          · omega
          · refine ⟨n, _, rfl, by omega, by omega, hGg, ?_, hC, .inl ⟨rfl, by omega⟩⟩
            refine ⟨off + n0, lim, n, n0, .nilIface, v5', v6', _, ((rest zs off lim).take n0).drop n, src_chg hr hC (by omega) (by omega) (fun k hk => by omega), hS, hl, hbb, hB, ?_, by omega, by omega, ?_, ?_, .inl rfl⟩
            · rw [splice_length _ _ _ (by rw [ints_length, List.length_take]; omega)]; exact hbl
            · rw [← List.drop_take, splice_zero _ _ n0 (by rw [ints_length, List.length_take]; omega), ints_drop]
            · rw [rest_step]
              have := List.take_append_drop n0 (rest zs off lim)
              conv => lhs; rw [← this]
              rw [List.drop_append_of_le_length (by rw [List.length_take]; omega)]
        · refine (bufRead_small_eof w B rb sb bb gb off lim zs T x r g o plen pcap v5 v6 buf cur t hr hs hl he hb hbuf hbl hg hfit hp (by omega) hB0 hBr hrs hsb hbg hgg hgood).mono ?_
          rintro e w' ⟨n0, hn0, hend, hS, hC, hB, hcase⟩
          rcases hcase with ⟨rfl, rfl, hGg, hbb⟩ | ⟨_, n, v5', v6', hn, rfl, hGg, hbb⟩
          · have hnil : rest zs off lim = [] := by simpa using hend
            refine ⟨0, _, rfl, by omega, by omega, ?_, ?_, hC, .inr ⟨rfl, by rw [hnil]; rfl⟩⟩
            · rw [List.take_zero, ints_nil', splice_nil]; exact hGg
            · rw [List.take_zero, ints_nil', splice_nil] at hB
              exact ⟨off + 0, lim, 0, 0, .nilIface, v5, v6, buf, [], src_chg hr hC (by omega) (by omega) (fun k hk => by omega), hS, hl, hbb, hB, hbl, Nat.le_refl _, by omega, by simp [ints], by simp, .inl rfl⟩
          · refine ⟨n, _, rfl, by omega, by omega, hGg, ?_, hC, .inl ⟨rfl, by omega⟩⟩
            refine ⟨off + n0, lim, n, n0, _, v5', v6', _, ((rest zs off lim).take n0).drop n, src_chg hr hC (by omega) (by omega) (fun k hk => by omega), hS, hl, hbb, hB, ?_, by omega, by omega, ?_, ?_, .inr ⟨rfl, hend⟩⟩
            · rw [splice_length _ _ _ (by rw [ints_length, List.length_take]; omega)]; exact hbl
            · rw [← List.drop_take, splice_zero _ _ n0 (by rw [ints_length, List.length_take]; omega), ints_drop]
            · rw [rest_step]
              have := List.take_append_drop n0 (rest zs off lim)
              conv => lhs; rw [← this]
              rw [List.drop_append_of_le_length (by rw [List.length_take]; omega)]
    · refine (bufRead_err w bb r plen pcap T x _ _ _ v5 v6 hb hp).mono ?_
      rintro e w' ⟨rfl, hbb, hC⟩
      refine ⟨0, _, rfl, by omega, by omega, ?_, ?_, hC.mono (fun k _ h => .inr (.inr (.inl h))), .inr ⟨rfl, by rw [hrest]; rfl⟩⟩
      · rw [List.take_zero, ints_nil', splice_nil]; exact hg.chg hC (by omega)
      · exact ⟨off, lim, r, r, .nilIface, v5, v6, buf, [], src_chg hr hC (by omega) (by omega) (fun k hk => by omega), sec_chg hs hC (by omega), hl, hbb, hbuf.chg hC (by omega), hbl, Nat.le_refl _, hw, hpd, by simp, .inl rfl⟩
end Go.Proofs.Qxb6608512aDoor
