/- FnJoin: what it computes. -/
import Derived.Test.YtfnejblenapddaaDoorJoinM
set_option linter.unusedVariables false
namespace Go.Proofs.YtfnejblenapddaaDoor
open Go Go.RowKit

theorem Fresh.rd_grown {base : Nat} {w w' : World} {v : Value} {bs : List UInt8} {row : Option Nat} (h : Fresh base w v bs) (hg : w.grownBy w' row) (hr : ∀ k, row = some k → k < base) : Rd w' v bs := by
  obtain ⟨A, c, b, rfl, h2, h3, h4, h5, h6⟩ := h
  refine ⟨A, c, rfl, h2, h3, fun hA => ?_, fun hp => ⟨b, 0, h4 hp, h5.of_eq fun hlt => hg.block b hlt (fun hk => ?_)⟩⟩
  · rcases Nat.eq_zero_or_pos bs.length with h0 | h0
    · exact List.eq_nil_of_length_eq_zero h0
    · exact absurd (hA.symm.trans (h4 h0)) (by simp)
  · have h1 := h6 hp
    have h2 := hr b (by first | exact hk | exact hk.symm)
    omega

/-- impl.Decode of a header and elements. -/
theorem decF_of (a : Addr) (v : Value) (fin E : List UInt8) (n : Nat) (w : World) (hn : fin.length = n) (hn2 : n ≤ 2147483647) (hE : Ev E [] fin) (hlen : (Lib.uvarint n ++ E).length ≤ 1099511627776) (hR : Rd w v (Lib.uvarint n ++ E)) (hEr : Er a w) :
    Calls Tryd.prog 14 #[v] w (UntoldF (some fin) w) := by
  have h := implDecF_hdr a v (Lib.uvarint n) E n w (hdr_uvarint _) (hdr9 _ hn2) (by omega) hR hlen hEr
  rw [← hn, hE.D] at h
  exact h

set_option maxRecDepth 100000 in
set_option maxHeartbeats 4000000 in
theorem joinCore (a : Addr) (A B : Option Addr) (la ca lb cb : Nat) (x y : List UInt8) (w : World) (hla : x.length = la) (hlb : y.length = lb) (ha : la ≤ 1000000) (hb : lb ≤ 1000000)
    (hRa : Rd w (.slice A la ca) x) (hRb : Rd w (.slice B lb cb) y) (hAa : Arg (.slice A la ca)) (hAb : Arg (.slice B lb cb)) (hE : Er a w) : Calls Tryd.prog 8 #[.slice A la ca, .slice B lb cb] w (Law w) := by
  have hca := common_yes A la ca w ha
  have hcb := common_yes B lb cb w hb
  have hva := varint_at ((la : Int) + (lb : Int)) (la + lb) w (by omega) (by omega)
  have ha1 : ((2147483647 : Int) < (la : Int)) = False := by simp; omega
  have hb1 : ((2147483647 : Int) < (lb : Int)) = False := by simp; omega
  have Hca := Lib.hid hca
  have Hcb := Lib.hid hcb
  have Hva := Lib.hid hva
  have HRa := Lib.hid hRa
  have HRb := Lib.hid hRb
  have HAa := Lib.hid hAa
  have HAb := Lib.hid hAb
  have HE := Lib.hid hE
  have Hla := Lib.hid hla
  have Hlb := Lib.hid hlb
  clear hca hcb hva hRa hRb hAa hAb hE hla hlb
  go_enter Tryd.func8, Tryd.ntmps8
  go_wp2_with fail
  refine (Hca.out).mono ?_
  rintro e w1 ⟨rfl, rfl⟩
  clear Hca
  go_wp2_with fail
  refine (Hcb.out).mono ?_
  rintro e w2 ⟨rfl, rfl⟩
  clear Hcb
  go_wp2_with fail
  refine (Hva.out).mono ?_
  rintro e w3 ⟨v5, rfl, ho5, hb3⟩
  have henc := implEnc_any (.slice A la ca) x w3 (HRa.out.below hb3) (by rw [Hla.out]; omega)
  have Ho5 := Lib.hid ho5
  have HB3 := Lib.hid hb3
  have Henc := Lib.hid henc
  clear ho5 hb3 henc Hva
  go_wp2_with fail
  refine (Henc.out).mono ?_
  rintro e w4 ⟨v4, blkA, EA, rfl, hR4, hb4, hEvA, hblkA, hlenA⟩
  rw [Hla.out] at hlenA hblkA
  have hll : la ≤ 2097151 := by omega
  have hb := bodyA_any v4 (Lib.uvarint la) EA la w4 (hdr_uvarint _) (Nat.le_trans (Lib.uvarint_length 2 la (by omega)) (by omega)) (by omega) (by rw [← hblkA]; exact hR4) (by rw [← hblkA]; omega)
  have Hbd := Lib.hid hb
  have HB4 := Lib.hid (HB3.out.trans (hb4.mono HB3.out.size))
  have Ho54 := Lib.hid (Ho5.out.below hb4)
  have HEvA := Lib.hid hEvA
  have hlEA : EA.length ≤ 2000000 := by rw [hblkA, List.length_append] at hlenA; omega
  clear hb hR4 hb4 hEvA hblkA hlenA Henc Ho5
  go_wp2_with fail
  refine (Hbd.out).mono ?_
  rintro e w5 ⟨v6, rfl, hR6, hd5, hA6⟩
  have hb5 := hd5.below w4.heap.size
  have Ho55 := Lib.hid (Ho54.out.below hb5)
  have HB5 := Lib.hid (HB4.out.trans (hb5.mono HB4.out.size))
  have HR6 := Lib.hid hR6
  have HA6 := Lib.hid hA6
  have hul := Lib.uvarint_length64 (x := la + lb) (by omega)
  have hl1 : (Lib.uvarint (la + lb)).length + EA.length ≤ 1099511627776 := by omega
  have hs5 := HB5.out.size
  clear hR6 hd5 hA6 hb5 Ho54 Hbd
  go_wp2_with (at_builtin; go_loud (refine wpList_appA rfl (.tmp 29) (.tmp 32) rfl w2.heap.size _ (Lib.uvarint (la + lb)) rfl Ho55.out _ EA rfl HR6.out HA6.out hl1 hs5 ?_); intro v' w' hown' hb' hg'; have HO := Lib.hid hown'; have HB' := Lib.hid hb'; clear hown' hb' hg')
  have HB6 := Lib.hid (HB5.out.trans HB'.out)
  have henc2 := implEnc_any (.slice B lb cb) y w' (HRb.out.below HB6.out) (by rw [Hlb.out]; omega)
  have Henc2 := Lib.hid henc2
  clear henc2 HB' hs5 hl1
  refine (Henc2.out).mono ?_
  rintro e w7 ⟨v7', blkB, EB, rfl, hR7, hb7, hEvB, hblkB, hlenB⟩
  rw [Hlb.out] at hlenB hblkB
  have hbB := bodyA_any v7' (Lib.uvarint lb) EB lb w7 (hdr_uvarint _) (Nat.le_trans (Lib.uvarint_length 2 lb (by omega)) (by omega)) (by omega) (by rw [← hblkB]; exact hR7) (by rw [← hblkB]; omega)
  have HbdB := Lib.hid hbB
  have HB7 := Lib.hid (HB6.out.trans (hb7.mono HB6.out.size))
  have HO7 := Lib.hid (HO.out.below hb7)
  have HEvB := Lib.hid hEvB
  have hlEB : EB.length ≤ 2000000 := by rw [hblkB, List.length_append] at hlenB; omega
  clear hbB hR7 hb7 hEvB hblkB hlenB Henc2 HO
  go_wp2_with fail
  refine (HbdB.out).mono ?_
  rintro e w8 ⟨v8, rfl, hR8, hd8, hA8⟩
  have hb8 := hd8.below w7.heap.size
  have HO8 := Lib.hid (HO7.out.below hb8)
  have HB8 := Lib.hid (HB7.out.trans (hb8.mono HB7.out.size))
  have HR8 := Lib.hid hR8
  have HA8 := Lib.hid hA8
  have hl2 : (Lib.uvarint (la + lb) ++ EA).length + EB.length ≤ 1099511627776 := by rw [List.length_append]; omega
  have hs8 := HB8.out.size
  clear hR8 hd8 hA8 hb8 HO7 HbdB
  go_upto_region 8 with (at_builtin; go_loud (refine wpList_appA rfl (.tmp 34) (.tmp 37) rfl w2.heap.size _ (Lib.uvarint (la + lb) ++ EA) rfl HO8.out _ EB rfl HR8.out HA8.out hl2 hs8 ?_); intro v9 w9 hown9 hb9 hg9; have HO9 := Lib.hid hown9; have HB9' := Lib.hid hb9; clear hown9 hb9 hg9)
  have HB9 := Lib.hid (HB8.out.trans HB9'.out)
  have hownN : (w9.alloc (.cells #[] 5)).ownsRow w9.heap.size 5 1 (.slice (some ⟨w9.heap.size, 0, none⟩) 0 0) 0 [] := World.ownsRow_made w9 #[] 0 (Nat.le_refl _) (by simp [maxLen]) rfl
  have hOwnN : Own w9.heap.size (w9.alloc (.cells #[] 5)) (.slice (some ⟨w9.heap.size, 0, none⟩) 0 0) [] := hownN
  have hbN := (Below.refl w9.heap.size w9).alloc (Nat.le_refl _) (.cells #[] 5)
  have HN := Lib.hid hOwnN
  have HbN := Lib.hid hbN
  have HRaN := Lib.hid (HRa.out.below (HB9.out.trans (hbN.mono HB9.out.size)))
  have hl3 : ([] : List UInt8).length + x.length ≤ 1099511627776 := by rw [Hla.out]; simp; omega
  have hsN := hbN.size
  clear hownN hOwnN hbN hl2 hs8 HB9'
  go_upto_region 9 with (at_builtin; go_loud (refine wpList_appA rfl (.tmp 39) (.tmp 40) rfl w9.heap.size _ [] rfl HN.out _ x rfl HRaN.out HAa.out hl3 hsN ?_); intro v10 w10 hown10 hb10 hg10; have HO10 := Lib.hid hown10; have HB10' := Lib.hid hb10; clear hown10 hb10 hg10)
  have hbA := HbN.out.trans HB10'.out
  have HB10 := Lib.hid (HB9.out.trans (hbA.mono HB9.out.size))
  have hR9 : Rd w10 v9 (Lib.uvarint (la + lb) ++ (EA ++ EB)) := by
    have h9 := (HO9.out.below hbA).rd
    rw [List.append_assoc] at h9
    exact h9
  have hl4 : (Lib.uvarint (la + lb) ++ (EA ++ EB)).length ≤ 1099511627776 := by rw [List.length_append, List.length_append]; omega
  have hlab : (x ++ y).length = la + lb := by rw [List.length_append, Hla.out, Hlb.out]
  have hdec := decF_of a v9 (x ++ y) (EA ++ EB) (la + lb) w10 hlab (by omega) (HEvA.out.join HEvB.out) hl4 hR9 (HE.out.below HB10.out)
  have Hdec := Lib.hid hdec
  have HLab := Lib.hid hlab
  have Hblk := Lib.hid (HO10.out.blockLt)
  clear hdec hbA hR9 hl3 hsN hlab hl4 hlEA hlEB hul
  go_wp2_with fail
  refine (Hdec.out).mono ?_
  rintro e w11 ⟨hb11, vT, rfl, hFT⟩
  have HB11 := Lib.hid (HB10.out.trans (hb11.mono HB10.out.size))
  have HO11 := Lib.hid (HO10.out.below hb11)
  have HFT := Lib.hid hFT
  have HRb11 := Lib.hid (HRb.out.below HB11.out)
  have hl5 : ([] ++ x : List UInt8).length + y.length ≤ 1099511627776 := by rw [List.nil_append, Hla.out, Hlb.out]; omega
  have hb9s : w9.heap.size ≤ w11.heap.size := Nat.le_trans (HbN.out.trans HB10'.out).size hb11.size
  have hs2 : w2.heap.size ≤ w9.heap.size := HB9.out.size
  clear hFT hb11 Hdec
  go_wp2_with (at_builtin; go_loud (refine wpList_appA rfl (.tmp 44) (.tmp 45) rfl w9.heap.size _ ([] ++ x) rfl HO11.out _ y rfl HRb11.out HAb.out hl5 hb9s ?_); intro v12 w12 hown12 hb12 hg12; have HO12 := Lib.hid hown12; have HB12' := Lib.hid hb12; have HG12 := Lib.hid hg12; clear hown12 hb12 hg12)
  have hRT := HFT.out.rd_grown HG12.out (fun k hk => by have := Hblk.out k hk; omega)
  have hR12 : Rd w12 v12 (x ++ y) := by
    have h12 := HO12.out.rd
    rw [List.nil_append] at h12
    exact h12
  have hs := says_rd vT v12 (x ++ y) w12 hRT hR12 (by rw [HLab.out]; omega)
  have HB12 := Lib.hid (HB11.out.trans (HB12'.out.mono hs2))
  have Hs := Lib.hid hs
  clear hs hRT hR12 hb9s hs2 hl5
  refine (Hs.out).mono ?_
  rintro e w13 ⟨rfl, hb13⟩
  have HB13 := Lib.hid (HB12.out.trans (hb13.mono HB12.out.size))
  clear hb13
  go_wp2_with fail
  go_ret
  exact ⟨rfl, HB13.out⟩

set_option maxHeartbeats 1600000 in
theorem lawJoin (a : Addr) (va vb : Value) (x y : List UInt8) (w : World) (hRa : Rd w va x) (hAa : Arg va) (hRb : Rd w vb y) (hAb : Arg vb) (hE : Er a w) : Calls Tryd.prog 8 #[va, vb] w (Law w) := by
  have hRa0 := hRa
  have hRb0 := hRb
  obtain ⟨A, ca, rfl, ha2, ha3, -, -⟩ := hRa
  obtain ⟨B, cb, rfl, hb2, hb3, -, -⟩ := hRb
  obtain ⟨la, hla⟩ : ∃ la, x.length = la := ⟨_, rfl⟩
  obtain ⟨lb, hlb⟩ : ∃ lb, y.length = lb := ⟨_, rfl⟩
  rw [hla] at hRa0 hAa ⊢
  rw [hlb] at hRb0 hAb ⊢
  by_cases h1 : la ≤ 2147483647
  · have h1f : ((2147483647 : Int) < (la : Int)) = False := by simp; omega
    by_cases h2 : lb ≤ 2147483647
    · have h2f : ((2147483647 : Int) < (lb : Int)) = False := by simp; omega
      by_cases h3 : la ≤ 1000000
      · by_cases h4 : lb ≤ 1000000
        · exact joinCore a A B la ca lb cb x y w hla hlb h3 h4 hRa0 hRb0 hAa hAb hE
        · have hca := common_yes A la ca w h3
          have hcb := common_no B lb cb w h4
          have Hca := Lib.hid hca
          have Hcb := Lib.hid hcb
          clear hca hcb hRa0 hRb0 hAa hAb hE hla hlb
          go_enter Tryd.func8, Tryd.ntmps8
          go_wp2_with fail
          refine (Hca.out).mono ?_
          rintro e w1 ⟨rfl, rfl⟩
          go_wp2_with fail
          refine (Hcb.out).mono ?_
          rintro e w2 ⟨rfl, rfl⟩
          go_wp2_with fail
          go_ret
          exact ⟨rfl, Below.refl _ _⟩
      · have hca := common_no A la ca w h3
        have Hca := Lib.hid hca
        clear hca hRa0 hRb0 hAa hAb hE hla hlb
        go_enter Tryd.func8, Tryd.ntmps8
        go_wp2_with fail
        refine (Hca.out).mono ?_
        rintro e w1 ⟨rfl, rfl⟩
        go_wp2_with fail
        go_ret
        exact ⟨rfl, Below.refl _ _⟩
    · have hb1 : ((2147483647 : Int) < (lb : Int)) = True := by simp; omega
      clear hRa0 hRb0 hAa hAb hE hla hlb
      go_enter Tryd.func8, Tryd.ntmps8
      go_wp2_with fail
      go_ret
      exact ⟨rfl, Below.refl _ _⟩
  · have hb1 : ((2147483647 : Int) < (la : Int)) = True := by simp; omega
    clear hRa0 hRb0 hAa hAb hE hla hlb
    go_enter Tryd.func8, Tryd.ntmps8
    go_wp2_with fail
    go_ret
    exact ⟨rfl, Below.refl _ _⟩
end Go.Proofs.YtfnejblenapddaaDoor
