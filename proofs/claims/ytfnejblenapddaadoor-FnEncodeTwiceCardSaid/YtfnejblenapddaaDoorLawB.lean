/- FnEncodeTwice: what it computes. -/
import Derived.Test.YtfnejblenapddaaDoorLawA
set_option linter.unusedVariables false
namespace Go.Proofs.YtfnejblenapddaaDoor
open Go Go.RowKit

set_option maxHeartbeats 1600000 in
theorem lawEncodeTwice (a : Addr) (v : Value) (bs : List UInt8) (w : World) (hR : Rd w v bs) (hE : Er a w) : Calls Tryd.prog 7 #[v] w (Law w) := by
  have hR0 := hR
  obtain ⟨A, c, rfl, h2, h3, -, -⟩ := hR
  have HR := Lib.hid hR0
  have HE := Lib.hid hE
  obtain ⟨n, hn⟩ : ∃ n, bs.length = n := ⟨_, rfl⟩
  have Hn := Lib.hid hn
  rw [hn] at h2 ⊢
  clear hR0 hE hn
  by_cases hbig : n ≤ 2147483647
  · by_cases hc : n ≤ 1000000
    · have hcom := common_yes A n c w hc
      have henc := implEnc_any (.slice A n c) bs w (by rw [← Hn.out]; exact HR.out) (by rw [Hn.out]; omega)
      have Hcom := Lib.hid hcom
      have Henc := Lib.hid henc
      clear hcom henc
      go_enter Tryd.func7, Tryd.ntmps7
      go_wp2_with fail
      refine (Hcom.out).mono ?_
      rintro e w1 ⟨rfl, rfl⟩
      clear Hcom
      go_wp2_with fail
      refine (Henc.out).mono ?_
      rintro e w2 ⟨v2, blk, E, rfl, hR2, hb2, hEv, hblk, hlen⟩
      rw [Hn.out] at hlen
      have henc2 := implEnc_any v2 blk w2 hR2 (by omega)
      have Henc2 := Lib.hid henc2
      have Hb2 := Lib.hid hb2
      have HEv := Lib.hid hEv
      have Hblk := Lib.hid hblk
      clear henc2 hR2 hb2 hEv Henc hblk
      go_wp2_with fail
      refine (Henc2.out).mono ?_
      rintro e w3 ⟨v3, blk3, E3, rfl, hR3, hb3, hEv3, rfl, hlen3⟩
      have hB3 := Hb2.out.trans (hb3.mono Hb2.out.size)
      have hdec := dec_of_enc a v3 blk E3 w3 (by omega) hEv3 (by omega) hR3 (HE.out.below hB3)
      have Hdec := Lib.hid hdec
      have HB3 := Lib.hid hB3
      clear hdec hR3 hb3 hEv3 hlen3 Henc2 hB3
      go_wp2_with fail
      refine (Hdec.out).mono ?_
      rintro e w4 ⟨hb4, v4, rfl, hR4⟩
      have hB4 := HB3.out.trans (hb4.mono HB3.out.size)
      obtain ⟨A4, c4, rfl, r1, r2, r3, r4⟩ := hR4
      have hR4 : Rd w4 (.slice A4 blk.length c4) blk := ⟨A4, c4, rfl, r1, r2, r3, r4⟩
      have HR4 := Lib.hid hR4
      have HB4 := Lib.hid hB4
      clear hb4 hB4 r1 r2 r3 r4 hR4 Hdec
      have hb5 := (Below.refl w4.heap.size w4).alloc (Nat.le_refl _) (.cells #[.slice A4 blk.length c4, .int .i64 0] 29)
      have hB5 := HB4.out.trans (hb5.mono HB4.out.size)
      have hdec := dec_of_enc a (.slice A4 blk.length c4) bs E (w4.alloc (.cells #[.slice A4 blk.length c4, .int .i64 0] 29)) (by rw [Hn.out]; omega) HEv.out (by rw [← Hblk.out]; omega) (by rw [← Hblk.out]; exact HR4.out.below hb5) (HE.out.below hB5)
      have Hdec := Lib.hid hdec
      have HB5 := Lib.hid hB5
      clear hdec hb5 hB5
      go_wp2_with fail
      refine (Hdec.out).mono ?_
      rintro e w6 ⟨hb6, v6, rfl, hR6⟩
      have hB6 := HB5.out.trans (hb6.mono HB5.out.size)
      have hs := says_rd v6 (.slice A n c) bs w6 hR6 (by rw [← Hn.out]; exact HR.out.below hB6) (by rw [Hn.out]; omega)
      have Hs := Lib.hid hs
      have HB6 := Lib.hid hB6
      clear hs hb6 hR6 hB6 Hdec
      go_wp2_with fail
      refine (Hs.out).mono ?_
      rintro e w7 ⟨rfl, hb7⟩
      have HB7 := Lib.hid (HB6.out.trans (hb7.mono HB6.out.size))
      clear hb7
      go_wp2_with fail
      go_ret
      exact ⟨rfl, HB7.out⟩
    · have hcom := common_no A n c w hc
      have Hcom := Lib.hid hcom
      clear hcom
      go_enter Tryd.func7, Tryd.ntmps7
      go_wp2_with fail
      refine (Hcom.out).mono ?_
      rintro e w1 ⟨rfl, rfl⟩
      go_wp2_with fail
      go_ret
      exact ⟨rfl, Below.refl _ _⟩
  · have hb1 : (2147483647 : Int) < (n : Int) := by omega
    go_enter Tryd.func7, Tryd.ntmps7
    go_wp2_with fail
    go_ret
    exact ⟨rfl, Below.refl _ _⟩
end Go.Proofs.YtfnejblenapddaaDoor
