/- FnLossless: what it computes. -/
import Derived.Test.YtfnejblenapddaaDoorLawD
import Derived.Test.YtfnejblenapddaaDoorLen
set_option linter.unusedVariables false
namespace Go.Proofs.YtfnejblenapddaaDoor
open Go Go.RowKit

set_option maxRecDepth 10000 in
set_option maxHeartbeats 1600000 in
theorem lawLossless (a : Addr) (v : Value) (bs : List UInt8) (w : World) (hR : Rd w v bs) (hE : Er a w) : Calls Tryd.prog 9 #[v] w (Law w) := by
  have hR0 := hR
  obtain ⟨A, c, rfl, h2, h3, -, -⟩ := hR
  have HR := Lib.hid hR0
  have HE := Lib.hid hE
  obtain ⟨n, hn⟩ : ∃ n, bs.length = n := ⟨_, rfl⟩
  have Hn := Lib.hid hn
  rw [hn] at h2 ⊢
  clear hR0 hE hn
  by_cases hbig : n ≤ 2147483647
  · by_cases hc : n ≤ 1000000
    · have hcom := common_yes A n c w hc
      have henc := implEnc_any (.slice A n c) bs w (by rw [← Hn.out]; exact HR.out) (by rw [Hn.out]; omega)
      have Hcom := Lib.hid hcom
      have Henc := Lib.hid henc
      clear hcom henc
      go_enter Tryd.func9, Tryd.ntmps9
      go_wp2_with fail
      refine (Hcom.out).mono ?_
      rintro e w1 ⟨rfl, rfl⟩
      clear Hcom
      go_wp2_with fail
      refine (Henc.out).mono ?_
      rintro e w2 ⟨v2, blk, E, rfl, hR2, hb2, hEv, hblk, hlen⟩
      rw [Hn.out] at hlen
      have hrd := read_of_enc v2 bs E w2 (by rw [Hn.out]; omega) hEv (by rw [← hblk]; omega) (by rw [← hblk]; exact hR2)
      obtain ⟨A2, c2, rfl, q1, q2, q3, q4⟩ := hR2
      have hR2 : Rd w2 (.slice A2 blk.length c2) blk := ⟨A2, c2, rfl, q1, q2, q3, q4⟩
      have Hrd := Lib.hid hrd
      have Hb2 := Lib.hid hb2
      have HR2 := Lib.hid hR2
      have HEv := Lib.hid hEv
      have Hblk := Lib.hid hblk
      obtain ⟨m, hm⟩ : ∃ m, blk.length = m := ⟨_, rfl⟩
      rw [hm] at hlen q1 hR2 HR2 Hrd ⊢
      have Hm := Lib.hid hm
      clear hrd hR2 hb2 hEv Henc hblk hm q3 q4
      go_wp2_with fail
      refine (Hrd.out).mono ?_
      rintro e w3 ⟨v3, rfl, hR3, hb3⟩
      have hB3 := Hb2.out.trans (hb3.mono Hb2.out.size)
      have hR23 := HR2.out.below hb3
      have hle := implLen_any (.slice A2 m c2) (Lib.uvarint bs.length) E bs.length w3 (hdr_uvarint _) (hdr9 _ (by rw [Hn.out]; omega)) (by rw [Hn.out]; omega) (by rw [← Hblk.out]; exact hR23) (by rw [← Hblk.out, Hm.out]; omega)
      rw [Hn.out] at hle
      have Hle := Lib.hid hle
      have HB3 := Lib.hid hB3
      have HR23 := Lib.hid hR23
      have HR3 := Lib.hid hR3
      clear hle hR3 hb3 hB3 Hrd HR2 hR23
      go_wp2_with fail
      refine (Hle.out).mono ?_
      rintro e w4 ⟨rfl, hb4⟩
      have hb5 := (Below.refl w4.heap.size w4).alloc (Nat.le_refl _) (.cells #[.int .i64 (n : Int), .int .i64 0] 42)
      have hb45 := hb4.trans (hb5.mono hb4.size)
      have hB5 := HB3.out.trans (hb45.mono HB3.out.size)
      have hsa := same_rd v3 (.slice A n c) bs (w4.alloc (.cells #[.int .i64 (n : Int), .int .i64 0] 42)) (HR3.out.below hb45) (by rw [← Hn.out]; exact HR.out.below (by rw [Hn.out]; exact hB5)) (by rw [Hn.out]; omega)
      have Hsa := Lib.hid hsa
      have HB5 := Lib.hid hB5
      have HR25 := Lib.hid (HR23.out.below hb45)
      clear hsa hb4 hb5 hb45 hB5 Hle HR23 HR3
      go_wp2_with fail
      refine (Hsa.out).mono ?_
      rintro e w6 ⟨rfl, hd⟩
      have hblk6 : w6.heap[w4.heap.size]? = some (.cells #[.int .i64 (n : Int), .int .i64 0] 42 (0, 0)) := by obtain ⟨k, rfl⟩ := hd; exact heap_alloc_new _ _
      have hc0 : w6.cell? ⟨w4.heap.size, 0, none⟩ = some (.int .i64 (n : Int)) := cell_of_row _ _ 0 _ _ _ hblk6
      have hc1 : w6.cell? ⟨w4.heap.size, 1, none⟩ = some (.int .i64 0) := cell_of_row _ _ 1 _ _ _ hblk6
      have hb6 := hd.below (w4.alloc (.cells #[.int .i64 (n : Int), .int .i64 0] 42)).heap.size
      have hB6 := HB5.out.trans (hb6.mono HB5.out.size)
      have hmx := implMax_any n w6 (by omega)
      have Hmx := Lib.hid hmx
      have HB6 := Lib.hid hB6
      have HR26 := Lib.hid (HR25.out.below hb6)
      have hnn : ((n : Int) != (n : Int)) = false := by simp
      obtain ⟨mx, hmx0⟩ : ∃ mx, 32 + n + n / 6 = mx := ⟨_, rfl⟩
      rw [hmx0] at Hmx hlen
      have hmxb : mx ≤ 2000000 := by omega
      have hmm : ((mx : Int) < (m : Int)) = False := by simp; omega
      clear hmx hb6 hB6 hd hblk6 Hsa HR25 hmx0
      go_wp2_with fail
      refine (Hmx.out).mono ?_
      rintro e w7 ⟨rfl, rfl⟩
      clear Hmx
      have hdec := dec_of_enc a (.slice A2 m c2) bs E w7 (by rw [Hn.out]; omega) HEv.out (by rw [← Hblk.out, Hm.out]; omega) (by rw [← Hblk.out]; exact HR26.out) (HE.out.below HB6.out)
      have Hdec := Lib.hid hdec
      clear hdec
      go_wp2_with fail
      refine (Hdec.out).mono ?_
      rintro e w8 ⟨hb8, v8, rfl, hR8⟩
      have hB8 := HB6.out.trans (hb8.mono HB6.out.size)
      have hs := says_rd v8 (.slice A n c) bs w8 hR8 (by rw [← Hn.out]; exact HR.out.below hB8) (by rw [Hn.out]; omega)
      have Hs := Lib.hid hs
      have HB8 := Lib.hid hB8
      clear hs hb8 hR8 hB8 Hdec
      go_wp2_with fail
      refine (Hs.out).mono ?_
      rintro e w9 ⟨rfl, hb9⟩
      have HB9 := Lib.hid (HB8.out.trans (hb9.mono HB8.out.size))
      clear hb9
      go_wp2_with fail
      go_ret
      exact ⟨rfl, HB9.out⟩
    · have hcom := common_no A n c w hc
      have Hcom := Lib.hid hcom
      clear hcom
      go_enter Tryd.func9, Tryd.ntmps9
      go_wp2_with fail
      refine (Hcom.out).mono ?_
      rintro e w1 ⟨rfl, rfl⟩
      go_wp2_with fail
      go_ret
      exact ⟨rfl, Below.refl _ _⟩
  · have hb1 : (2147483647 : Int) < (n : Int) := by omega
    go_enter Tryd.func9, Tryd.ntmps9
    go_wp2_with fail
    go_ret
    exact ⟨rfl, Below.refl _ _⟩
end Go.Proofs.YtfnejblenapddaaDoor
