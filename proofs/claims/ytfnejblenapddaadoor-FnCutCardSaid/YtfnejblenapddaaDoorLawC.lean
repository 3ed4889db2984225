/- FnCut: what it computes. -/
import Derived.Test.YtfnejblenapddaaDoorLawA
set_option linter.unusedVariables false
namespace Go.Proofs.YtfnejblenapddaaDoor
open Go Go.RowKit

/-- impl.Decode of a beginning of a block tells a fault. -/
theorem dec_cut (a : Addr) (v : Value) (bs E : List UInt8) (u : Nat) (w : World) (hbs : bs.length ≤ 2147483647) (hE : Ev E [] bs) (hu : u < (Lib.uvarint bs.length ++ E).length) (hlen : (Lib.uvarint bs.length ++ E).length ≤ 1099511627776)
    (hR : Rd w v ((Lib.uvarint bs.length ++ E).take u)) (hEr : Er a w) : Calls Tryd.prog 14 #[v] w (Untold none w) := by
  have hh := hdr_uvarint bs.length
  have h9 := hdr9 _ hbs
  have hp := hh.pos
  rw [List.length_append] at hu hlen
  by_cases hc : u < (Lib.uvarint bs.length).length
  · have ht : ((Lib.uvarint bs.length ++ E).take u).length = u := by rw [List.length_take, List.length_append]; omega
    refine implDec_short a v _ w (by rw [ht]; omega) (fun i hi => ?_) hR hEr
    rw [ht] at hi
    have e : (Lib.uvarint bs.length ++ E).take u = (Lib.uvarint bs.length).take u := List.take_append_of_le_length (by omega)
    rw [e]
    have hb := hh.pre i (by omega)
    have : bt ((Lib.uvarint bs.length).take u) i = bt (Lib.uvarint bs.length) i := by
      unfold bt
      simp only [List.getD_eq_getElem?_getD]
      rw [List.getElem?_take_of_lt hi]
    rw [this]
    exact hb
  · obtain ⟨k, hk⟩ : ∃ k, u = (Lib.uvarint bs.length).length + k := ⟨u - (Lib.uvarint bs.length).length, by omega⟩
    have e : (Lib.uvarint bs.length ++ E).take u = Lib.uvarint bs.length ++ E.take k := by rw [hk, List.take_length_add_append]
    rw [e] at hR
    have hd := implDec_hdr a v (Lib.uvarint bs.length) (E.take k) bs.length w hh h9 (by omega) hR (by rw [List.length_append, List.length_take]; omega) hEr
    rw [hE.cut (E.take k) (E.drop k) (List.take_append_drop k E).symm (fun h => by
      have := congrArg List.length h
      rw [List.length_drop] at this
      simp at this
      omega)] at hd
    exact hd

set_option maxHeartbeats 1600000 in
theorem lawCut (a : Addr) (v : Value) (nn : Int) (bs : List UInt8) (w : World) (hR : Rd w v bs) (hE : Er a w) : Calls Tryd.prog 4 #[v, .int .i64 nn] w (Law w) := by
  have hR0 := hR
  obtain ⟨A, c, rfl, h2, h3, -, -⟩ := hR
  have HR := Lib.hid hR0
  have HE := Lib.hid hE
  obtain ⟨n, hn⟩ : ∃ n, bs.length = n := ⟨_, rfl⟩
  have Hn := Lib.hid hn
  rw [hn] at h2 ⊢
  clear hR0 hE hn
  by_cases hbig : n ≤ 2147483647
  · by_cases hc : n ≤ 1000000
    · have hcom := common_yes A n c w hc
      have henc := implEnc_any (.slice A n c) bs w (by rw [← Hn.out]; exact HR.out) (by rw [Hn.out]; omega)
      have Hcom := Lib.hid hcom
      have Henc := Lib.hid henc
      clear hcom henc
      go_enter Tryd.func4, Tryd.ntmps4
      go_wp2_with fail
      refine (Hcom.out).mono ?_
      rintro e w1 ⟨rfl, rfl⟩
      clear Hcom
      go_wp2_with fail
      refine (Henc.out).mono ?_
      rintro e w2 ⟨v2, blk, E, rfl, hR2, hb2, hEv, hblk, hlen⟩
      rw [Hn.out] at hlen
      obtain ⟨A2, c2, rfl, q1, q2, q3, q4⟩ := hR2
      have hpos : 0 < blk.length := by
        have := Lib.uvarint_pos bs.length
        rw [hblk, List.length_append]
        omega
      obtain ⟨b, off, rfl, hB⟩ := q4 hpos
      obtain ⟨m, hm⟩ : ∃ m, blk.length = m := ⟨_, rfl⟩
      have hpart := part_any nn m w2 (by omega) (by omega)
      have Hpart := Lib.hid hpart
      have Hb2 := Lib.hid hb2
      have HEv := Lib.hid hEv
      have Hblk := Lib.hid hblk
      have HB := Lib.hid hB
      have Hm := Lib.hid hm
      rw [hm] at q1 hlen ⊢
      have hm0 : 0 < m := by omega
      clear hpart hb2 hEv Henc hblk hB hm q3 q4 hpos
      go_wp2_with fail
      refine (Hpart.out).mono ?_
      rintro e w3 ⟨u, rfl, hu, rfl⟩
      have hst := slice_to b off m c2 u (by omega)
      have ht : (blk.take u).length = u := by rw [List.length_take, Hm.out]; omega
      have hdec := dec_cut a (.slice (some ⟨b, off, none⟩) u c2) bs E u w3 (by rw [Hn.out]; omega) HEv.out (by rw [← Hblk.out, Hm.out]; exact hu) (by rw [← Hblk.out, Hm.out]; omega)
        (by rw [← Hblk.out]; exact ⟨_, c2, by rw [ht], by rw [ht]; omega, q2, (fun h => by cases h), fun _ => ⟨b, off, rfl, HB.out.take u⟩⟩) (HE.out.below Hb2.out)
      have Hdec := Lib.hid hdec
      clear hdec ht Hpart
      go_wp2_with fail
      refine (Hdec.out).mono ?_
      rintro e w4 ⟨hb4, v4, f, rfl, hf⟩
      have hB4 := Hb2.out.trans (hb4.mono Hb2.out.size)
      have hre := refused_yes v4 f w4 hf
      have Hre := Lib.hid hre
      have HB4 := Lib.hid hB4
      clear hre hb4 hB4 hf Hdec
      go_wp2_with fail
      refine (Hre.out).mono ?_
      rintro e w5 ⟨rfl, hb5⟩
      have HB5 := Lib.hid (HB4.out.trans (hb5.mono HB4.out.size))
      clear hb5
      go_wp2_with fail
      go_ret
      exact ⟨rfl, HB5.out⟩
    · have hcom := common_no A n c w hc
      have Hcom := Lib.hid hcom
      clear hcom
      go_enter Tryd.func4, Tryd.ntmps4
      go_wp2_with fail
      refine (Hcom.out).mono ?_
      rintro e w1 ⟨rfl, rfl⟩
      go_wp2_with fail
      go_ret
      exact ⟨rfl, Below.refl _ _⟩
  · have hb1 : (2147483647 : Int) < (n : Int) := by omega
    go_enter Tryd.func4, Tryd.ntmps4
    go_wp2_with fail
    go_ret
    exact ⟨rfl, Below.refl _ _⟩
end Go.Proofs.YtfnejblenapddaaDoor
