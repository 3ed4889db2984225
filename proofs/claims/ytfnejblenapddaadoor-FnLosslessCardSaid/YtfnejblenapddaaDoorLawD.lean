/- FnEncodeRoom: what it computes. -/
import Derived.Test.YtfnejblenapddaaDoorLawA
import Derived.Test.YtfnejblenapddaaDoorSpR
set_option linter.unusedVariables false
namespace Go.Proofs.YtfnejblenapddaaDoor
open Go Go.RowKit

theorem same_rd (v1 v2 : Value) (bs : List UInt8) (w : World) (h1 : Rd w v1 bs) (h2 : Rd w v2 bs) (hn : bs.length ≤ 1099511627776) : Calls Tryd.prog 21 #[v1, v2] w fun e w' => e = .returned (.bool true) ∧ Drew w w' := by
  obtain ⟨A1, c1, rfl, h⟩ := h1
  obtain ⟨A2, c2, rfl, h'⟩ := h2
  exact same_yes A1 A2 c1 c2 bs.length bs w rfl ⟨A1, c1, rfl, h⟩ ⟨A2, c2, rfl, h'⟩ hn

/-- Read of what was encoded. -/
theorem read_of_enc (v : Value) (bs E : List UInt8) (w : World) (hbs : bs.length ≤ 1000000) (hE : Ev E [] bs) (hlen : (Lib.uvarint bs.length ++ E).length ≤ 1099511627776) (hR : Rd w v (Lib.uvarint bs.length ++ E)) :
    Calls Tryd.prog 20 #[v] w fun e w' => ∃ v', e = .returned (.tuple #[v', .bool true]) ∧ Rd w' v' bs ∧ Below w.heap.size w w' := by
  obtain ⟨A, c, rfl, h2, h3, h4, h5⟩ := hR
  have hp := Lib.uvarint_pos bs.length
  have hl : (Lib.uvarint bs.length ++ E).length = (Lib.uvarint bs.length).length + E.length := List.length_append
  obtain ⟨b, off, rfl, hB⟩ := h5 (by omega)
  refine (read_any b off _ c bs.length (Lib.uvarint bs.length) E bs w rfl hB h2 h3 hlen (hdr_uvarint _) (Nat.le_trans (Lib.uvarint_length 2 _ (by omega)) (by omega)) (by omega) rfl hE).mono ?_
  rintro e w' ⟨v', rfl, ho, hb⟩
  exact ⟨v', rfl, ho.rd, hb⟩

set_option maxHeartbeats 1600000 in
theorem lawEncodeRoom (a : Addr) (vr v : Value) (rb bs : List UInt8) (w : World) (hRr : Rd w vr rb) (hR : Rd w v bs) (hE : Er a w) : Calls Tryd.prog 6 #[vr, v] w (Law w) := by
  have hR0 := hR
  have hRr0 := hRr
  obtain ⟨A, c, rfl, h2, h3, -, -⟩ := hR
  obtain ⟨Ar, cr, rfl, hr2, hr3, -, -⟩ := hRr
  have HR := Lib.hid hR0
  have HRr := Lib.hid hRr0
  have HE := Lib.hid hE
  obtain ⟨n, hn⟩ : ∃ n, bs.length = n := ⟨_, rfl⟩
  obtain ⟨nr, hnr⟩ : ∃ nr, rb.length = nr := ⟨_, rfl⟩
  have Hn := Lib.hid hn
  have Hnr := Lib.hid hnr
  rw [hn] at h2 ⊢
  rw [hnr] at hr2 ⊢
  clear hR0 hRr0 hE hn hnr
  by_cases hrb : nr ≤ 2147483647
  · have hr1 : ((2147483647 : Int) < (nr : Int)) = False := by simp; omega
    by_cases hbig : n ≤ 2147483647
    · have hn1 : ((2147483647 : Int) < (n : Int)) = False := by simp; omega
      by_cases hc : n ≤ 1000000
      · have hcom := common_yes A n c w hc
        have henc := encInto_any (.slice Ar nr cr) (.slice A n c) rb bs w (by rw [← Hnr.out]; exact HRr.out) (by rw [Hnr.out]; omega) (by rw [← Hn.out]; exact HR.out) (by rw [Hn.out]; omega)
        have Hcom := Lib.hid hcom
        have Henc := Lib.hid henc
        clear hcom henc
        go_enter Tryd.func6, Tryd.ntmps6
        go_wp2_with fail
        refine (Hcom.out).mono ?_
        rintro e w1 ⟨rfl, rfl⟩
        clear Hcom
        go_wp2_with fail
        refine (Henc.out).mono ?_
        rintro e w2 ⟨v2, blk, E, rfl, hR2, hb2, hEv, rfl, hlen⟩
        rw [Hn.out] at hlen
        have hrd := read_of_enc v2 bs E w2 (by rw [Hn.out]; omega) hEv (by rw [Hn.out]; omega) hR2
        have Hrd := Lib.hid hrd
        have Hb2 := Lib.hid hb2
        have HR2 := Lib.hid hR2
        have HEv := Lib.hid hEv
        have Hlen := Lib.hid hlen
        clear hrd hR2 hb2 hEv hlen Henc
        go_wp2_with fail
        refine (Hrd.out).mono ?_
        rintro e w3 ⟨v3, rfl, hR3, hb3⟩
        have hB3 := Hb2.out.trans (hb3.mono Hb2.out.size)
        have hsa := same_rd v3 (.slice A n c) bs w3 hR3 (by rw [← Hn.out]; exact HR.out.below hB3) (by rw [Hn.out]; omega)
        have Hsa := Lib.hid hsa
        have HB3 := Lib.hid hB3
        have HR23 := Lib.hid (HR2.out.below hb3)
        clear hsa hR3 hb3 hB3 Hrd HR2
        go_wp2_with fail
        refine (Hsa.out).mono ?_
        rintro e w4 ⟨rfl, hd4⟩
        have hb4 := hd4.below w3.heap.size
        have hB4 := HB3.out.trans (hb4.mono HB3.out.size)
        have hdec := dec_of_enc a v2 bs E w4 (by rw [Hn.out]; omega) HEv.out (by have := Hlen.out; rw [Hn.out]; omega) (HR23.out.below hb4) (HE.out.below hB4)
        have Hdec := Lib.hid hdec
        have HB4 := Lib.hid hB4
        clear hdec hb4 hB4 hd4 Hsa
        go_wp2_with fail
        refine (Hdec.out).mono ?_
        rintro e w5 ⟨hb5, v5, rfl, hR5⟩
        have hB5 := HB4.out.trans (hb5.mono HB4.out.size)
        have hs := says_rd v5 (.slice A n c) bs w5 hR5 (by rw [← Hn.out]; exact HR.out.below hB5) (by rw [Hn.out]; omega)
        have Hs := Lib.hid hs
        have HB5 := Lib.hid hB5
        clear hs hb5 hR5 hB5 Hdec
        go_wp2_with fail
        refine (Hs.out).mono ?_
        rintro e w6 ⟨rfl, hb6⟩
        have HB6 := Lib.hid (HB5.out.trans (hb6.mono HB5.out.size))
        clear hb6
        go_wp2_with fail
        go_ret
        exact ⟨rfl, HB6.out⟩
      · have hcom := common_no A n c w hc
        have Hcom := Lib.hid hcom
        clear hcom
        go_enter Tryd.func6, Tryd.ntmps6
        go_wp2_with fail
        refine (Hcom.out).mono ?_
        rintro e w1 ⟨rfl, rfl⟩
        go_wp2_with fail
        go_ret
        exact ⟨rfl, Below.refl _ _⟩
    · have hb1 : ((2147483647 : Int) < (n : Int)) = True := by simp; omega
      go_enter Tryd.func6, Tryd.ntmps6
      go_wp2_with fail
      go_ret
      exact ⟨rfl, Below.refl _ _⟩
  · have hb1 : ((2147483647 : Int) < (nr : Int)) = True := by simp; omega
    go_enter Tryd.func6, Tryd.ntmps6
    go_wp2_with fail
    go_ret
    exact ⟨rfl, Below.refl _ _⟩
end Go.Proofs.YtfnejblenapddaaDoor
