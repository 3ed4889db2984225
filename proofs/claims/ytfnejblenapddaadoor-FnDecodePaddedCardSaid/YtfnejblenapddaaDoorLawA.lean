/- FnEncodeDecode: what it computes. -/
import Derived.Test.YtfnejblenapddaaDoorSnd
set_option linter.unusedVariables false
namespace Go.Proofs.YtfnejblenapddaaDoor
open Go Go.RowKit

/-- The law answers true, and leaves what was there. -/
def Law (w : World) (e : Ending) (w' : World) : Prop := e = .returned (.bool true) ∧ Below w.heap.size w w'

theorem hdr9 (n : Nat) (h : n ≤ 2147483647) : (Lib.uvarint n).length ≤ 9 := Nat.le_trans (Lib.uvarint_length 4 n (by omega)) (by omega)

/-- impl.Decode of what was encoded. -/
theorem dec_of_enc (a : Addr) (v : Value) (bs E : List UInt8) (w : World) (hbs : bs.length ≤ 2147483647) (hE : Ev E [] bs) (hlen : (Lib.uvarint bs.length ++ E).length ≤ 1099511627776) (hR : Rd w v (Lib.uvarint bs.length ++ E)) (hEr : Er a w) :
    Calls Tryd.prog 14 #[v] w (Untold (some bs) w) := by
  have h := implDec_hdr a v (Lib.uvarint bs.length) E bs.length w (hdr_uvarint _) (hdr9 _ hbs) (by omega) hR hlen hEr
  rw [hE.D] at h
  exact h

/-- says, of what reads as a text. -/
theorem says_rd (v1 v2 : Value) (bs : List UInt8) (w : World) (h1 : Rd w v1 bs) (h2 : Rd w v2 bs) (hn : bs.length ≤ 1099511627776) : Calls Tryd.prog 13 #[.agg #[v1, .int .i64 0], v2] w (Law w) := by
  obtain ⟨A1, c1, rfl, h⟩ := h1
  obtain ⟨A2, c2, rfl, h'⟩ := h2
  exact says_yes A1 A2 c1 c2 bs.length bs w rfl ⟨A1, c1, rfl, h⟩ ⟨A2, c2, rfl, h'⟩ hn

set_option maxHeartbeats 1600000 in
theorem lawEncodeDecode (a : Addr) (v : Value) (bs : List UInt8) (w : World) (hR : Rd w v bs) (hE : Er a w) : Calls Tryd.prog 5 #[v] w (Law w) := by
  have hR0 := hR
  obtain ⟨A, c, rfl, h2, h3, -, -⟩ := hR
  have HR := Lib.hid hR0
  have HE := Lib.hid hE
  obtain ⟨n, hn⟩ : ∃ n, bs.length = n := ⟨_, rfl⟩
  have Hn := Lib.hid hn
  rw [hn] at h2 ⊢
  clear hR0 hE hn
  by_cases hbig : n ≤ 2147483647
  · by_cases hc : n ≤ 1000000
    · have hcom := common_yes A n c w hc
      have henc := implEnc_any (.slice A n c) bs w (by rw [← Hn.out]; exact HR.out) (by rw [Hn.out]; omega)
      have Hcom := Lib.hid hcom
      have Henc := Lib.hid henc
      clear hcom henc
      go_enter Tryd.func5, Tryd.ntmps5
      go_wp2_with fail
      refine (Hcom.out).mono ?_
      rintro e w1 ⟨rfl, rfl⟩
      clear Hcom
      go_wp2_with fail
      refine (Henc.out).mono ?_
      rintro e w2 ⟨v2, blk, E, rfl, hR2, hb2, hEv, rfl, hlen⟩
      have hdec := dec_of_enc a v2 bs E w2 (by rw [Hn.out]; omega) hEv (by rw [Hn.out] at hlen ⊢; omega) hR2 (HE.out.below hb2)
      have Hdec := Lib.hid hdec
      have Hb2 := Lib.hid hb2
      clear hdec hR2 hb2 hEv hlen Henc
      go_wp2_with fail
      refine (Hdec.out).mono ?_
      rintro e w3 ⟨hb3, v3, rfl, hR3⟩
      have hB3 := Hb2.out.trans (hb3.mono Hb2.out.size)
      have hs := says_rd v3 (.slice A n c) bs w3 hR3 (by rw [← Hn.out]; exact HR.out.below hB3) (by rw [Hn.out]; omega)
      have Hs := Lib.hid hs
      have HB3 := Lib.hid hB3
      clear hs hb3 hR3 hB3 Hdec
      go_wp2_with fail
      refine (Hs.out).mono ?_
      rintro e w4 ⟨rfl, hb4⟩
      have HB4 := Lib.hid (HB3.out.trans (hb4.mono HB3.out.size))
      clear hb4
      go_wp2_with fail
      go_ret
      exact ⟨rfl, HB4.out⟩
    · have hcom := common_no A n c w hc
      have Hcom := Lib.hid hcom
      clear hcom
      go_enter Tryd.func5, Tryd.ntmps5
      go_wp2_with fail
      refine (Hcom.out).mono ?_
      rintro e w1 ⟨rfl, rfl⟩
      go_wp2_with fail
      go_ret
      exact ⟨rfl, Below.refl _ _⟩
  · have hb1 : (2147483647 : Int) < (n : Int) := by omega
    go_enter Tryd.func5, Tryd.ntmps5
    go_wp2_with fail
    go_ret
    exact ⟨rfl, Below.refl _ _⟩
end Go.Proofs.YtfnejblenapddaaDoor
