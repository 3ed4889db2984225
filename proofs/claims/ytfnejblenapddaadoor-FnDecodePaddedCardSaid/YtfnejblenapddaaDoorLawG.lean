/- FnDecodePadded: what it computes. -/
import Derived.Test.YtfnejblenapddaaDoorSpW
import Derived.Test.YtfnejblenapddaaDoorSpP
import Derived.Test.YtfnejblenapddaaDoorLawA
import Derived.Test.YtfnejblenapddaaDoorJoinM
set_option linter.unusedVariables false
namespace Go.Proofs.YtfnejblenapddaaDoor
open Go Go.RowKit

theorem padded_at (j : Int) (x more : Nat) (w : World) (hj : j = (more : Int)) (hx : x ≤ 1000000) (h1 : 1 ≤ more) (h4 : more ≤ 4) :
    Calls Tryd.prog 11 #[.int .i64 (x : Int), .int .i64 j] w (Spelled (fun h => Hdr h x ∧ h.length ≤ 9) w) := by
  subst hj
  exact padded_any x more w hx h1 h4

set_option maxRecDepth 100000 in
set_option maxHeartbeats 4000000 in
theorem paddedCore (a : Addr) (A : Option Addr) (n c : Nat) (B : Option Addr) (nh ch : Nat) (m : Int) (t : List UInt8) (w : World) (hl : t.length = n) (hn : n ≤ 1000000) (hnh : nh ≤ 1000)
    (hR : Rd w (.slice A n c) t) (hH : HowRd w (.slice B nh ch) nh) (hE : Er a w) : Calls Tryd.prog 3 #[.slice A n c, .slice B nh ch, .int .i64 m] w (Law w) := by
  have hcom := common_yes A n c w hn
  have hpart := part_any m 4 w (by omega) (by omega)
  have hb1 : ((2147483647 : Int) < (n : Int)) = False := by simp; omega
  have hb2 : ((2147483647 : Int) < (nh : Int)) = False := by simp; omega
  have hb3 : ((1000 : Int) < (nh : Int)) = False := by simp; omega
  have Hcom := Lib.hid hcom
  have Hpart := Lib.hid hpart
  have HR := Lib.hid hR
  have HH := Lib.hid hH
  have HE := Lib.hid hE
  have Hl := Lib.hid hl
  clear hcom hpart hR hH hE hl
  go_enter Tryd.func3, Tryd.ntmps3
  go_wp2_with fail
  refine (Hcom.out).mono ?_
  rintro e w1 ⟨rfl, rfl⟩
  clear Hcom
  go_wp2_with fail
  refine (Hpart.out).mono ?_
  rintro e w2 ⟨r, rfl, hr, rfl⟩
  have hpad := padded_at (1 + (r : Int)) n (1 + r) w2 (by omega) hn (by omega) (by omega)
  have Hpad := Lib.hid hpad
  clear hpad Hpart
  go_wp2_with fail
  refine (Hpad.out).mono ?_
  rintro e w3 ⟨v3, h, rfl, ho3, ⟨hh, hhl⟩, hb3⟩
  have hwr := write_any A n c (.slice B nh ch) nh t w3 Hl.out hn (HR.out.below hb3) (HH.out.below hb3) hnh
  have Hwr := Lib.hid hwr
  have HB3 := Lib.hid hb3
  have HO3 := Lib.hid ho3
  have Hh := Lib.hid hh
  clear hwr hb3 ho3 hh Hpad
  go_wp2_with fail
  refine (Hwr.out).mono ?_
  rintro e w4 ⟨v4, E, rfl, ho4, hEv, hEl, hb4⟩
  have hul := Lib.uvarint_length 2 n (by omega)
  have hbd := bodyA_any v4 (Lib.uvarint n) E n w4 (hdr_uvarint _) (Nat.le_trans hul (by omega)) (by omega) ho4.rd (by rw [List.length_append]; omega)
  have Hbd := Lib.hid hbd
  have HB4 := Lib.hid (HB3.out.trans (hb4.mono HB3.out.size))
  have HO4 := Lib.hid (HO3.out.below hb4)
  have HEv := Lib.hid hEv
  clear hul hbd hb4 ho4 hEv Hwr
  go_wp2_with fail
  refine (Hbd.out).mono ?_
  rintro e w5 ⟨v5, rfl, hR5, hd5, hA5⟩
  have hb5 := hd5.below w4.heap.size
  have HO5 := Lib.hid (HO4.out.below hb5)
  have HB5 := Lib.hid (HB4.out.trans (hb5.mono HB4.out.size))
  have HR5 := Lib.hid hR5
  have HA5 := Lib.hid hA5
  have hl1 : h.length + E.length ≤ 1099511627776 := by omega
  have hs5 := HB5.out.size
  clear hR5 hd5 hA5 hb5 HO4 Hbd
  go_wp2_with (at_builtin; go_loud (refine wpList_appA rfl (.tmp 30) (.tmp 34) rfl w2.heap.size _ h rfl HO5.out _ E rfl HR5.out HA5.out hl1 hs5 ?_); intro v6 w6 hown6 hb6 hg6; have HO6 := Lib.hid hown6; have HB6' := Lib.hid hb6; clear hown6 hb6 hg6)
  have HB6 := Lib.hid (HB5.out.trans HB6'.out)
  have hl2 : (h ++ E).length ≤ 1099511627776 := by rw [List.length_append]; omega
  have hdec := implDec_hdr a v6 h E n w6 Hh.out hhl (by omega) HO6.out.rd hl2 (HE.out.below HB6.out)
  rw [← Hl.out, HEv.out.D] at hdec
  have Hdec := Lib.hid hdec
  clear hdec hl1 hl2 hs5 HB6'
  refine (Hdec.out).mono ?_
  rintro e w7 ⟨hb7, v7', rfl, hR7⟩
  have hB7 := HB6.out.trans (hb7.mono HB6.out.size)
  have hs := says_rd v7' (.slice A n c) t w7 hR7 (HR.out.below hB7) (by rw [Hl.out]; omega)
  have Hs := Lib.hid hs
  have HB7 := Lib.hid hB7
  clear hs hb7 hR7 hB7 Hdec
  go_wp2_with fail
  refine (Hs.out).mono ?_
  rintro e w8 ⟨rfl, hb8⟩
  have HB8 := Lib.hid (HB7.out.trans (hb8.mono HB7.out.size))
  clear hb8
  go_wp2_with fail
  go_ret
  exact ⟨rfl, HB8.out⟩

set_option maxHeartbeats 1600000 in
theorem lawPadded (a : Addr) (va vh : Value) (nh : Nat) (m : Int) (t : List UInt8) (w : World) (hR : Rd w va t) (hH : HowRd w vh nh) (hE : Er a w) : Calls Tryd.prog 3 #[va, vh, .int .i64 m] w (Law w) := by
  have hR0 := hR
  have hH0 := hH
  obtain ⟨A, c, rfl, -, -, -, -⟩ := hR
  obtain ⟨B, ch, rfl, -⟩ := hH
  obtain ⟨n, hn⟩ : ∃ n, t.length = n := ⟨_, rfl⟩
  rw [hn] at hR0 ⊢
  by_cases h1 : n ≤ 2147483647
  · have h1f : ((2147483647 : Int) < (n : Int)) = False := by simp; omega
    by_cases h2 : nh ≤ 2147483647
    · have h2f : ((2147483647 : Int) < (nh : Int)) = False := by simp; omega
      by_cases h3 : n ≤ 1000000
      · by_cases h4 : nh ≤ 1000
        · exact paddedCore a A n c B nh ch m t w hn h3 h4 hR0 hH0 hE
        · have h4t : ((1000 : Int) < (nh : Int)) = True := by simp; omega
          have hca := common_yes A n c w h3
          have Hca := Lib.hid hca
          clear hca hR0 hH0 hE hn
          go_enter Tryd.func3, Tryd.ntmps3
          go_wp2_with fail
          refine (Hca.out).mono ?_
          rintro e w1 ⟨rfl, rfl⟩
          go_wp2_with fail
          go_ret
          exact ⟨rfl, Below.refl _ _⟩
      · have hca := common_no A n c w h3
        have Hca := Lib.hid hca
        clear hca hR0 hH0 hE hn
        go_enter Tryd.func3, Tryd.ntmps3
        go_wp2_with fail
        refine (Hca.out).mono ?_
        rintro e w1 ⟨rfl, rfl⟩
        go_wp2_with fail
        go_ret
        exact ⟨rfl, Below.refl _ _⟩
    · have hb1 : ((2147483647 : Int) < (nh : Int)) = True := by simp; omega
      clear hR0 hH0 hE hn
      go_enter Tryd.func3, Tryd.ntmps3
      go_wp2_with fail
      go_ret
      exact ⟨rfl, Below.refl _ _⟩
  · have hb1 : ((2147483647 : Int) < (n : Int)) = True := by simp; omega
    clear hR0 hH0 hE hn
    go_enter Tryd.func3, Tryd.ntmps3
    go_wp2_with fail
    go_ret
    exact ⟨rfl, Below.refl _ _⟩
end Go.Proofs.YtfnejblenapddaaDoor
