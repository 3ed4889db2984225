/- The description's Write: a well-formed block, whatever the numbers choose. -/
import Derived.Test.YtfnejblenapddaaDoorSpL
import Derived.Test.YtfnejblenapddaaDoorSpF
import Derived.Test.YtfnejblenapddaaDoorFr3
set_option linter.unusedVariables false
namespace Go.Proofs.YtfnejblenapddaaDoor
open Go Go.RowKit

theorem i64_and28 (x : Int) : 0 ≤ bits .and .i64 x 268435455 ∧ bits .and .i64 x 268435455 < 268435456 := by
  unfold bits
  have h : ((BitVec.ofInt IntKind.i64.bits x) &&& (BitVec.ofInt IntKind.i64.bits 268435455)).toNat < 268435456 := by
    rw [BitVec.toNat_and]
    exact Nat.lt_of_le_of_lt Nat.and_le_right (by decide)
  simp only
  rw [IntKind.wrap_i64]
  omega

/-- A copy that stands says the next bytes. -/
theorem mat_says {t : List UInt8} {at0 f m : Nat} {bs : List UInt8} (hM : Mat t at0 f m) (hf : f ≤ at0) (h1 : 1 ≤ f) (hs : SaysCp bs f m) : Ev bs (t.take at0) (t.take (at0 + m)) := by
  have hl : (t.take at0).length = at0 := by rw [List.length_take]; have := hM.1; omega
  have h := hs (t.take at0) (by rw [hl]; exact hf)
  have hc := cp_match t at0 f m hf (by omega) hM.1 (fun j hj => ?_)
  · rw [hc] at h; exact h
  · have h2 := hM.2 j hj
    have hm1 := hM.1
    rw [show at0 + j - f = at0 - f + j from by omega, bt_get t (at0 + j) (by omega), bt_get t (at0 - f + j) (by omega)] at h2
    rw [List.getElem?_eq_getElem (by omega : at0 - f + j < t.length), List.getElem?_eq_getElem (by omega : at0 + j < t.length)]
    exact congrArg some (UInt8.toNat_inj.1 h2.symm)

/-- Numbers that can be read. -/
def HowRd (w : World) (v : Value) (nh : Nat) : Prop := ∃ A c, v = .slice A nh c ∧ (0 < nh → ∃ b o, A = some ⟨b, o, none⟩ ∧ ∀ i, i < nh → ∃ z, w.cell? ⟨b, o + i, none⟩ = some (.int .i64 z))

theorem HowRd.below {w w' : World} {v : Value} {nh : Nat} (h : HowRd w v nh) (hb : Below w.heap.size w w') : HowRd w' v nh := by
  obtain ⟨A, c, h1, h2⟩ := h
  refine ⟨A, c, h1, fun hp => ?_⟩
  obtain ⟨b, o, h3, h4⟩ := h2 hp
  refine ⟨b, o, h3, fun i hi => ?_⟩
  obtain ⟨z, hz⟩ := h4 i hi
  exact ⟨z, by rw [hb.cell (p := ⟨b, o + i, none⟩) (World.block_lt_of_cell? w _ hz)]; exact hz⟩

/-- Between two elements. -/
def WrSt (w : World) (n : Nat) (t : List UInt8) (v5 v6 v7 : Value) (wr : World) : Prop :=
  ∃ (p k : Nat) (E : List UInt8), v6 = .int .i64 (p : Int) ∧ v7 = .int .i64 (k : Int) ∧ p ≤ n ∧ k ≤ p ∧ Own w.heap.size wr v5 (Lib.uvarint n ++ E) ∧ Ev E [] (t.take p) ∧ E.length ≤ 6 * p ∧ Below w.heap.size w wr

theorem Own.arg {B : Nat} {w : World} {v : Value} {bs : List UInt8} (h : Own B w v bs) : Arg v := by
  obtain ⟨-, h2⟩ := h
  rcases h2 with ⟨rfl, -⟩ | ⟨g', cap, cur, rfl, -⟩
  · exact .inl rfl
  · exact .inr ⟨_, _, _, rfl⟩
theorem find_at (fm : Int) (form : Nat) (A : Option Addr) (n c at0 rest : Nat) (t : List UInt8) (w : World) (hform : form = 1 ∨ form = 2 ∨ form = 3) (hfm : fm = (form : Int)) (hl : t.length = n) (hR : Rd w (.slice A n c) t) (hn : n ≤ 1000000) (ha : at0 < n) (h0 : 0 < at0) (hr : rest ≤ 268435456) :
    Calls Tryd.prog 29 #[.slice A n c, .int .i64 (at0 : Int), .int .i64 fm, .int .i64 (rest : Int)] w fun e w' => Drew w w' ∧ ∃ m f : Nat, e = .returned (.tuple #[.int .i64 (m : Int), .int .i64 (f : Int)]) ∧ Found t at0 form m f := by
  subst hfm
  rcases hform with rfl | rfl | rfl
  · by_cases h : rest % 3 = 1
    · exact find_1T A n c at0 rest t w hl hR hn ha h0 hr h
    · exact find_1F A n c at0 rest t w hl hR hn ha h0 hr h
  · by_cases h : rest % 3 = 1
    · exact find_2T A n c at0 rest t w hl hR hn ha h0 hr h
    · exact find_2F A n c at0 rest t w hl hR hn ha h0 hr h
  · by_cases h : rest % 3 = 1
    · exact find_3T A n c at0 rest t w hl hR hn ha h0 hr h
    · exact find_3F A n c at0 rest t w hl hR hn ha h0 hr h
theorem copy_at (fm : Int) (form n f : Nat) (w : World) (hform : form = 1 ∨ form = 2 ∨ form = 3) (hfm : fm = (form : Int)) (hf1 : 1 ≤ f) (hfit : fitsB form n f = true) : Calls Tryd.prog 30 #[.int .i64 fm, .int .i64 (n : Int), .int .i64 (f : Int)] w (Spelled (fun bs => SaysCp bs f n ∧ bs.length ≤ 5) w) := by
  subst hfm
  rcases hform with rfl | rfl | rfl
  · exact copy_1 n f w hf1 hfit
  · exact copy_2 n f w hf1 hfit
  · exact copy_3 n f w hf1 hfit

theorem literal_at (kz : Int) (k : Nat) (ad : Addr) (n2 c : Nat) (t : List UInt8) (w : World) (hkz : kz = (k : Int)) (hk : k ≤ 4) (hR : Rd w (.slice (some ad) n2 c) t) (hl : t.length = n2) (h1 : 1 ≤ n2) (h2 : n2 ≤ 1000000) :
    Calls Tryd.prog 31 #[.slice (some ad) n2 c, .int .i64 kz] w (Spelled (SaysL t) w) := by
  obtain ⟨n1, rfl⟩ : ∃ n1, n2 = n1 + 1 := ⟨n2 - 1, by omega⟩
  exact literal_any kz k ad n1 c t w hkz hk hR hl (by omega)
theorem slice_mid_w (li ui : Int) (g o n c l u : Nat) (hli : li = (l : Int)) (hui : ui = (u : Int)) (h : l ≤ u) (hu : u ≤ c) (hc : l ≠ c) : ∀ W, (Instr.slice 22 (.slice (some ⟨g, o, none⟩) n c) (some (.int .i64 li)) (some (.int .i64 ui)) none).run Tryd.prog W = .ok (.slice (some ⟨g, o + l, none⟩) (u - l) (c - l)) W := by
  subst hli hui
  exact slice_mid g o n c l u h hu hc

/-- A length has been chosen. -/
def P78 (p n : Nat) (a : Act) : Prop := ∃ (fo re n2 : Nat), a.tmps.getD 9 undef = .int .i64 (fo : Int) ∧ a.tmps.getD 10 undef = .int .i64 (re : Int) ∧ fo < 8 ∧ re < 33554432 ∧ a.tmps.getD 13 undef = .int .i64 (n2 : Int) ∧ 1 ≤ n2 ∧ p + n2 ≤ n

/-- A length has been chosen, and whether it is cut short. -/
def P89 (p n : Nat) (a : Act) : Prop := ∃ (fo n2 : Nat) (b : Bool), a.tmps.getD 9 undef = .int .i64 (fo : Int) ∧ fo < 8 ∧ a.tmps.getD 13 undef = .int .i64 (n2 : Int) ∧ 1 ≤ n2 ∧ p + n2 ≤ n ∧ a.tmps.getD 89 undef = .bool b ∧ (b = true → 60 ≤ n2)
/-- A literal's length has been chosen. -/
def P90 (p n : Nat) (a : Act) : Prop := ∃ (fo n2 : Nat), a.tmps.getD 9 undef = .int .i64 (fo : Int) ∧ fo < 8 ∧ a.tmps.getD 13 undef = .int .i64 (n2 : Int) ∧ 1 ≤ n2 ∧ p + n2 ≤ n

/-- What holds of a frame between an element's parts. -/
structure WrM (w : World) (A B : Option Addr) (n c nh ch : Nat) (t : List UInt8) (v1 : Value) (p0 : Nat) (d : Nat) (P : Act → Prop) (a : Act) (wr : World) : Prop where
  size : a.tmps.size = 105
  defs : a.defers = []
  s0 : a.tmps.getD 0 undef = .slice A n c
  s1 : a.tmps.getD 1 undef = .slice B nh ch
  old : a.tmps.getD 2 undef = undef ∧ a.tmps.getD 3 undef = undef ∧ a.tmps.getD 4 undef = .slice none 0 0 ∧ a.tmps.getD 14 undef = .slice A n c ∧ a.tmps.getD 15 undef = .int .i64 (n : Int) ∧ a.tmps.getD 16 undef = v1 ∧ a.tmps.getD 104 undef = undef
  pos : a.tmps.getD 6 undef = .int .i64 (p0 : Int)
  st : ∃ (p k : Nat) (E : List UInt8), a.tmps.getD 6 undef = .int .i64 (p : Int) ∧ a.tmps.getD 7 undef = .int .i64 (k : Int) ∧ p < n ∧ k ≤ p + d ∧ Own w.heap.size wr (a.tmps.getD 5 undef) (Lib.uvarint n ++ E) ∧ Ev E [] (t.take p) ∧ E.length ≤ 6 * p ∧ Below w.heap.size w wr
  more : P a

set_option maxRecDepth 100000 in
set_option maxHeartbeats 8000000 in
theorem write_any (A : Option Addr) (n c : Nat) (vh : Value) (nh : Nat) (t : List UInt8) (w : World) (hl : t.length = n) (hn : n ≤ 1000000) (hR : Rd w (.slice A n c) t) (hH : HowRd w vh nh) (hnh : nh ≤ 1000) :
    Calls Tryd.prog 16 #[.slice A n c, vh] w fun e w' => ∃ v' E, e = .returned v' ∧ Own w.heap.size w' v' (Lib.uvarint n ++ E) ∧ Ev E [] t ∧ E.length ≤ 6 * n ∧ Below w.heap.size w w' := by
  have hva := varint_any n w (by omega)
  obtain ⟨B, ch, rfl, hH⟩ := hH
  have hA : 0 < n → ∃ b off, A = some ⟨b, off, none⟩ ∧ Bs w b off t := by
    obtain ⟨A, c, he, -, -, -, h⟩ := hR
    simp only [Value.slice.injEq] at he
    obtain ⟨rfl, -, rfl⟩ := he
    rw [← hl]; exact h
  have Hl := Lib.hid hl
  have HR := Lib.hid hR
  have HA := Lib.hid hA
  have HH := Lib.hid hH
  have Hva := Lib.hid hva
  clear hl hR hA hH hva
  go_enter Tryd.func16, Tryd.ntmps16
  go_wp2_with fail
  refine (Hva.out).mono ?_
  rintro e w1 ⟨v1, rfl, hown, hb1⟩
  have Hown := Lib.hid hown
  have HB1 := Lib.hid hb1
  clear hown hb1 Hva
  go_wp2_with fail
  go_loopw [5, 6, 7] (WrSt w n t) (fun _ v6 _ _ => n - (intOf v6).toNat)
  case atStart => exact ⟨0, 0, [], rfl, rfl, by omega, by omega, by rw [List.append_nil]; exact Hown.out, .nil _, by simp, HB1.out⟩
  case round =>
    obtain ⟨p, k, E, rfl, rfl, hp, hk, hown, hev, hEl, hbel⟩ := hrel
    by_cases hpn : p < n
    · have hbw := hbel.size
      have HSt := Lib.hid (And.intro hown (And.intro hev (And.intro hEl hbel)))
      have HHr := Lib.hid (HowRd.below (show HowRd w (.slice B nh ch) nh from ⟨B, ch, rfl, HH.out⟩) hbel)
      clear hown hev hEl hbel
      go_upto_if 23 with fail
      refine wp_meet (WrM w A B n c nh ch t v1 p 0 (fun a => ∃ c0 : Nat, a.tmps.getD 8 undef = .int .i64 (c0 : Int) ∧ c0 < 268435456)) ?_ ?_
      · obtain ⟨s1, s2, s3, s4⟩ := HSt.out
        by_cases hnz : 0 < nh
        · have c1 : ((0 : Int) < (nh : Int)) = True := by simp; omega
          obtain ⟨A', ch', he, hcells⟩ := HHr.out
          simp only [Value.slice.injEq, true_and] at he
          obtain ⟨rfl, rfl⟩ := he
          obtain ⟨bh, oh, rfl, hcl2⟩ := hcells hnz
          obtain ⟨j, hj⟩ : ∃ j, k % nh = j := ⟨_, rfl⟩
          have hjn : j < nh := by rw [← hj]; exact Nat.mod_lt _ hnz
          have hjz : (k : Int) % (nh : Int) = (j : Int) := by rw [← hj]; simp
          obtain ⟨z, hz⟩ := hcl2 j hjn
          have hj0 : (0 : Int) ≤ (j : Int) := by omega
          have hj1 : (j : Int) < (nh : Int) := by omega
          have hand := i64_and28 z
          obtain ⟨c0, hc0⟩ : ∃ c0 : Nat, bits .and .i64 z 268435455 = (c0 : Int) := ⟨(bits .and .i64 z 268435455).toNat, by omega⟩
          have hc1 : c0 < 268435456 := by omega
          have S1 := Lib.hid s1
          have S2 := Lib.hid s2
          have S3 := Lib.hid s3
          have S4 := Lib.hid s4
          clear s1 s2 s3 s4 hand hcells hcl2 hj
          go_wp2_with fail
          exact ⟨rfl, rfl, rfl, rfl, ⟨rfl, rfl, rfl, rfl, rfl, rfl, rfl⟩, rfl, ⟨p, k, E, rfl, rfl, hpn, by omega, S1.out, S2.out, S3.out, S4.out⟩, c0, rfl, hc1⟩
        · have c1 : ((0 : Int) < (nh : Int)) = False := by simp; omega
          go_wp2_with fail
          exact ⟨rfl, rfl, rfl, rfl, ⟨rfl, rfl, rfl, rfl, rfl, rfl, rfl⟩, rfl, ⟨p, k, E, rfl, rfl, hpn, by omega, s1, s2, s3, s4⟩, 0, rfl, by omega⟩
      · intro a2 wr2 hI
        obtain ⟨c0, h8, hc0⟩ := hI.more
        obtain ⟨p2, k2, E2, h6, h7, hp2, hk2, hown2, hev2, hEl2, hbel2⟩ := hI.st
        have hps2 := hI.pos.symm.trans h6
        simp only [Value.int.injEq, true_and] at hps2
        have Hpe2 := Lib.hid (show p = p2 by omega)
        clear hps2
        obtain ⟨fr, rfl, hfr⟩ := open105 a2 hI.size hI.defs
        have e0 := (hfr 0).symm.trans hI.s0
        have e1 := (hfr 1).symm.trans hI.s1
        obtain ⟨q2, q3, q4, q14, q15, q16, q104⟩ := hI.old
        have e2 := (hfr 2).symm.trans q2
        have e3 := (hfr 3).symm.trans q3
        have e4 := (hfr 4).symm.trans q4
        have e14 := (hfr 14).symm.trans q14
        have e15 := (hfr 15).symm.trans q15
        have e16 := (hfr 16).symm.trans q16
        have e104 := (hfr 104).symm.trans q104
        have e6 := (hfr 6).symm.trans h6
        have e7 := (hfr 7).symm.trans h7
        have e8 := (hfr 8).symm.trans h8
        rw [hfr 5] at hown2
        rw [e0, e1, e2, e3, e4, e14, e15, e16, e104, e6, e7, e8]
        have HSt2 := Lib.hid (And.intro hown2 (And.intro hev2 (And.intro hEl2 hbel2)))
        have hbw2 := hbel2.size
        obtain ⟨fo, hfo⟩ : ∃ fo, c0 % 8 = fo := ⟨_, rfl⟩
        obtain ⟨re, hre⟩ : ∃ re, c0 / 8 = re := ⟨_, rfl⟩
        have hfoz : (c0 : Int) % 8 = (fo : Int) := by omega
        have hrez : (c0 : Int) / 8 = (re : Int) := by omega
        have hfo8 : fo < 8 := by omega
        have hre8 : re < 33554432 := by omega
        clear q2 q3 q4 q14 q15 q16 q104 e2 e3 e4 e14 e15 e16 e104 hI h6 h7 h8 hfr e0 e1 e6 e7 e8 hown2 hev2 hEl2 hbel2 HSt HHr hbw hfo hre
        go_upto_region 9 with fail
        refine wp_meet (WrM w A B n c nh ch t v1 p 1 (fun a => ∃ (fo re p : Nat) (b : Bool), a.tmps.getD 9 undef = .int .i64 (fo : Int) ∧ a.tmps.getD 10 undef = .int .i64 (re : Int) ∧ fo < 8 ∧ re < 33554432 ∧ a.tmps.getD 6 undef = .int .i64 (p : Int) ∧ a.tmps.getD 43 undef = .bool b ∧ (b = true → 4 < fo ∧ 0 < p))) ?_ ?_
        · obtain ⟨s1, s2, s3, s4⟩ := HSt2.out
          by_cases h4 : 4 < fo
          · have c4 : ((4 : Int) < (fo : Int)) = True := by simp; omega
            by_cases h0 : 0 < p2
            · have c5 : ((0 : Int) < (p2 : Int)) = True := by simp; omega
              go_wp2_with fail
              exact ⟨rfl, rfl, rfl, rfl, ⟨rfl, rfl, rfl, rfl, rfl, rfl, rfl⟩, int_ext (by have := Hpe2.out; omega), ⟨p2, k2 + 1, E2, rfl, by first | rfl | exact int_ext (by omega), hp2, by omega, s1, s2, s3, s4⟩, fo, re, p2, true, (by first | rfl | exact int_ext hfoz), rfl, hfo8, hre8, rfl, rfl, fun _ => ⟨h4, h0⟩⟩
            · have c5 : ((0 : Int) < (p2 : Int)) = False := by simp; omega
              go_wp2_with fail
              exact ⟨rfl, rfl, rfl, rfl, ⟨rfl, rfl, rfl, rfl, rfl, rfl, rfl⟩, int_ext (by have := Hpe2.out; omega), ⟨p2, k2 + 1, E2, rfl, by first | rfl | exact int_ext (by omega), hp2, by omega, s1, s2, s3, s4⟩, fo, re, p2, false, (by first | rfl | exact int_ext hfoz), rfl, hfo8, hre8, rfl, rfl, fun h => by cases h⟩
          · have c4 : ((4 : Int) < (fo : Int)) = False := by simp; omega
            go_wp2_with fail
            exact ⟨rfl, rfl, rfl, rfl, ⟨rfl, rfl, rfl, rfl, rfl, rfl, rfl⟩, int_ext (by have := Hpe2.out; omega), ⟨p2, k2 + 1, E2, rfl, by first | rfl | exact int_ext (by omega), hp2, by omega, s1, s2, s3, s4⟩, fo, re, p2, false, (by first | rfl | exact int_ext hfoz), rfl, hfo8, hre8, rfl, rfl, fun h => by cases h⟩
        · clear HSt2
          intro a3 wr3 hI
          obtain ⟨fo, re, p3, b, h9, h10, hfo8, hre8, h6, h43, hb⟩ := hI.more
          obtain ⟨p3', k3, E3, h6', h7, hp3, hk3, hown3, hev3, hEl3, hbel3⟩ := hI.st
          have hpp := h6.symm.trans h6'
          simp only [Value.int.injEq, true_and] at hpp
          have hpp' : p3 = p3' := by omega
          subst hpp'
          have hps3 := hI.pos.symm.trans h6
          simp only [Value.int.injEq, true_and] at hps3
          have Hpe3 := Lib.hid (show p = p3 by omega)
          clear hps3
          obtain ⟨fr, rfl, hfr⟩ := open105 a3 hI.size hI.defs
          have e0 := (hfr 0).symm.trans hI.s0
          have e1 := (hfr 1).symm.trans hI.s1
          obtain ⟨q2, q3, q4, q14, q15, q16, q104⟩ := hI.old
          have e2 := (hfr 2).symm.trans q2
          have e3 := (hfr 3).symm.trans q3
          have e4 := (hfr 4).symm.trans q4
          have e14 := (hfr 14).symm.trans q14
          have e15 := (hfr 15).symm.trans q15
          have e16 := (hfr 16).symm.trans q16
          have e104 := (hfr 104).symm.trans q104
          have e6 := (hfr 6).symm.trans h6
          have e7 := (hfr 7).symm.trans h7
          have e9 := (hfr 9).symm.trans h9
          have e10 := (hfr 10).symm.trans h10
          have e43 := (hfr 43).symm.trans h43
          rw [hfr 5] at hown3
          rw [e0, e1, e2, e3, e4, e14, e15, e16, e104, e6, e7, e9, e10, e43]
          have HSt3 := Lib.hid (And.intro hown3 (And.intro hev3 (And.intro hEl3 hbel3)))
          have hbw3 := hbel3.size
          clear q2 q3 q4 q14 q15 q16 q104 e2 e3 e4 e14 e15 e16 e104 hI h6 h6' h7 h9 h10 h43 hfr e0 e1 e6 e7 e9 e10 e43 hown3 hev3 hEl3 hbel3 hpp hbw2
          go_upto_if 43 with fail
          refine wp_meet (WrM w A B n c nh ch t v1 p 1 (fun a => ∃ (fo re : Nat), a.tmps.getD 9 undef = .int .i64 (fo : Int) ∧ a.tmps.getD 10 undef = .int .i64 (re : Int) ∧ fo < 8 ∧ re < 33554432)) ?_ ?_
          · cases b with
            | false =>
              obtain ⟨s1, s2, s3, s4⟩ := HSt3.out
              go_wp2_with fail
              exact ⟨rfl, rfl, rfl, rfl, ⟨rfl, rfl, rfl, rfl, rfl, rfl, rfl⟩, int_ext (by have := Hpe3.out; omega), ⟨p3, k3, E3, rfl, rfl, hp3, hk3, s1, s2, s3, s4⟩, fo, re, rfl, rfl, hfo8, hre8⟩
            | true =>
              obtain ⟨hf4, hp0⟩ := hb rfl
              obtain ⟨form, hform⟩ : ∃ form, fo = form + 4 := ⟨fo - 4, by omega⟩
              have hform3 : form = 1 ∨ form = 2 ∨ form = 3 := by omega
              have hfmz : (fo : Int) - 4 = (form : Int) := by omega
              have hfi := find_at (form : Int) form A n c p3 re t wr3 hform3 rfl Hl.out (HR.out.below HSt3.out.2.2.2) hn hp3 hp0 (by omega)
              have Hfi := Lib.hid hfi
              have Hform := Lib.hid hform
              have Hform3 := Lib.hid hform3
              clear hfi hform hform3 hb
              go_wp2_with fail
              refine (Hfi.out).mono ?_
              rintro e w4 ⟨hd4, m, f, rfl, hF⟩
              have hb4 := hd4.below w.heap.size
              have HB4 := Lib.hid hb4
              have hb4b := hd4.below wr3.heap.size
              have HB4b := Lib.hid hb4b
              have HF := Lib.hid hF
              clear hd4 hb4 hb4b hF Hfi
              by_cases hm0 : 0 < m
              · have c6 : ((0 : Int) < (m : Int)) = True := by simp; omega
                obtain ⟨g1, g2, g3, g4, g5⟩ : 0 < m ∧ 1 ≤ f ∧ f ≤ p3 ∧ Mat t p3 f m ∧ fitsB form m f = true := by
                  rcases HF.out with h | h
                  · omega
                  · exact h
                have hco := copy_at (form : Int) form m f w4 Hform3.out rfl g2 g5
                have Hco := Lib.hid hco
                have G4 := Lib.hid g4
                clear hco g4 g5
                go_wp2_with fail
                refine (Hco.out).mono ?_
                rintro e w5 ⟨v5, bs, rfl, ho5, ⟨hsay, hbl⟩, hb5⟩
                obtain ⟨s1, s2, s3, s4⟩ := HSt3.out
                have hO5 := (s1.below HB4b.out).below hb5
                have hB5 := (s4.trans HB4.out).trans (hb5.mono (s4.trans HB4.out).size)
                have hul := Lib.uvarint_length64 (x := n) (by omega)
                have hln : (Lib.uvarint n ++ E3).length + bs.length ≤ 1099511627776 := by rw [List.length_append]; omega
                have hsz := hB5.size
                have HO5 := Lib.hid hO5
                have HB5 := Lib.hid hB5
                have HR5 := Lib.hid ho5.rd
                have HA5 := Lib.hid ho5.arg
                have hEv := s2.append (mat_says G4.out g3 g2 hsay)
                have HEv := Lib.hid hEv
                have hm1 := G4.out.1
                rw [Hl.out] at hm1
                clear s1 s2 s4 hO5 hB5 ho5 hsay hb5 hEv hul Hco
                go_wp2_with (at_builtin; go_loud (refine wpList_appA rfl (.tmp 55) (.tmp 60) rfl w.heap.size _ (Lib.uvarint n ++ E3) rfl HO5.out _ bs rfl HR5.out HA5.out hln hsz ?_); intro v' w' hown' hb' hg'; have HO := Lib.hid hown'; have HB' := Lib.hid hb'; clear hown' hb' hg')
                go_roundw
                case rel =>
                  refine ⟨p3 + m, k3, E3 ++ bs, int_ext (by omega), rfl, by omega, by omega, ?_, HEv.out, by rw [List.length_append]; omega, HB5.out.trans HB'.out⟩
                  have := HO.out
                  rw [List.append_assoc] at this
                  exact this
                case measure =>
                  have := Hpe3.out
                  simp only [intOf]
                  omega
              · have c6 : ((0 : Int) < (m : Int)) = False := by simp; omega
                obtain ⟨s1, s2, s3, s4⟩ := HSt3.out
                have hO5 := s1.below HB4b.out
                have hB5 := s4.trans HB4.out
                have HO5 := Lib.hid hO5
                have HB5 := Lib.hid hB5
                have S2 := Lib.hid s2
                clear s1 s2 s4 hO5 hB5
                go_wp2_with fail
                exact ⟨rfl, rfl, rfl, rfl, ⟨rfl, rfl, rfl, rfl, rfl, rfl, rfl⟩, int_ext (by have := Hpe3.out; omega), ⟨p3, k3, E3, rfl, rfl, hp3, hk3, HO5.out, S2.out, s3, HB5.out⟩, fo, re, rfl, rfl, hfo8, hre8⟩
          · clear HSt3
            intro a4 wr4 hI
            obtain ⟨fo, re, h9, h10, hfo8, hre8⟩ := hI.more
            obtain ⟨p4, k4, E4, h6, h7, hp4, hk4, hown4, hev4, hEl4, hbel4⟩ := hI.st
            have hps4 := hI.pos.symm.trans h6
            simp only [Value.int.injEq, true_and] at hps4
            have Hpe4 := Lib.hid (show p = p4 by omega)
            clear hps4
            obtain ⟨fr, rfl, hfr⟩ := open105 a4 hI.size hI.defs
            have e0 := (hfr 0).symm.trans hI.s0
            have e1 := (hfr 1).symm.trans hI.s1
            obtain ⟨q2, q3, q4, q14, q15, q16, q104⟩ := hI.old
            have e2 := (hfr 2).symm.trans q2
            have e3 := (hfr 3).symm.trans q3
            have e4 := (hfr 4).symm.trans q4
            have e14 := (hfr 14).symm.trans q14
            have e15 := (hfr 15).symm.trans q15
            have e16 := (hfr 16).symm.trans q16
            have e104 := (hfr 104).symm.trans q104
            have e6 := (hfr 6).symm.trans h6
            have e7 := (hfr 7).symm.trans h7
            have e9 := (hfr 9).symm.trans h9
            have e10 := (hfr 10).symm.trans h10
            rw [hfr 5] at hown4
            rw [e0, e1, e2, e3, e4, e14, e15, e16, e104, e6, e7, e9, e10]
            have HSt4 := Lib.hid (And.intro hown4 (And.intro hev4 (And.intro hEl4 hbel4)))
            clear q2 q3 q4 q14 q15 q16 q104 e2 e3 e4 e14 e15 e16 e104 hI h6 h7 h9 h10 hfr e0 e1 e6 e7 e9 e10 hown4 hev4 hEl4 hbel4 hbw3
            have c9 : ((1 : Int) + (re : Int) % 400) = ((1 + re % 400 : Nat) : Int) := by omega
            obtain ⟨n2, hn2⟩ : ∃ n2, 1 + re % 400 = n2 := ⟨_, rfl⟩
            rw [hn2] at c9
            have hn21 : 1 ≤ n2 := by omega
            have hn22 : n2 ≤ 400 := by omega
            clear hn2
            go_upto_region 15 with fail
            refine wp_meet (WrM w A B n c nh ch t v1 p 1 (fun a => ∃ (fo re n2 : Nat) (b : Bool), a.tmps.getD 9 undef = .int .i64 (fo : Int) ∧ a.tmps.getD 10 undef = .int .i64 (re : Int) ∧ fo < 8 ∧ re < 33554432 ∧ a.tmps.getD 13 undef = .int .i64 (n2 : Int) ∧ 1 ≤ n2 ∧ a.tmps.getD 78 undef = .bool b ∧ (b = false → p + n2 ≤ n))) ?_ ?_
            · obtain ⟨s1, s2, s3, s4⟩ := HSt4.out
              have hpe := Hpe4.out
              by_cases h5 : re % 5 = 0
              · have c5 : ((re : Int) % 5 == 0) = true := by simp; omega
                go_wp2_with fail
                exact ⟨rfl, rfl, rfl, rfl, ⟨rfl, rfl, rfl, rfl, rfl, rfl, rfl⟩, int_ext (by omega), ⟨p4, k4, E4, rfl, rfl, hp4, hk4, s1, s2, s3, s4⟩, fo, re, n2, true, rfl, rfl, hfo8, hre8, by first | rfl | exact int_ext c9, hn21, rfl, fun h => by cases h⟩
              · have c5 : ((re : Int) % 5 == 0) = false := by simp; omega
                by_cases hgt : n - p4 < n2
                · have c6 : ((n : Int) - (p4 : Int) < (n2 : Int)) = True := by simp; omega
                  go_wp2_with fail
                  exact ⟨rfl, rfl, rfl, rfl, ⟨rfl, rfl, rfl, rfl, rfl, rfl, rfl⟩, int_ext (by omega), ⟨p4, k4, E4, rfl, rfl, hp4, hk4, s1, s2, s3, s4⟩, fo, re, n2, true, rfl, rfl, hfo8, hre8, by first | rfl | exact int_ext c9, hn21, rfl, fun h => by cases h⟩
                · have c6 : ((n : Int) - (p4 : Int) < (n2 : Int)) = False := by simp; omega
                  go_wp2_with fail
                  exact ⟨rfl, rfl, rfl, rfl, ⟨rfl, rfl, rfl, rfl, rfl, rfl, rfl⟩, int_ext (by omega), ⟨p4, k4, E4, rfl, rfl, hp4, hk4, s1, s2, s3, s4⟩, fo, re, n2, false, rfl, rfl, hfo8, hre8, by first | rfl | exact int_ext c9, hn21, rfl, fun _ => by omega⟩
            · clear HSt4
              intro a5 wr5 hI
              obtain ⟨fo, re, n2, b5, h9, h10, hfo8, hre8, h13, hn21, h78, hb5⟩ := hI.more
              obtain ⟨p5, k5, E5, h6, h7, hp5, hk5, hown5, hev5, hEl5, hbel5⟩ := hI.st
              have hps5 := hI.pos.symm.trans h6
              simp only [Value.int.injEq, true_and] at hps5
              have Hpe5 := Lib.hid (show p = p5 by omega)
              clear hps5
              obtain ⟨fr, rfl, hfr⟩ := open105 a5 hI.size hI.defs
              have e0 := (hfr 0).symm.trans hI.s0
              have e1 := (hfr 1).symm.trans hI.s1
              obtain ⟨q2, q3, q4, q14, q15, q16, q104⟩ := hI.old
              have e2 := (hfr 2).symm.trans q2
              have e3 := (hfr 3).symm.trans q3
              have e4 := (hfr 4).symm.trans q4
              have e14 := (hfr 14).symm.trans q14
              have e15 := (hfr 15).symm.trans q15
              have e16 := (hfr 16).symm.trans q16
              have e104 := (hfr 104).symm.trans q104
              have e6 := (hfr 6).symm.trans h6
              have e7 := (hfr 7).symm.trans h7
              have e9 := (hfr 9).symm.trans h9
              have e10 := (hfr 10).symm.trans h10
              have e13 := (hfr 13).symm.trans h13
              have e78 := (hfr 78).symm.trans h78
              rw [hfr 5] at hown5
              rw [e0, e1, e2, e3, e4, e14, e15, e16, e104, e6, e7, e9, e10, e13, e78]
              have HSt5 := Lib.hid (And.intro hown5 (And.intro hev5 (And.intro hEl5 hbel5)))
              clear q2 q3 q4 q14 q15 q16 q104 e2 e3 e4 e14 e15 e16 e104 hI h6 h7 h9 h10 h13 h78 hfr e0 e1 e6 e7 e9 e10 e13 e78 hown5 hev5 hEl5 hbel5
              go_upto_if 78 with fail
              refine wp_meet (WrM w A B n c nh ch t v1 p 1 (P78 p n)) ?_ ?_
              · obtain ⟨s1, s2, s3, s4⟩ := HSt5.out
                have hpe := Hpe5.out
                cases b5 with
                | true =>
                  go_wp2_with fail
                  exact ⟨rfl, rfl, rfl, rfl, ⟨rfl, rfl, rfl, rfl, rfl, rfl, rfl⟩, int_ext (by omega), ⟨p5, k5, E5, rfl, rfl, hp5, hk5, s1, s2, s3, s4⟩, fo, re, n - p5, rfl, rfl, hfo8, hre8, int_ext (by first | omega | (unfold wrap64; omega)), by omega, by omega⟩
                | false =>
                  have hb := hb5 rfl
                  go_wp2_with fail
                  exact ⟨rfl, rfl, rfl, rfl, ⟨rfl, rfl, rfl, rfl, rfl, rfl, rfl⟩, int_ext (by omega), ⟨p5, k5, E5, rfl, rfl, hp5, hk5, s1, s2, s3, s4⟩, fo, re, n2, rfl, rfl, hfo8, hre8, rfl, hn21, by omega⟩
              · clear HSt5 hb5
                intro a6 wr6 hI
                obtain ⟨fo, re, n2, h9, h10, hfo8, hre8, h13, hn21, hn22⟩ := hI.more
                obtain ⟨p6, k6, E6, h6, h7, hp6, hk6, hown6, hev6, hEl6, hbel6⟩ := hI.st
                have hps6 := hI.pos.symm.trans h6
                simp only [Value.int.injEq, true_and] at hps6
                have Hpe6 := Lib.hid (show p = p6 by omega)
                clear hps6
                obtain ⟨fr, rfl, hfr⟩ := open105 a6 hI.size hI.defs
                have e0 := (hfr 0).symm.trans hI.s0
                have e1 := (hfr 1).symm.trans hI.s1
                obtain ⟨q2, q3, q4, q14, q15, q16, q104⟩ := hI.old
                have e2 := (hfr 2).symm.trans q2
                have e3 := (hfr 3).symm.trans q3
                have e4 := (hfr 4).symm.trans q4
                have e14 := (hfr 14).symm.trans q14
                have e15 := (hfr 15).symm.trans q15
                have e16 := (hfr 16).symm.trans q16
                have e104 := (hfr 104).symm.trans q104
                have e6 := (hfr 6).symm.trans h6
                have e7 := (hfr 7).symm.trans h7
                have e9 := (hfr 9).symm.trans h9
                have e10 := (hfr 10).symm.trans h10
                have e13 := (hfr 13).symm.trans h13
                rw [hfr 5] at hown6
                rw [e0, e1, e2, e3, e4, e14, e15, e16, e104, e6, e7, e9, e10, e13]
                have HSt6 := Lib.hid (And.intro hown6 (And.intro hev6 (And.intro hEl6 hbel6)))
                clear q2 q3 q4 q14 q15 q16 q104 e2 e3 e4 e14 e15 e16 e104 hI h6 h7 h9 h10 h13 hfr e0 e1 e6 e7 e9 e10 e13 hown6 hev6 hEl6 hbel6
                go_upto_region 17 with fail
                refine wp_meet (WrM w A B n c nh ch t v1 p 1 (P89 p n)) ?_ ?_
                · obtain ⟨s1, s2, s3, s4⟩ := HSt6.out
                  have hpe := Hpe6.out
                  by_cases h73 : re % 7 = 3
                  · have c5 : ((re : Int) % 7 == 3) = true := by simp; omega
                    by_cases hgt : 60 < n2
                    · have c6 : ((60 : Int) < (n2 : Int)) = True := by simp; omega
                      go_wp2_with fail
                      exact ⟨rfl, rfl, rfl, rfl, ⟨rfl, rfl, rfl, rfl, rfl, rfl, rfl⟩, int_ext (by omega), ⟨p6, k6, E6, rfl, rfl, hp6, hk6, s1, s2, s3, s4⟩, fo, n2, true, rfl, hfo8, rfl, hn21, hn22, rfl, fun _ => by omega⟩
                    · have c6 : ((60 : Int) < (n2 : Int)) = False := by simp; omega
                      go_wp2_with fail
                      exact ⟨rfl, rfl, rfl, rfl, ⟨rfl, rfl, rfl, rfl, rfl, rfl, rfl⟩, int_ext (by omega), ⟨p6, k6, E6, rfl, rfl, hp6, hk6, s1, s2, s3, s4⟩, fo, n2, false, rfl, hfo8, rfl, hn21, hn22, rfl, fun h => by cases h⟩
                  · have c5 : ((re : Int) % 7 == 3) = false := by simp; omega
                    go_wp2_with fail
                    exact ⟨rfl, rfl, rfl, rfl, ⟨rfl, rfl, rfl, rfl, rfl, rfl, rfl⟩, int_ext (by omega), ⟨p6, k6, E6, rfl, rfl, hp6, hk6, s1, s2, s3, s4⟩, fo, n2, false, rfl, hfo8, rfl, hn21, hn22, rfl, fun h => by cases h⟩
                · clear HSt6
                  intro a7 wr7 hI
                  obtain ⟨fo, n2, b7, h9, hfo8, h13, hn21, hn22, h89, hb7⟩ := hI.more
                  obtain ⟨p7, k7, E7, h6, h7, hp7, hk7, hown7, hev7, hEl7, hbel7⟩ := hI.st
                  have hps7 := hI.pos.symm.trans h6
                  simp only [Value.int.injEq, true_and] at hps7
                  have Hpe7 := Lib.hid (show p = p7 by omega)
                  clear hps7
                  obtain ⟨fr, rfl, hfr⟩ := open105 a7 hI.size hI.defs
                  have e0 := (hfr 0).symm.trans hI.s0
                  have e1 := (hfr 1).symm.trans hI.s1
                  obtain ⟨q2, q3, q4, q14, q15, q16, q104⟩ := hI.old
                  have e2 := (hfr 2).symm.trans q2
                  have e3 := (hfr 3).symm.trans q3
                  have e4 := (hfr 4).symm.trans q4
                  have e14 := (hfr 14).symm.trans q14
                  have e15 := (hfr 15).symm.trans q15
                  have e16 := (hfr 16).symm.trans q16
                  have e104 := (hfr 104).symm.trans q104
                  have e6 := (hfr 6).symm.trans h6
                  have e7 := (hfr 7).symm.trans h7
                  have e9 := (hfr 9).symm.trans h9
                  have e13 := (hfr 13).symm.trans h13
                  have e89 := (hfr 89).symm.trans h89
                  rw [hfr 5] at hown7
                  rw [e0, e1, e2, e3, e4, e14, e15, e16, e104, e6, e7, e9, e13, e89]
                  have HSt7 := Lib.hid (And.intro hown7 (And.intro hev7 (And.intro hEl7 hbel7)))
                  clear q2 q3 q4 q14 q15 q16 q104 e2 e3 e4 e14 e15 e16 e104 hI h6 h7 h9 h13 h89 hfr e0 e1 e6 e7 e9 e13 e89 hown7 hev7 hEl7 hbel7
                  go_upto_if 89 with fail
                  refine wp_meet (WrM w A B n c nh ch t v1 p 1 (P90 p n)) ?_ ?_
                  · obtain ⟨s1, s2, s3, s4⟩ := HSt7.out
                    have hpe := Hpe7.out
                    cases b7 with
                    | true =>
                      have hb := hb7 rfl
                      go_wp2_with fail
                      exact ⟨rfl, rfl, rfl, rfl, ⟨rfl, rfl, rfl, rfl, rfl, rfl, rfl⟩, int_ext (by omega), ⟨p7, k7, E7, rfl, rfl, hp7, hk7, s1, s2, s3, s4⟩, fo, 60, rfl, hfo8, rfl, by omega, by omega⟩
                    | false =>
                      go_wp2_with fail
                      exact ⟨rfl, rfl, rfl, rfl, ⟨rfl, rfl, rfl, rfl, rfl, rfl, rfl⟩, int_ext (by omega), ⟨p7, k7, E7, rfl, rfl, hp7, hk7, s1, s2, s3, s4⟩, fo, n2, rfl, hfo8, rfl, hn21, by omega⟩
                  · clear HSt7 hb7
                    intro a8 wr8 hI
                    obtain ⟨fo, n2, h9, hfo8, h13, hn21, hn22⟩ := hI.more
                    obtain ⟨p8, k8, E8, h6, h7, hp8, hk8, hown8, hev8, hEl8, hbel8⟩ := hI.st
                    have hps8 := hI.pos.symm.trans h6
                    simp only [Value.int.injEq, true_and] at hps8
                    have Hpe8 := Lib.hid (show p = p8 by omega)
                    clear hps8
                    obtain ⟨fr, rfl, hfr⟩ := open105 a8 hI.size hI.defs
                    have e0 := (hfr 0).symm.trans hI.s0
                    have e1 := (hfr 1).symm.trans hI.s1
                    obtain ⟨q2, q3, q4, q14, q15, q16, q104⟩ := hI.old
                    have e2 := (hfr 2).symm.trans q2
                    have e3 := (hfr 3).symm.trans q3
                    have e4 := (hfr 4).symm.trans q4
                    have e14 := (hfr 14).symm.trans q14
                    have e15 := (hfr 15).symm.trans q15
                    have e16 := (hfr 16).symm.trans q16
                    have e104 := (hfr 104).symm.trans q104
                    have e6 := (hfr 6).symm.trans h6
                    have e7 := (hfr 7).symm.trans h7
                    have e9 := (hfr 9).symm.trans h9
                    have e13 := (hfr 13).symm.trans h13
                    rw [hfr 5] at hown8
                    rw [e0, e1, e2, e3, e4, e14, e15, e16, e104, e6, e7, e9, e13]
                    have HSt8 := Lib.hid (And.intro hown8 (And.intro hev8 (And.intro hEl8 hbel8)))
                    clear q2 q3 q4 q14 q15 q16 q104 e2 e3 e4 e14 e15 e16 e104 hI h6 h7 h9 h13 hfr e0 e1 e6 e7 e9 e13 hown8 hev8 hEl8 hbel8
                    obtain ⟨bA, oA, rfl, hBs⟩ := HA.out (by omega)
                    have hnc : n ≤ c := by
                      obtain ⟨A', c', he, h2, -⟩ := HR.out
                      simp only [Value.slice.injEq] at he
                      obtain ⟨-, -, rfl⟩ := he
                      rw [← Hl.out]; exact h2
                    have hc2 : c ≤ 9223372036854775807 := by
                      obtain ⟨A', c', he, -, h3, -⟩ := HR.out
                      simp only [Value.slice.injEq] at he
                      obtain ⟨-, -, rfl⟩ := he
                      exact h3
                    have hpe8 := Hpe8.out
                    have hmid := slice_mid_w (p8 : Int) ((p8 : Int) + (n2 : Int)) bA oA n c p8 (p8 + n2) rfl (by omega) (by omega) (by omega) (by omega)
                    rw [show p8 + n2 - p8 = n2 from by omega] at hmid
                    have htl : ((t.drop p8).take n2).length = n2 := by rw [List.length_take, List.length_drop, Hl.out]; omega
                    have hlit := literal_at ((fo : Int) % 5) (fo % 5) ⟨bA, oA + p8, none⟩ n2 (c - p8) ((t.drop p8).take n2) wr8 (by omega) (by omega)
                      ⟨_, _, by rw [htl], by omega, by omega, fun h => by (cases h), fun _ => ⟨_, _, rfl, ((hBs.below HSt8.out.2.2.2).drop p8).take n2⟩⟩ htl hn21 (by omega)
                    have Hlit := Lib.hid hlit
                    have Htl := Lib.hid htl
                    clear hlit htl hnc hc2 hBs
                    go_wp2_with fail
                    refine (Hlit.out).mono ?_
                    rintro e w9 ⟨v9, bs, rfl, ho9, ⟨hsay, hbl⟩, hb9⟩
                    rw [Htl.out] at hbl
                    obtain ⟨s1, s2, s3, s4⟩ := HSt8.out
                    have hO9 := s1.below hb9
                    have hB9 := s4.trans (hb9.mono s4.size)
                    have hul := Lib.uvarint_length64 (x := n) (by omega)
                    have hln : (Lib.uvarint n ++ E8).length + bs.length ≤ 1099511627776 := by rw [List.length_append]; omega
                    have hsz := hB9.size
                    have hEv := s2.append (hsay (t.take p8))
                    rw [← List.take_add] at hEv
                    have HO9 := Lib.hid hO9
                    have HB9 := Lib.hid hB9
                    have HR9 := Lib.hid ho9.rd
                    have HA9 := Lib.hid ho9.arg
                    have HEv := Lib.hid hEv
                    clear s1 s2 s4 hO9 hB9 ho9 hsay hb9 hEv hul Hlit hmid
                    go_wp2_with (at_builtin; go_loud (refine wpList_appA rfl (.tmp 90) (.tmp 99) rfl w.heap.size _ (Lib.uvarint n ++ E8) rfl HO9.out _ bs rfl HR9.out HA9.out hln hsz ?_); intro v' w' hown' hb' hg'; have HO := Lib.hid hown'; have HB' := Lib.hid hb'; clear hown' hb' hg')
                    go_roundw
                    case rel =>
                      refine ⟨p8 + n2, k8, E8 ++ bs, int_ext (by omega), rfl, by omega, by omega, ?_, HEv.out, by rw [List.length_append]; omega, HB9.out.trans HB'.out⟩
                      have := HO.out
                      rw [List.append_assoc] at this
                      exact this
                    case measure =>
                      simp only [intOf]
                      omega
    · obtain rfl : p = n := by omega
      have ht : t.take p = t := by rw [← Hl.out, List.take_length]
      rw [ht] at hev
      have Hown2 := Lib.hid hown
      have Hbel := Lib.hid hbel
      have Hev := Lib.hid hev
      clear hown hbel hev
      go_wp2
      go_ret
      exact ⟨_, E, rfl, Hown2.out, Hev.out, hEl, Hbel.out⟩
end Go.Proofs.YtfnejblenapddaaDoor
