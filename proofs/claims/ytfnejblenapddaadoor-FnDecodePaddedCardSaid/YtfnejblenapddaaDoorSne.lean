/- snappy.Encode by its contract. -/
import Derived.Test.YtfnejblenapddaaDoorPutu
import Derived.Test.YtfnejblenapddaaDoorEnc
import Derived.Test.YtfnejblenapddaaDoorFr2
import Derived.Laws.MakeOwn
set_option linter.unusedVariables false
namespace Go.Proofs.YtfnejblenapddaaDoor
open Go Go.RowKit

/-- What make gives for bytes. -/
def Z5 (n : Nat) : Array Value := madeCells (Value.int .u8 0).cells n
theorem Z5_size (n : Nat) : (Z5 n).toList.length = n := by simp [Z5, size_madeCells]
theorem run_make5 (n : Nat) (hn : n ≤ 281474976710656) : ∀ W, (Instr.makeSlice 22 (.int .i64 (n : Int)) (.int .i64 (n : Int))).run Tryd.prog W = .ok (.slice (some ⟨W.heap.size, 0, none⟩) n n) (W.alloc (.cells (Z5 n) 5)) := by
  intro W
  obtain ⟨i, hi, hz, hs, hb⟩ := info_parts5
  have h := run_make (P := Tryd.prog) W 22 5 i (.int .u8 0) Tryd.underlying22 hi hz .i64 .i64 (n : Int) (n : Int) (by omega) (by omega) (by rw [hb]; omega) (by omega)
  rw [hs, Nat.mul_one, Int.toNat_natCast] at h
  exact h
theorem Blk.made (w : World) (n : Nat) : Blk (w.alloc (.cells (Z5 n) 5)) w.heap.size (Z5 n).toList := by
  unfold Blk
  rw [heap_alloc_new]
theorem gb_made (w : World) (o : Obj) (row : Option Nat) : w.grownBy (w.alloc o) row := gb_below ((Below.refl w.heap.size w).alloc (Nat.le_refl _) o) row

/-- Room for an encoded block, or none. -/
def Room (B m b : Nat) (w : World) (A : Option Addr) (M c : Nat) : Prop :=
  (A = none ∧ M = 0 ∧ c = 0) ∨ ∃ g0 L, A = some ⟨g0, 0, none⟩ ∧ Blk w g0 L ∧ M ≤ L.length ∧ M ≤ c ∧ c ≤ 9223372036854775807 ∧ B ≤ g0 ∧ (0 < m → b ≠ g0)

/-- What snappy.Encode leaves. -/
def Packed (B : Nat) (bs : List UInt8) (w : World) (e : Ending) (w' : World) : Prop :=
  ∃ (g c : Nat) (L' : List Value) (blk E : List UInt8), e = .returned (.slice (some ⟨g, 0, none⟩) blk.length c) ∧ blk.length ≤ c ∧ c ≤ 9223372036854775807 ∧ Ev E [] bs ∧ blk = Lib.uvarint bs.length ++ E ∧
    blk.length ≤ 32 + bs.length + bs.length / 6 ∧ blk.length ≤ L'.length ∧ Blk w' g (splice L' 0 (bc blk)) ∧ B ≤ g ∧ w.grownBy w' (some g)

/-- The state at the head of the loop. -/
def SnSt (w : World) (g b off m M : Nat) (lc : Nat) (bs : List UInt8) (L : List Value) (v1 v6 : Value) (wr : World) : Prop :=
  ∃ (p d lc' : Nat) (A : Option Addr) (E : List UInt8), v1 = .slice A (m - p) lc' ∧ v6 = .int .i64 (d : Int) ∧ p ≤ m ∧ m - p ≤ lc' ∧ lc' ≤ 9223372036854775807 ∧ (p < m → A = some ⟨b, off + p, none⟩ ∧ d ≤ 10 + p + p / 64) ∧
    d ≤ 14 + p + p / 64 ∧ Ev E [] (bs.take p) ∧ (Lib.uvarint m ++ E).length = d ∧ Blk wr g (splice L 0 (bc (Lib.uvarint m ++ E))) ∧ w.grownBy wr (some g)

theorem SnSt.next {w wr w' : World} {g p d q m : Nat} {bs E E2 : List UInt8} {L : List Value} (hE : Ev E [] (bs.take p)) (hl : (Lib.uvarint m ++ E).length = d) (hg : w.grownBy wr (some g)) (h2 : Ev E2 [] ((bs.drop p).take q))
    (hW : Wrote wr w' g (splice (splice L 0 (bc (Lib.uvarint m ++ E))) d (bc E2))) (hfit : d + E2.length ≤ L.length) :
    Ev (E ++ E2) [] (bs.take (p + q)) ∧ (Lib.uvarint m ++ (E ++ E2)).length = d + E2.length ∧ Blk w' g (splice L 0 (bc (Lib.uvarint m ++ (E ++ E2)))) ∧ w.grownBy w' (some g) := by
  refine ⟨?_, by rw [← List.append_assoc, List.length_append, hl], ?_, gb_trans hg hW.2⟩
  · have := hE.join h2
    rw [List.take_add]
    exact this
  · have h := splice_append L 0 (bc (Lib.uvarint m ++ E)) (bc E2) (by rw [bc_length, bc_length, hl]; omega)
    rw [bc_length, hl, Nat.zero_add] at h
    have hB := hW.1
    rw [h, ← bc_append, List.append_assoc] at hB
    exact hB

/-- What holds when the room has been chosen. -/
structure SnMid (B m b lc M0 : Nat) (A : Option Addr) (w : World) (a : Act) (w' : World) : Prop where
  size : a.tmps.size = 56
  defs : a.defers = []
  s1 : a.tmps.getD 1 undef = .slice A m lc
  room : ∃ (g M c : Nat) (L : List Value), a.tmps.getD 0 undef = .slice (some ⟨g, 0, none⟩) M c ∧ Blk w' g L ∧ M ≤ L.length ∧ M0 ≤ M ∧ M ≤ c ∧ c ≤ 9223372036854775807 ∧ B ≤ g ∧ (0 < m → b ≠ g) ∧ w.grownBy w' none

set_option maxHeartbeats 3200000 in
theorem snEnc_any (B m lc b off M c : Nat) (A Av : Option Addr) (bs : List UInt8) (w : World) (hm : bs.length = m) (hm2 : m ≤ 2147483647) (hA : 0 < m → A = some ⟨b, off, none⟩) (hb : Bs w b off bs)
    (hlc : m ≤ lc) (hlc2 : lc ≤ 9223372036854775807) (hBw : B ≤ w.heap.size) (hv : Room B m b w Av M c) :
    Calls Tryd.prog 32 #[.slice Av M c, .slice A m lc] w (Packed B bs w) := by
  have hmax := maxEnc_any m w hm2
  obtain ⟨M0, hM0⟩ : ∃ M0, M0 = 32 + m + m / 6 := ⟨_, rfl⟩
  rw [← hM0] at hmax
  have hmk := run_make5 M0 (by omega)
  have HA := Lib.hid hA
  have Hb := Lib.hid hb
  have Hv := Lib.hid hv
  have Hmax := Lib.hid hmax
  have Hm := Lib.hid hm
  have hneg : ((M0 : Int) < 0) = False := by simp
  have hM0a : 32 + m ≤ M0 := by omega
  have hM0b : M0 ≤ 281474976710656 := by omega
  have HM0 := Lib.hid hM0
  clear hM0
  clear hA hb hv hmax hm
  go_enter Tryd.func32, Tryd.ntmps32
  go_wp2_with fail
  refine (Hmax.out).mono ?_
  rintro e w1 ⟨rfl, rfl⟩
  go_upto_if 17 with fail
  refine wp_meet (SnMid B m b lc M0 A w1) ?_ ?_
  · have hbl : 0 < m → b < w1.heap.size := fun h => Hb.out.lt (by rw [Hm.out]; exact h)
    by_cases hM : M < M0
    · have hlt : ((M : Int) < (M0 : Int)) = True := by simp; omega
      go_wp2_with fail
      exact ⟨rfl, rfl, rfl, w1.heap.size, M0, M0, (Z5 M0).toList, rfl, Blk.made _ _, by rw [Z5_size]; omega, by omega, by omega, by omega, hBw, fun h => by have := hbl h; omega, gb_made _ _ _⟩
    · have hlt : ((M : Int) < (M0 : Int)) = False := by simp; omega
      rcases Hv.out with ⟨rfl, rfl, rfl⟩ | ⟨g0, L, rfl, h2, h3, h4, h5, h6, h7⟩
      · exact absurd hM (by omega)
      · go_wp2_with fail
        exact ⟨rfl, rfl, rfl, g0, M, c, L, rfl, h2, h3, by omega, h4, h5, h6, h7, gb_refl _ _⟩
  · intro a0 w2 hI
    obtain ⟨g, M, c, L, h0, hB, hML, hM0M, hMc, hc, hBg, hbg, hgb⟩ := hI.room
    obtain ⟨fr, rfl, hfr⟩ := open56 a0 hI.size hI.defs
    have e0 := (hfr 0).symm.trans h0
    have e1 := (hfr 1).symm.trans hI.s1
    rw [e0, e1]
    clear hI h0 hfr e0 e1 hmk Hmax
    have hput := putUvarint_any g M c m L w2 hB hm2 (by omega) hML hMc hc
    have Hput := Lib.hid hput
    have HB := Lib.hid hB
    have Hgb := Lib.hid hgb
    clear hput hB hgb
    have hu64 : IntKind.u64.wrap (m : Int) = (m : Int) := wraps_u64 _ (by omega) (by omega)
    go_wp2_with fail
    refine (Hput.out).mono ?_
    rintro e w3 ⟨rfl, hW⟩
    have HW := Lib.hid hW
    clear hW Hput hneg
    go_wp2
    go_loopw [1, 6] (SnSt w1 g b off m M lc bs L) (fun v1 _ _ => match v1 with | .slice _ n _ => n | _ => 0)
    case atStart =>
      have h10 := Lib.uvarint_length64 (x := m) (by omega)
      exact ⟨0, (Lib.uvarint m).length, lc, A, [], rfl, rfl, by omega, by omega, by omega, fun h => ⟨by rw [HA.out h, Nat.add_zero], by omega⟩, by omega, .nil _, by rw [List.append_nil], by rw [List.append_nil]; exact HW.out.1, gb_trans (gb_mono Hgb.out) HW.out.2⟩
    case round =>
      obtain ⟨p, d, lc', A', E, rfl, rfl, hpm, hmlc, hlc', hA', hd, hE, hEl, hBr, hg⟩ := hrel
      have hhdr : (Lib.uvarint m).length + E.length = d := by rw [← hEl, List.length_append]
      have hbL : d ≤ M := by have := HM0.out; omega
      by_cases hpe : p = m
      · subst hpe
        have hst := slice_to g 0 M c d (by omega)
        rw [Nat.sub_self]
        have HBr := Lib.hid hBr
        have Hg := Lib.hid hg
        have HE := Lib.hid hE
        have HEl := Lib.hid hEl
        clear hBr hg hE hEl hA' hhdr
        go_wp2
        go_ret
        have h0 := HM0.out
        have hd0 := hd
        refine ⟨g, c, L, Lib.uvarint p ++ E, E, by rw [HEl.out]; rfl, by rw [HEl.out]; omega, hc, ?_, by rw [Hm.out], by rw [HEl.out, Hm.out]; omega, by rw [HEl.out]; omega, HBr.out, hBg, Hg.out⟩
        have := HE.out
        rw [← Hm.out, List.take_length] at this
        exact this
      · obtain ⟨rfl, hd2⟩ := hA' (by omega)
        have hbq : Bs wr b (off + p) (bs.drop p) := (Hb.out.grown hg (hbg (by omega))).drop p
        have hbgm : b ≠ g := hbg (by omega)
        obtain ⟨r, hr⟩ : ∃ r, m - p = r := ⟨_, rfl⟩
        rw [hr] at hmlc ⊢
        have hrp : p + r = m := by omega
        have hr0 : 0 < r := by omega
        have hL : d ≤ L.length := by omega
        have HBr := Lib.hid hBr
        have Hg := Lib.hid hg
        have HE := Lib.hid hE
        have HEl := Lib.hid hEl
        have Hr := Lib.hid hr
        have Hhd := Lib.hid hhdr
        clear hBr hg hE hEl hA' hr hhdr
        have h0 := HM0.out
        have hEl' := HEl.out
        have hsl : (splice L 0 (bc (Lib.uvarint m ++ E))).length = L.length := length_splice _ _ _ (by rw [bc_length, HEl.out]; omega)
        have hdM : d < M := by omega
        have hsf := slice_from g 0 M c d (by omega) (by omega)
        clear hEl'
        by_cases hbig : 65536 < r
        · have hql : ((bs.drop p).take 65536).length = 65536 := by rw [List.length_take, List.length_drop, Hm.out]; omega
          have hcall := fun nq => encodeBlock_any g d (M - d) (c - d) b (off + p) 65536 lc' (splice L 0 (bc (Lib.uvarint m ++ E))) ((bs.drop p).take 65536) (wr.drewN nq) hql (by omega) (by omega) (HBr.out.drewN nq) (by rw [hsl]; omega) (by omega) (by omega) (by omega) ((hbq.take _).of_eq fun _ => rfl) hbgm (by omega) (by omega)
          have Hcall := Lib.hid hcall
          have ht := slice_to b (off + p) r lc' 65536 (by omega)
          have hf := slice_from b (off + p) r lc' 65536 (by omega) (by omega)
          have Hm0 := Lib.hid h0
          clear hcall hbq h0
          go_wp2_with fail
          go_quiet (fail)
          go_wp2_with fail
          refine (Hcall.out nq).mono ?_
          rintro e w4 ⟨E2, rfl, h2, hl2, hW4⟩
          have Hnx := Lib.hid (SnSt.next HE.out HEl.out (gb_trans Hg.out (gb_drewN wr nq (some g))) h2 hW4 (by have := Hm0.out; omega))
          have Hl2 := Lib.hid hl2
          rw [hql] at Hl2
          clear h2 hW4 hl2
          go_wp2_with fail
          case roundEnd =>
            obtain ⟨n1, n2, n3, n4⟩ := Hnx.out
            have hl2 := Hl2.out
            exact ⟨⟨p + 65536, d + E2.length, lc' - 65536, some ⟨b, off + p + 65536, none⟩, E ++ E2, by rw [show m - (p + 65536) = r - 65536 from by omega], int_ext (by first | go_num | (unfold wrap64; omega)), by omega, by omega, by omega, fun _ => ⟨by rw [Nat.add_assoc], by omega⟩, by omega, n1, n2, n3, n4⟩, by show r - 65536 < r; omega⟩
        · by_cases hsm : r < 17
          · have hql : ((bs.drop p).take r).length = r := by rw [List.length_take, List.length_drop, Hm.out]; omega
            have hcall := emitLiteral_any g d (M - d) (c - d) b (off + p) lc' r (splice L 0 (bc (Lib.uvarint m ++ E))) ((bs.drop p).take r) wr hql HBr.out (by rw [hsl]; omega) (by omega) (by omega) (by unfold litL; split <;> omega) (by omega) (by omega) (hbq.take _) hbgm
            have Hcall := Lib.hid hcall
            have Hm0 := Lib.hid h0
            clear hcall hbq h0
            go_wp2_with fail
            refine (Hcall.out).mono ?_
            rintro e w4 ⟨rfl, hW4⟩
            have hev := ev_lit ((bs.drop p).take r) [] (by omega) (by omega)
            rw [hql, List.nil_append] at hev
            have hll : (litH r ++ (bs.drop p).take r).length = r + litL r := by rw [List.length_append, litH_length, hql]; omega
            have hlb : litL r ≤ 3 := by unfold litL; split <;> omega
            have Hll := Lib.hid hll
            have Hnx := Lib.hid (SnSt.next HE.out HEl.out Hg.out hev hW4 (by have := Hm0.out; omega))
            clear hev hW4 hll
            go_wp2_with fail
            case roundEnd =>
              obtain ⟨n1, n2, n3, n4⟩ := Hnx.out
              have hll := Hll.out
              exact ⟨⟨p + r, d + (litH r ++ (bs.drop p).take r).length, 0, none, E ++ (litH r ++ (bs.drop p).take r), by rw [hrp, Nat.sub_self], int_ext (by rw [hll]; first | go_num | (unfold wrap64; omega)), by omega, by omega, by omega, fun h => absurd h (by omega), by omega, n1, n2, n3, n4⟩, by show 0 < r; omega⟩
          · have hql : ((bs.drop p).take r).length = r := by rw [List.length_take, List.length_drop, Hm.out]; omega
            have hcall := encodeBlock_any g d (M - d) (c - d) b (off + p) r lc' (splice L 0 (bc (Lib.uvarint m ++ E))) ((bs.drop p).take r) wr hql (by omega) (by omega) HBr.out (by rw [hsl]; omega) (by omega) (by omega) (by omega) (hbq.take _) hbgm (by omega) (by omega)
            have Hcall := Lib.hid hcall
            have Hm0 := Lib.hid h0
            clear hcall hbq h0
            go_wp2_with fail
            refine (Hcall.out).mono ?_
            rintro e w4 ⟨E2, rfl, h2, hl2, hW4⟩
            have Hnx := Lib.hid (SnSt.next HE.out HEl.out Hg.out h2 hW4 (by have := Hm0.out; omega))
            have Hl2 := Lib.hid hl2
            rw [hql] at Hl2
            clear h2 hW4 hl2
            go_wp2_with fail
            case roundEnd =>
              obtain ⟨n1, n2, n3, n4⟩ := Hnx.out
              have hl2 := Hl2.out
              exact ⟨⟨p + r, d + E2.length, 0, none, E ++ E2, by rw [hrp, Nat.sub_self], int_ext (by first | go_num | (unfold wrap64; omega)), by omega, by omega, by omega, fun h => absurd h (by omega), by omega, n1, n2, n3, n4⟩, by show 0 < r; omega⟩
end Go.Proofs.YtfnejblenapddaaDoor
