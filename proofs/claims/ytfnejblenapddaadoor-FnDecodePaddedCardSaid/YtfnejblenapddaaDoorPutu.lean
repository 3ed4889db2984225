/- Writing the length at the front: PutUvarint. -/
import Derived.Test.YtfnejblenapddaaDoorUva
set_option linter.unusedVariables false
namespace Go.Proofs.YtfnejblenapddaaDoor
open Go Go.RowKit

theorem u8_nat_cast (x : Nat) (h : x < 256) : ((x.toUInt8).toNat : Int) = (x : Int) := by
  have : (x.toUInt8).toNat = x := by simp [Nat.toUInt8]; omega
  rw [this]

def PutInv (g : Nat) (L : List Value) (x : Nat) (w : World) (vx vi : Value) (wr : World) : Prop :=
  ∃ (k xk : Nat) (pre : List UInt8), vx = .int .u64 (xk : Int) ∧ vi = .int .i64 (k : Int) ∧ pre.length = k ∧ xk ≤ x ∧ Lib.uvarint x = pre ++ Lib.uvarint xk ∧ Blk wr g (splice L 0 (bc pre)) ∧ w.grownBy wr (some g)

theorem put_more {w wr : World} {g : Nat} {L : List Value} {pre : List UInt8} {k xk x : Nat} (v : Int) (hk : pre.length = k) (hv : v = ((xk % 128 + 128 : Nat) : Int)) (hu : Lib.uvarint x = pre ++ Lib.uvarint xk) (hb : 128 ≤ xk) (hl : (Lib.uvarint x).length ≤ L.length)
    (hB : Blk wr g (splice L 0 (bc pre))) (hg : w.grownBy wr (some g)) :
    ∃ pre', pre'.length = k + 1 ∧ Lib.uvarint x = pre' ++ Lib.uvarint (xk / 128) ∧ Blk (wr.setCell ⟨g, k, none⟩ (.int .u8 v)) g (splice L 0 (bc pre')) ∧ w.grownBy (wr.setCell ⟨g, k, none⟩ (.int .u8 v)) (some g) := by
  refine ⟨pre ++ [(xk % 128 + 128).toUInt8], by simp [hk], ?_, ?_, gb_trans hg (gb_set _ _ _ _)⟩
  · rw [hu, Lib.uvarint_big hb]; simp
  · have h2 : 0 < (Lib.uvarint xk).length := Lib.uvarint_pos xk
    have h1 := congrArg List.length hu
    rw [List.length_append] at h1
    have := hB.set k (.int .u8 v)
    have e := splice_set L 0 (bc pre) (.int .u8 v) (by rw [bc_length]; omega)
    rw [bc_length, hk, Nat.zero_add] at e
    rw [e] at this
    rw [bc_append, bc_one, u8_nat_cast _ (by omega), ← hv]
    exact this
theorem put_last {w wr : World} {g : Nat} {L : List Value} {pre : List UInt8} {k xk x : Nat} (v : Int) (hk : pre.length = k) (hv : v = (xk : Int)) (hu : Lib.uvarint x = pre ++ Lib.uvarint xk) (hb : xk < 128) (hl : (Lib.uvarint x).length ≤ L.length)
    (hB : Blk wr g (splice L 0 (bc pre))) (hg : w.grownBy wr (some g)) :
    Wrote w (wr.setCell ⟨g, k, none⟩ (.int .u8 v)) g (splice L 0 (bc (Lib.uvarint x))) ∧ k + 1 = (Lib.uvarint x).length := by
  rw [Lib.uvarint_small hb] at hu
  have h1 := congrArg List.length hu
  rw [List.length_append, List.length_singleton] at h1
  refine ⟨⟨?_, gb_trans hg (gb_set _ _ _ _)⟩, by omega⟩
  have := hB.set k (.int .u8 v)
  have e := splice_set L 0 (bc pre) (.int .u8 v) (by rw [bc_length]; omega)
  rw [bc_length, hk, Nat.zero_add] at e
  rw [e] at this
  rw [hu, bc_append, bc_one, u8_nat_cast _ (by omega), ← hv]
  exact this

set_option maxHeartbeats 1600000 in
theorem putUvarint_any (g n c x : Nat) (L : List Value) (w : World) (hB : Blk w g L) (hx : x ≤ 2147483647) (hn : 10 ≤ n) (hnL : n ≤ L.length) (hnc : n ≤ c) (hc : c ≤ 9223372036854775807) :
    Calls Tryd.prog 41 #[.slice (some ⟨g, 0, none⟩) n c, .int .u64 (x : Int)] w
      fun e w' => e = .returned (.int .i64 (((Lib.uvarint x).length : Nat) : Int)) ∧ Wrote w w' g (splice L 0 (bc (Lib.uvarint x))) := by
  have hlen := Lib.uvarint_length64 (x := x) (by omega)
  have HB := Lib.hid hB
  clear hB
  go_enter Tryd.func41, Tryd.ntmps41
  go_wp2
  go_loopw [1, 5] (PutInv g L x w) (fun vx _ _ => (intOf vx).toNat)
  case atStart => exact ⟨0, x, [], rfl, rfl, rfl, by omega, rfl, by rw [show bc [] = [] from rfl, splice_nil]; exact HB.out, gb_refl _ _⟩
  case round =>
    obtain ⟨k, xk, pre, rfl, rfl, hpk, hxk, hu, hBr, hg⟩ := hrel
    have h2 : 0 < (Lib.uvarint xk).length := Lib.uvarint_pos xk
    have h1 := congrArg List.length hu
    rw [List.length_append] at h1
    have hk0 : (0 : Int) ≤ (k : Int) := by omega
    have hk1 : (k : Int) < (n : Int) := by omega
    obtain ⟨x0, h0⟩ := hBr.cell_some (i := k) (by simp only [splice, List.length_append, List.length_take, List.length_drop, bc_length]; omega)
    have hf := hBr.free k
    have Hu := Lib.hid hu
    have HBr := Lib.hid hBr
    have Hg := Lib.hid hg
    have Hh1 := Lib.hid h1
    have Hl := Lib.hid hlen
    clear hu hBr hg h1 hlen
    by_cases hb : 128 ≤ xk
    · have hor := Lib.u8_or128_any (IntKind.u8.wrap (xk : Int)) (by rw [IntKind.wrap_u8]; omega) (by rw [IntKind.wrap_u8]; omega)
      have Hor := Lib.hid hor
      clear hor
      have hba : (128 ≤ (xk : Int)) = True := by simp; omega
      have hbd : decide (128 ≤ (xk : Int)) = true := by simp; omega
      go_upto_if 7 with fail
      go_upto_region 3 with fail
      clear hba hbd
      go_wp2_with fail
      case roundEnd =>
        have h1 := Hl.out
        rw [IntKind.wrap_u8] at Hor
        obtain ⟨pre', p1, p2, p3, p4⟩ := put_more (bits .or .u8 ((xk : Int) % 256) 128) hpk (by rw [Hor.out]; omega) Hu.out hb (by omega) HBr.out Hg.out
        exact ⟨⟨k + 1, xk / 128, pre', int_ext (by omega), int_ext (by omega), p1, by omega, p2, p3, p4⟩, by simp only [intOf]; omega⟩
    · have hba : (128 ≤ (xk : Int)) = False := by simp; omega
      have hbd : decide (128 ≤ (xk : Int)) = false := by simp; omega
      go_upto_if 7 with fail
      go_upto_region 6 with fail
      clear hba hbd
      go_wp2_with fail
      go_ret
      have h1 := Hl.out
      obtain ⟨hW, hl⟩ := put_last (xk : Int) hpk rfl Hu.out (by omega) (by omega) HBr.out Hg.out
      exact ⟨ret_ext (by omega), hW⟩
end Go.Proofs.YtfnejblenapddaaDoor
