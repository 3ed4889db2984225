/- What emitCopy writes: bytes that say a copy, fewer than the copy is long. -/
import Derived.Test.YtfnejblenapddaaDoorEmit
set_option linter.unusedVariables false
namespace Go.Proofs.YtfnejblenapddaaDoor
open Go Go.RowKit

/-- A copy of the form 2. -/
def cpb (f n : Nat) : List UInt8 := [UInt8.ofNat (2 + (n - 1) * 4), UInt8.ofNat (f % 256), UInt8.ofNat (f / 256 % 256)]

theorem splice_set2 (L : List Value) (o : Nat) (bs : List UInt8) (a0 a1 : UInt8) (h : o + bs.length + 2 ≤ L.length) :
    ((splice L o (bc bs)).set (o + bs.length) (.int .u8 (a0.toNat : Int))).set (o + (bs.length + 1)) (.int .u8 (a1.toNat : Int)) = splice L o (bc (bs ++ [a0, a1])) := by
  have e1 := splice_set L o (bc bs) (.int .u8 (a0.toNat : Int)) (by rw [bc_length]; omega)
  have e2 := splice_set L o (bc bs ++ [.int .u8 (a0.toNat : Int)]) (.int .u8 (a1.toNat : Int)) (by simp [bc_length]; omega)
  simp only [List.length_append, bc_length, List.length_singleton] at e1 e2
  rw [e1, e2]
  simp [bc]

theorem splice_set3 (L : List Value) (o : Nat) (bs : List UInt8) (a0 a1 a2 : UInt8) (h : o + bs.length + 3 ≤ L.length) :
    (((splice L o (bc bs)).set (o + bs.length) (.int .u8 (a0.toNat : Int))).set (o + (bs.length + 1)) (.int .u8 (a1.toNat : Int))).set (o + (bs.length + 2)) (.int .u8 (a2.toNat : Int)) = splice L o (bc (bs ++ [a0, a1, a2])) := by
  rw [splice_set2 L o bs a0 a1 (by omega)]
  have e2 := splice_set L o (bc (bs ++ [a0, a1])) (.int .u8 (a2.toNat : Int)) (by simp [bc_length]; omega)
  simp only [List.length_append, bc_length, List.length_cons, List.length_nil] at e2
  rw [show o + (bs.length + 2) = o + (bs.length + (0 + 1 + 1)) from by omega, e2]
  simp [bc]

theorem wrote3 {w wr : World} {g o : Nat} {L : List Value} {bs : List UInt8} (hBr : Blk wr g (splice L o (bc bs))) (hgr : w.grownBy wr (some g)) (a0 a1 a2 : UInt8) {v0 v1 v2 : Int} (h : o + bs.length + 3 ≤ L.length)
    (e0 : v0 = (a0.toNat : Int)) (e1 : v1 = (a1.toNat : Int)) (e2 : v2 = (a2.toNat : Int)) :
    Wrote w (((wr.setCell ⟨g, o + bs.length, none⟩ (.int .u8 v0)).setCell ⟨g, o + (bs.length + 1), none⟩ (.int .u8 v1)).setCell ⟨g, o + (bs.length + 2), none⟩ (.int .u8 v2)) g (splice L o (bc (bs ++ [a0, a1, a2]))) := by
  subst e0 e1 e2
  rw [← splice_set3 L o bs a0 a1 a2 h]
  exact ⟨((hBr.set _ _).set _ _).set _ _, gb_trans (gb_trans (gb_trans hgr (gb_set _ _ _ _)) (gb_set _ _ _ _)) (gb_set _ _ _ _)⟩

theorem wrote2 {w wr : World} {g o : Nat} {L : List Value} {bs : List UInt8} (hBr : Blk wr g (splice L o (bc bs))) (hgr : w.grownBy wr (some g)) (a0 a1 : UInt8) {v0 v1 : Int} (h : o + bs.length + 2 ≤ L.length)
    (e0 : v0 = (a0.toNat : Int)) (e1 : v1 = (a1.toNat : Int)) :
    Wrote w ((wr.setCell ⟨g, o + bs.length, none⟩ (.int .u8 v0)).setCell ⟨g, o + (bs.length + 1), none⟩ (.int .u8 v1)) g (splice L o (bc (bs ++ [a0, a1]))) := by
  subst e0 e1
  rw [← splice_set2 L o bs a0 a1 h]
  exact ⟨(hBr.set _ _).set _ _, gb_trans (gb_trans hgr (gb_set _ _ _ _)) (gb_set _ _ _ _)⟩

/-- One copy of the form 2 more, in memory. -/
theorem wrote_cpb {w wr : World} {g o : Nat} {L : List Value} {bs : List UInt8} (hBr : Blk wr g (splice L o (bc bs))) (hgr : w.grownBy wr (some g)) (f n : Nat) {v0 : Int} (h : o + bs.length + 3 ≤ L.length)
    (hn1 : 1 ≤ n) (hn2 : n ≤ 64) (hf2 : f < 65536) (e0 : v0 = 2 + ((n : Int) - 1) * 4) :
    Wrote w (((wr.setCell ⟨g, o + bs.length, none⟩ (.int .u8 v0)).setCell ⟨g, o + (bs.length + 1), none⟩ (.int .u8 ((f : Int) % 256))).setCell ⟨g, o + (bs.length + 2), none⟩ (.int .u8 ((f : Int) / 256))) g (splice L o (bc (bs ++ cpb f n))) :=
  wrote3 hBr hgr _ _ _ h (by rw [toNat_ofNat _ (by omega)]; omega) (by rw [toNat_ofNat _ (by omega)]; omega) (by rw [toNat_ofNat _ (by omega)]; omega)

/-- A copy of the form 1. -/
def cpa (f n : Nat) : List UInt8 := [UInt8.ofNat (1 + (n - 4) * 4 + f / 256 * 32), UInt8.ofNat (f % 256)]

theorem wrote_cpa {w wr : World} {g o : Nat} {L : List Value} {bs : List UInt8} (hBr : Blk wr g (splice L o (bc bs))) (hgr : w.grownBy wr (some g)) (f n : Nat) {v0 : Int} (h : o + bs.length + 2 ≤ L.length)
    (hn1 : 4 ≤ n) (hn2 : n ≤ 11) (hf2 : f < 2048) (e0 : v0 = 1 + ((n : Int) - 4) * 4 + (f : Int) / 256 * 32) :
    Wrote w ((wr.setCell ⟨g, o + bs.length, none⟩ (.int .u8 v0)).setCell ⟨g, o + (bs.length + 1), none⟩ (.int .u8 ((f : Int) % 256))) g (splice L o (bc (bs ++ cpa f n))) :=
  wrote2 hBr hgr _ _ h (by rw [toNat_ofNat _ (by omega)]; omega) (by rw [toNat_ofNat _ (by omega)]; omega)

theorem says_more {bs : List UInt8} {f m q n : Nat} (h : SaysCp bs f (m - q)) (hq : n ≤ q) (hqm : q ≤ m) (hn1 : 1 ≤ n) (hn2 : n ≤ 64) (hf1 : 1 ≤ f) (hf2 : f < 65536) : SaysCp (bs ++ cpb f n) f (m - (q - n)) := by
  have := h.add (says_cp2 n f hn1 hn2 hf1 hf2)
  rw [show m - q + n = m - (q - n) from by omega] at this
  exact this

theorem says_last {bs : List UInt8} {f m n : Nat} (h : SaysCp bs f (m - n)) (hqm : n ≤ m) (hn1 : 4 ≤ n) (hn2 : n ≤ 11) (hf1 : 1 ≤ f) (hf2 : f < 2048) : SaysCp (bs ++ cpa f n) f m := by
  have := h.add (says_cp1 n f hn1 hn2 hf1 hf2)
  rw [show m - n + n = m from by omega] at this
  exact this
theorem says_end {bs : List UInt8} {f m n : Nat} (h : SaysCp bs f (m - n)) (hqm : n ≤ m) (hn1 : 1 ≤ n) (hn2 : n ≤ 64) (hf1 : 1 ≤ f) (hf2 : f < 65536) : SaysCp (bs ++ cpb f n) f m := by
  have := says_more h (Nat.le_refl n) hqm hn1 hn2 hf1 hf2
  rw [show m - (n - n) = m from by omega] at this
  exact this

/-- What emitCopy leaves. -/
def Copied (w : World) (g o f m : Nat) (L : List Value) (e : Ending) (w' : World) : Prop :=
  ∃ bs : List UInt8, e = .returned (.int .i64 (bs.length : Int)) ∧ SaysCp bs f m ∧ bs.length + 1 ≤ m ∧ Wrote w w' g (splice L o (bc bs))

set_option maxHeartbeats 1000000 in
theorem emitCopy_any (g o n c f m : Nat) (L : List Value) (w : World) (hB : Blk w g L) (hfit : o + n ≤ L.length) (h4 : 4 ≤ m) (hm : m ≤ 65536) (hf1 : 1 ≤ f) (hf2 : f < 65536) (hmn : m ≤ n) (hnc : n ≤ c) (hc : c ≤ 9223372036854775807) :
    Calls Tryd.prog 48 #[.slice (some ⟨g, o, none⟩) n c, .int .i64 (f : Int), .int .i64 (m : Int)] w (Copied w g o f m L) := by
  go_enter Tryd.func48, Tryd.ntmps48
  go_wp2
  go_loopw [2, 7] (fun r i wr => ∃ (q : Nat) (bs : List UInt8), r = .int .i64 (q : Int) ∧ i = .int .i64 (bs.length : Int) ∧ 4 ≤ q ∧ q ≤ m ∧ bs.length + q ≤ m ∧ SaysCp bs f (m - q) ∧ Wrote w wr g (splice L o (bc bs)))
    (fun r _ _ => (intOf r).toNat)
  case atStart => exact ⟨m, [], rfl, rfl, h4, Nat.le_refl _, by simp, by rw [Nat.sub_self]; exact SaysCp.nil f, by rw [show bc [] = [] from rfl, splice_nil]; exact ⟨hB, gb_refl _ _⟩⟩
  case round =>
    obtain ⟨q, bs, rfl, rfl, hq4, hqm, hlen, hsays, hW⟩ := hrel
    obtain ⟨hBr, hgr⟩ := hW
    have hLl : (splice L o (bc bs)).length = L.length := length_splice _ _ _ (by rw [bc_length]; omega)
    by_cases h68 : 68 ≤ q
    · obtain ⟨x0, h0⟩ := hBr.cell_some (i := o + bs.length) (by omega)
      obtain ⟨x1, h01⟩ := hBr.cell_some (i := o + (bs.length + 1)) (by omega)
      obtain ⟨x2, h02⟩ := hBr.cell_some (i := o + (bs.length + 2)) (by omega)
      have f0 := hBr.free (o + bs.length)
      have f1 := hBr.free (o + (bs.length + 1))
      have f2 := hBr.free (o + (bs.length + 2))
      clear hLl
      go_wp2
      go_roundw
      case rel =>
        exact ⟨q - 64, bs ++ cpb f 64, by go_num, by simp [cpb], by omega, by omega, by simp [cpb]; omega, says_more hsays (by omega) hqm (by omega) (by omega) hf1 hf2,
          wrote_cpb hBr hgr f 64 (by omega) (by omega) (by omega) hf2 (by decide)⟩
      case measure => simp [intOf]; omega
    · by_cases h64 : 64 < q
      · have hcell : ∀ k, k < 6 → ∃ x, wr.cell? ⟨g, o + (bs.length + k), none⟩ = some x := fun k hk => hBr.cell_some (by omega)
        obtain ⟨x0, h0⟩ := hcell 0 (by omega)
        rw [Nat.add_zero] at h0
        obtain ⟨x1, h01⟩ := hcell 1 (by omega)
        obtain ⟨x2, h02⟩ := hcell 2 (by omega)
        obtain ⟨x3, h03⟩ := hcell 3 (by omega)
        obtain ⟨x4, h04⟩ := hcell 4 (by omega)
        have f0 := hBr.free (o + bs.length)
        have f1 := hBr.free (o + (bs.length + 1))
        have f2 := hBr.free (o + (bs.length + 2))
        have f3 := hBr.free (o + (bs.length + 3))
        have f4 := hBr.free (o + (bs.length + 4))
        have W1 := wrote_cpb hBr hgr f 60 (v0 := 238) (by omega) (by omega) (by omega) hf2 (by decide)
        have S1 := says_more (n := 60) hsays (by omega) hqm (by omega) (by omega) hf1 hf2
        have el : (bs ++ cpb f 60).length = bs.length + 3 := by simp [cpb]
        by_cases hfar : 2048 ≤ f
        · obtain ⟨x5, h05⟩ := hcell 5 (by omega)
          have f5 := hBr.free (o + (bs.length + 5))
          have W2 := wrote_cpb W1.1 W1.2 f (q - 60) (v0 := ((q : Int) - 60 - 1) * 4 + 2) (by omega) (by omega) (by omega) hf2 (by omega)
          have S2 := says_end S1 (by omega) (by omega) (by omega) hf1 hf2
          have hv : bits .or .u8 (((q : Int) - 60 - 1) * 4) 2 = ((q : Int) - 60 - 1) * 4 + 2 := u8_or2 _ (by omega) (by omega)
          rw [el] at W2
          have Hel := Lib.hid el
          clear hcell W1 S1 hLl el
          go_wp2
          go_ret
          exact ⟨bs ++ cpb f 60 ++ cpb f (q - 60), ret_ext (by simp [cpb]; omega), S2, by simp [cpb]; omega, W2⟩
        · have W2 := wrote_cpa W1.1 W1.2 f (q - 60) (v0 := 1 + ((q : Int) - 60 - 4) * 4 + (f : Int) / 256 * 32) (by omega) (by omega) (by omega) (by omega) (by omega)
          have S2 := says_last S1 (by omega) (by omega) (by omega) hf1 (by omega)
          have hv : bits .or .u8 (bits .or .u8 ((f : Int) / 256 * 32) (((q : Int) - 60 - 4) * 4)) 1 = 1 + ((q : Int) - 60 - 4) * 4 + (f : Int) / 256 * 32 := u8_or_c1 _ _ (by omega) (by omega) (by omega) (by omega)
          rw [el] at W2
          have Hel := Lib.hid el
          clear hcell W1 S1 hLl el
          go_wp2
          go_ret
          exact ⟨bs ++ cpb f 60 ++ cpa f (q - 60), ret_ext (by simp [cpb, cpa]; omega), S2, by simp [cpb, cpa]; omega, W2⟩
      · have hcell : ∀ k, k < 3 → ∃ x, wr.cell? ⟨g, o + (bs.length + k), none⟩ = some x := fun k hk => hBr.cell_some (by omega)
        obtain ⟨x0, h0⟩ := hcell 0 (by omega)
        rw [Nat.add_zero] at h0
        obtain ⟨x1, h01⟩ := hcell 1 (by omega)
        have f0 := hBr.free (o + bs.length)
        have f1 := hBr.free (o + (bs.length + 1))
        have f2 := hBr.free (o + (bs.length + 2))
        by_cases h12 : 12 ≤ q
        · obtain ⟨x2, h02⟩ := hcell 2 (by omega)
          have hv : bits .or .u8 (((q : Int) - 1) * 4) 2 = ((q : Int) - 1) * 4 + 2 := u8_or2 _ (by omega) (by omega)
          have W2 := wrote_cpb hBr hgr f q (v0 := ((q : Int) - 1) * 4 + 2) (by omega) (by omega) (by omega) hf2 (by omega)
          have S2 := says_end hsays hqm (by omega) (by omega) hf1 hf2
          clear hcell hLl
          go_wp2
          go_ret
          exact ⟨bs ++ cpb f q, ret_ext (by simp [cpb]), S2, by simp [cpb]; omega, W2⟩
        · by_cases hfar : 2048 ≤ f
          · obtain ⟨x2, h02⟩ := hcell 2 (by omega)
            have hv : bits .or .u8 (((q : Int) - 1) * 4) 2 = ((q : Int) - 1) * 4 + 2 := u8_or2 _ (by omega) (by omega)
            have W2 := wrote_cpb hBr hgr f q (v0 := ((q : Int) - 1) * 4 + 2) (by omega) (by omega) (by omega) hf2 (by omega)
            have S2 := says_end hsays hqm (by omega) (by omega) hf1 hf2
            clear hcell hLl
            go_wp2
            go_ret
            exact ⟨bs ++ cpb f q, ret_ext (by simp [cpb]), S2, by simp [cpb]; omega, W2⟩
          · have hv : bits .or .u8 (bits .or .u8 ((f : Int) / 256 * 32) (((q : Int) - 4) * 4)) 1 = 1 + ((q : Int) - 4) * 4 + (f : Int) / 256 * 32 := u8_or_c1 _ _ (by omega) (by omega) (by omega) (by omega)
            have W2 := wrote_cpa hBr hgr f q (v0 := 1 + ((q : Int) - 4) * 4 + (f : Int) / 256 * 32) (by omega) (by omega) (by omega) (by omega) (by omega)
            have S2 := says_last hsays hqm (by omega) (by omega) hf1 (by omega)
            clear hcell hLl
            go_wp2
            go_ret
            exact ⟨bs ++ cpa f q, ret_ext (by simp [cpa]), S2, by simp [cpa]; omega, W2⟩
theorem emitCopy_at (F M : Int) (g o n c f m : Nat) (L : List Value) (w : World) (hF : F = (f : Int)) (hM : M = (m : Int)) (hB : Blk w g L) (hfit : o + n ≤ L.length) (h4 : 4 ≤ m) (hm : m ≤ 65536) (hf1 : 1 ≤ f) (hf2 : f < 65536) (hmn : m ≤ n) (hnc : n ≤ c) (hc : c ≤ 9223372036854775807) :
    Calls Tryd.prog 48 #[.slice (some ⟨g, o, none⟩) n c, .int .i64 F, .int .i64 M] w (Copied w g o f m L) := by
  subst hF hM
  exact emitCopy_any g o n c f m L w hB hfit h4 hm hf1 hf2 hmn hnc hc
end Go.Proofs.YtfnejblenapddaaDoor
