/- The description's match. -/
import Derived.Test.YtfnejblenapddaaDoorSpC2
set_option linter.unusedVariables false
namespace Go.Proofs.YtfnejblenapddaaDoor
open Go Go.RowKit

/-- So many bytes from a place on are those that stand so far ahead of them. -/
def Mat (t : List UInt8) (at0 f m : Nat) : Prop := at0 + m ≤ t.length ∧ ∀ i, i < m → bt t (at0 + i) = bt t (at0 + i - f)

set_option maxRecDepth 10000 in
set_option maxHeartbeats 3200000 in
theorem match_any (A : Option Addr) (n c at0 f most : Nat) (t : List UInt8) (w : World) (hl : t.length = n) (hR : Rd w (.slice A n c) t) (hn : n ≤ 1000000) (ha : at0 < n) (hf : f ≤ at0) (hf1 : 1 ≤ f) (hm : most ≤ 64) :
    Calls Tryd.prog 39 #[.slice A n c, .int .i64 (at0 : Int), .int .i64 (f : Int), .int .i64 (most : Int)] w fun e w' => Drew w w' ∧ ∃ m : Nat, e = .returned (.int .i64 (m : Int)) ∧ m ≤ most ∧ Mat t at0 f m := by
  have h1' : ∃ b off, A = some ⟨b, off, none⟩ ∧ Bs w b off t := by
    obtain ⟨A, c, he, -, -, -, h⟩ := hR
    simp only [Value.slice.injEq] at he
    obtain ⟨rfl, -, rfl⟩ := he
    exact h (by omega)
  obtain ⟨b1, o1, rfl, hB⟩ := h1'
  have Hl := Lib.hid hl
  have HB := Lib.hid hB
  clear hl hR hB
  go_enter Tryd.func39, Tryd.ntmps39
  go_wp2
  go_loopw [9] (fun v9 wr => ∃ k : Nat, v9 = .int .i64 (k : Int) ∧ k ≤ most ∧ Mat t at0 f k ∧ Drew w wr) (fun v9 _ => most - (intOf v9).toNat)
  case atStart => exact ⟨0, rfl, Nat.zero_le _, ⟨by rw [Hl.out]; omega, fun i hi => absurd hi (by omega)⟩, Drew.refl w⟩
  case round =>
    obtain ⟨k, rfl, hk, hM, hd⟩ := hrel
    have hM1 := hM.1
    rw [Hl.out] at hM1
    obtain ⟨m, rfl⟩ := hd
    have HM := Lib.hid hM
    clear hM
    by_cases hkm : k < most
    · have c1 : ((k : Int) < (most : Int)) = True := by simp; omega
      by_cases hkn : at0 + k < n
      · have c2 : ((at0 : Int) + (k : Int) < (n : Int)) = True := by simp; omega
        obtain ⟨p, hp⟩ : ∃ p, at0 + k = p := ⟨_, rfl⟩
        obtain ⟨q, hq⟩ : ∃ q, p = q + f := ⟨p - f, by omega⟩
        have hpz : (at0 : Int) + (k : Int) = (p : Int) := by omega
        have hqz : (p : Int) - (f : Int) = (q : Int) := by omega
        have hc1 : (w.drewN m).cell? ⟨b1, o1 + p, none⟩ = some (.int .u8 ((bt t p : Nat) : Int)) := HB.out.bt p (by rw [Hl.out]; omega)
        have hc2 : (w.drewN m).cell? ⟨b1, o1 + q, none⟩ = some (.int .u8 ((bt t q : Nat) : Int)) := HB.out.bt q (by rw [Hl.out]; omega)
        have hp1 : (p : Int) < (n : Int) := by omega
        have hp0 : (0 : Int) ≤ (p : Int) := by omega
        have hq1 : (q : Int) < (n : Int) := by omega
        have hq0 : (0 : Int) ≤ (q : Int) := by omega
        have hwp : wrap64 (p : Int) = (p : Int) := by unfold wrap64; omega
        have hwq : wrap64 (q : Int) = (q : Int) := by unfold wrap64; omega
        have Hp := Lib.hid hp
        have Hq := Lib.hid hq
        obtain ⟨x, hx⟩ : ∃ x, bt t p = x := ⟨_, rfl⟩
        obtain ⟨y, hy⟩ : ∃ y, bt t q = y := ⟨_, rfl⟩
        rw [hx] at hc1
        rw [hy] at hc2
        have Hx := Lib.hid hx
        have Hy := Lib.hid hy
        generalize hW : w.drewN m = w1 at hc1 hc2 ⊢
        have HW := Lib.hid hW
        clear hW hp hq hx hy
        by_cases hxy : x = y
        · have c3 : ((x : Int) == (y : Int)) = true := by simp; exact_mod_cast hxy
          go_wp2_with fail
          go_quiet (fail)
          go_wp2_with fail
          case roundEnd =>
            refine ⟨⟨k + 1, int_ext (by omega), by omega, ⟨by rw [Hl.out]; omega, fun i hi => ?_⟩, (show Drew w w1 from ⟨m, HW.out.symm⟩).trans ⟨_, rfl⟩⟩, by simp only [intOf]; omega⟩
            rcases (by omega : i < k ∨ i = k) with h | rfl
            · exact HM.out.2 i h
            · rw [Hp.out, Hx.out, Hq.out, Nat.add_sub_cancel, Hy.out]
              exact hxy
        · have c3 : ((x : Int) == (y : Int)) = false := by simp; exact_mod_cast hxy
          go_wp2_with fail
          go_quiet (fail)
          go_wp2_with fail
          go_ret
          exact ⟨(show Drew w w1 from ⟨m, HW.out.symm⟩).trans ⟨_, rfl⟩, k, rfl, hk, HM.out⟩
      · have c2 : ((at0 : Int) + (k : Int) < (n : Int)) = False := by simp; omega
        go_wp2_with fail
        go_quiet (fail)
        go_wp2_with fail
        go_ret
        exact ⟨(show Drew w _ from ⟨m, rfl⟩).trans ⟨_, rfl⟩, k, rfl, hk, HM.out⟩
    · have c1 : ((k : Int) < (most : Int)) = False := by simp; omega
      go_wp2_with fail
      go_quiet (fail)
      go_wp2_with fail
      go_ret
      exact ⟨(show Drew w _ from ⟨m, rfl⟩).trans ⟨_, rfl⟩, k, rfl, hk, HM.out⟩
end Go.Proofs.YtfnejblenapddaaDoor
