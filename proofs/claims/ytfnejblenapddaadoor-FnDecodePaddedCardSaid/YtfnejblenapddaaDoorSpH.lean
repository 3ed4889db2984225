/- The description's Head and Body. -/
import Derived.Test.YtfnejblenapddaaDoorSnd
set_option linter.unusedVariables false
namespace Go.Proofs.YtfnejblenapddaaDoor
open Go Go.RowKit

theorem trip_ext {a b c d : Int} {x y : Bool} (h1 : a = c) (h2 : b = d) (h3 : x = y) : (Ending.returned (.tuple #[.int .i64 a, .int .i64 b, .bool x])) = .returned (.tuple #[.int .i64 c, .int .i64 d, .bool y]) := by rw [h1, h2, h3]

set_option maxHeartbeats 3200000 in
theorem head_any (A : Option Addr) (c n j : Nat) (bs : List UInt8) (w : World) (hl : bs.length = n) (h1 : Rd w (.slice A n c) bs) (hn : n ≤ 1099511627776)
    (hj : j < n) (hj9 : j ≤ 4) (hpre : ∀ i, i < j → 128 ≤ bt bs i) (hlast : bt bs j < 128) (hv : v7 (bs.take (j + 1)) ≤ 4294967295) :
    Calls Tryd.prog 28 #[.slice A n c] w fun e w' => Drew w w' ∧ e = .returned (.tuple #[.int .i64 ((v7 (bs.take (j + 1)) : Nat) : Int), .int .i64 ((j + 1 : Nat) : Int), .bool true]) := by
  have h1' : ∃ b off, A = some ⟨b, off, none⟩ ∧ Bs w b off bs := by
    obtain ⟨A, c, he, _, _, _, h⟩ := h1
    simp only [Value.slice.injEq] at he
    obtain ⟨rfl, _, rfl⟩ := he
    exact h (by omega)
  obtain ⟨b1, o1, rfl, hB1⟩ := h1'
  have Hl := Lib.hid hl
  have HB1 := Lib.hid hB1
  have Hpre := Lib.hid hpre
  have Hlast := Lib.hid hlast
  have Hv2 := Lib.hid hv
  clear hl h1 hB1 hpre hlast hv
  go_enter Tryd.func28, Tryd.ntmps28
  go_wp2
  go_loopw [11, 5, 6] (fun vk va vs wr => ∃ k : Nat, vk = .int .i64 (k : Int) ∧ va = .int .i64 ((v7 (bs.take k) : Nat) : Int) ∧ vs = .int .i64 ((128 ^ k : Nat) : Int) ∧ k ≤ j ∧ Drew w wr) (fun vk _ _ _ => n - (intOf vk).toNat)
  case atStart => exact ⟨0, rfl, by simp [v7], rfl, by omega, Drew.refl w⟩
  case round =>
    obtain ⟨k, rfl, rfl, rfl, hk, hd⟩ := hrel
    have hlt : k < n := by omega
    obtain ⟨m, rfl⟩ := hd
    have hc1 : (w.drewN m).cell? ⟨b1, o1 + k, none⟩ = some (.int .u8 ((bt bs k : Nat) : Int)) := HB1.out.bt k (by rw [Hl.out]; omega)
    have hx : bt bs k < 256 := bt_lt bs k
    have hvk := v7_take bs k (by rw [Hl.out]; omega)
    have hvl := v7_lt (bs.take k)
    rw [List.length_take, Hl.out, Nat.min_eq_left (by omega)] at hvl
    have hxk : k < j → 128 ≤ bt bs k := fun h => Hpre.out k h
    have hxl : k = j → bt bs k < 128 := fun h => by rw [h]; exact Hlast.out
    generalize hxe : bt bs k = x at hc1 hx hvk hxk hxl
    generalize hye : v7 (bs.take k) = y at hvl hvk ⊢
    have hk0 : (0 : Int) ≤ (k : Int) := by omega
    have hk1 : (k : Int) < (n : Int) := by omega
    generalize hW : w.drewN m = w1 at hc1 ⊢
    have HW := Lib.hid hW
    have Hvk := Lib.hid hvk
    have Hye := Lib.hid hye
    have Hxk := Lib.hid hxk
    have Hxl := Lib.hid hxl
    clear hW hvk hxe hye hxk hxl
    have hk5 : ((k : Int) == 5) = false := by simp; omega
    go_upto_region 6 with fail
    clear hk5 hk0 hk1 hc1
    rcases (by omega : k = 0 ∨ k = 1 ∨ k = 2 ∨ k = 3 ∨ k = 4) with rfl | rfl | rfl | rfl | rfl
    · have hy : y < 1 := hvl
      have hvv : v7 (bs.take (0 + 1)) = y + 1 * (x % 128) := Hvk.out
      have Hvv := Lib.hid hvv
      clear hvv hvl
      have hp : ((128 ^ 0 : Nat) : Int) = 1 := by decide
      rw [hp]
      clear hp
      by_cases hkj : 0 < j
      · have h128 := Hxk.out hkj
        have hxc : ((x : Int) < 128) = False := by simp; omega
        have hxd : decide ((x : Int) < 128) = false := by simp; omega
        go_wp2_with fail
        case roundEnd => exact ⟨⟨1, rfl, int_ext (by rw [Hvv.out]; omega), int_ext (by decide), by omega, ⟨m, HW.out.symm⟩⟩, by simp [intOf]; omega⟩
      · obtain rfl : j = 0 := by omega
        have h128 := Hxl.out rfl
        have hxc : ((x : Int) < 128) = True := by simp; omega
        have hxd : decide ((x : Int) < 128) = true := by simp; omega
        have hbound : (y : Int) + (x : Int) % 128 * 1 ≤ 4294967295 := by have h := Hv2.out; rw [Hvv.out] at h; omega
        have hbd : decide ((y : Int) + (x : Int) % 128 * 1 ≤ 4294967295) = true := by simpa using hbound
        go_upto_if 26 with fail
        go_upto_region 8 with fail
        clear hxc hxd
        go_wp2_with fail
        go_ret3
        exact ⟨⟨m, HW.out.symm⟩, trip_ext (by rw [Hvv.out]; omega) (by rfl) (by first | exact hbd | rfl | (simp; omega))⟩
    · have hy : y < 128 := hvl
      have hvv : v7 (bs.take (1 + 1)) = y + 128 * (x % 128) := Hvk.out
      have Hvv := Lib.hid hvv
      clear hvv hvl
      have hp : ((128 ^ 1 : Nat) : Int) = 128 := by decide
      rw [hp]
      clear hp
      by_cases hkj : 1 < j
      · have h128 := Hxk.out hkj
        have hxc : ((x : Int) < 128) = False := by simp; omega
        have hxd : decide ((x : Int) < 128) = false := by simp; omega
        go_wp2_with fail
        case roundEnd => exact ⟨⟨2, rfl, int_ext (by rw [Hvv.out]; omega), int_ext (by decide), by omega, ⟨m, HW.out.symm⟩⟩, by simp [intOf]; omega⟩
      · obtain rfl : j = 1 := by omega
        have h128 := Hxl.out rfl
        have hxc : ((x : Int) < 128) = True := by simp; omega
        have hxd : decide ((x : Int) < 128) = true := by simp; omega
        have hbound : (y : Int) + (x : Int) % 128 * 128 ≤ 4294967295 := by have h := Hv2.out; rw [Hvv.out] at h; omega
        have hbd : decide ((y : Int) + (x : Int) % 128 * 128 ≤ 4294967295) = true := by simpa using hbound
        go_upto_if 26 with fail
        go_upto_region 8 with fail
        clear hxc hxd
        go_wp2_with fail
        go_ret3
        exact ⟨⟨m, HW.out.symm⟩, trip_ext (by rw [Hvv.out]; omega) (by rfl) (by first | exact hbd | rfl | (simp; omega))⟩
    · have hy : y < 16384 := hvl
      have hvv : v7 (bs.take (2 + 1)) = y + 16384 * (x % 128) := Hvk.out
      have Hvv := Lib.hid hvv
      clear hvv hvl
      have hp : ((128 ^ 2 : Nat) : Int) = 16384 := by decide
      rw [hp]
      clear hp
      by_cases hkj : 2 < j
      · have h128 := Hxk.out hkj
        have hxc : ((x : Int) < 128) = False := by simp; omega
        have hxd : decide ((x : Int) < 128) = false := by simp; omega
        go_wp2_with fail
        case roundEnd => exact ⟨⟨3, rfl, int_ext (by rw [Hvv.out]; omega), int_ext (by decide), by omega, ⟨m, HW.out.symm⟩⟩, by simp [intOf]; omega⟩
      · obtain rfl : j = 2 := by omega
        have h128 := Hxl.out rfl
        have hxc : ((x : Int) < 128) = True := by simp; omega
        have hxd : decide ((x : Int) < 128) = true := by simp; omega
        have hbound : (y : Int) + (x : Int) % 128 * 16384 ≤ 4294967295 := by have h := Hv2.out; rw [Hvv.out] at h; omega
        have hbd : decide ((y : Int) + (x : Int) % 128 * 16384 ≤ 4294967295) = true := by simpa using hbound
        go_upto_if 26 with fail
        go_upto_region 8 with fail
        clear hxc hxd
        go_wp2_with fail
        go_ret3
        exact ⟨⟨m, HW.out.symm⟩, trip_ext (by rw [Hvv.out]; omega) (by rfl) (by first | exact hbd | rfl | (simp; omega))⟩
    · have hy : y < 2097152 := hvl
      have hvv : v7 (bs.take (3 + 1)) = y + 2097152 * (x % 128) := Hvk.out
      have Hvv := Lib.hid hvv
      clear hvv hvl
      have hp : ((128 ^ 3 : Nat) : Int) = 2097152 := by decide
      rw [hp]
      clear hp
      by_cases hkj : 3 < j
      · have h128 := Hxk.out hkj
        have hxc : ((x : Int) < 128) = False := by simp; omega
        have hxd : decide ((x : Int) < 128) = false := by simp; omega
        go_wp2_with fail
        case roundEnd => exact ⟨⟨4, rfl, int_ext (by rw [Hvv.out]; omega), int_ext (by decide), by omega, ⟨m, HW.out.symm⟩⟩, by simp [intOf]; omega⟩
      · obtain rfl : j = 3 := by omega
        have h128 := Hxl.out rfl
        have hxc : ((x : Int) < 128) = True := by simp; omega
        have hxd : decide ((x : Int) < 128) = true := by simp; omega
        have hbound : (y : Int) + (x : Int) % 128 * 2097152 ≤ 4294967295 := by have h := Hv2.out; rw [Hvv.out] at h; omega
        have hbd : decide ((y : Int) + (x : Int) % 128 * 2097152 ≤ 4294967295) = true := by simpa using hbound
        go_upto_if 26 with fail
        go_upto_region 8 with fail
        clear hxc hxd
        go_wp2_with fail
        go_ret3
        exact ⟨⟨m, HW.out.symm⟩, trip_ext (by rw [Hvv.out]; omega) (by rfl) (by first | exact hbd | rfl | (simp; omega))⟩
    · have hy : y < 268435456 := hvl
      have hvv : v7 (bs.take (4 + 1)) = y + 268435456 * (x % 128) := Hvk.out
      have Hvv := Lib.hid hvv
      clear hvv hvl
      have hp : ((128 ^ 4 : Nat) : Int) = 268435456 := by decide
      rw [hp]
      clear hp
      by_cases hkj : 4 < j
      · exact absurd hkj (by omega)
      · obtain rfl : j = 4 := by omega
        have h128 := Hxl.out rfl
        have hxc : ((x : Int) < 128) = True := by simp; omega
        have hxd : decide ((x : Int) < 128) = true := by simp; omega
        have hbound : (y : Int) + (x : Int) % 128 * 268435456 ≤ 4294967295 := by have h := Hv2.out; rw [Hvv.out] at h; omega
        have hbd : decide ((y : Int) + (x : Int) % 128 * 268435456 ≤ 4294967295) = true := by simpa using hbound
        go_upto_if 26 with fail
        go_upto_region 8 with fail
        clear hxc hxd
        go_wp2_with fail
        go_ret3
        exact ⟨⟨m, HW.out.symm⟩, trip_ext (by rw [Hvv.out]; omega) (by rfl) (by first | exact hbd | rfl | (simp; omega))⟩
end Go.Proofs.YtfnejblenapddaaDoor
