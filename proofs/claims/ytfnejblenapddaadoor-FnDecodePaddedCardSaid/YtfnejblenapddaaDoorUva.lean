/- Reading and writing the length at the front: Uvarint and PutUvarint. -/
import Derived.Test.YtfnejblenapddaaDoorSmall
set_option linter.unusedVariables false
namespace Go.Proofs.YtfnejblenapddaaDoor
open Go Go.RowKit

theorem u8_and127 (x : Int) (h0 : 0 ≤ x) (h1 : x < 256) : bits .and .u8 x 127 = x % 128 := bits_mask .u8 8 (by decide) wraps_u8 7 (by decide) x h0 h1
theorem pow7 (k : Nat) : 128 ^ k = 2 ^ (7 * k) := by rw [Nat.pow_mul]
theorem or7 (k : Nat) (M : Int) (y z : Nat) (hM : M = 2 ^ (7 * k)) (hk : k ≤ 8) (hy : y < 128 ^ k) (hz : z < 128) :
    bits .or .u64 (y : Int) (IntKind.u64.wrap (IntKind.u64.wrap (z : Int) * M)) = ((y + 128 ^ k * z : Nat) : Int) := by
  rw [pow7] at hy ⊢
  have e : (2 : Int) ^ (7 * k) = ((2 ^ (7 * k) : Nat) : Int) := by simp
  rw [e] at hM
  have hm : 2 ^ (7 * k) ≤ 2 ^ 56 := Nat.pow_le_pow_right (by decide) (by omega)
  rw [show (2 : Nat) ^ 56 = 72057594037927936 from rfl] at hm
  have h0 : 0 < 2 ^ (7 * k) := Nat.pos_of_ne_zero (by simp)
  rw [wraps_u64 (z : Int) (by omega) (by omega), hM]
  have hmod : ((z : Int) * ((2 ^ (7 * k) : Nat) : Int)) % (2 : Int) ^ (7 * k) = 0 := by
    rw [e]
    exact Int.mul_emod_left ..
  have hy' : (y : Int) < (2 : Int) ^ (7 * k) := by
    rw [e]
    exact_mod_cast hy
  generalize hg : 2 ^ (7 * k) = m at *
  have hzm : z * m ≤ 127 * m := Nat.mul_le_mul_right _ (by omega)
  have e2 : (z : Int) * (m : Int) = ((z * m : Nat) : Int) := by simp
  rw [e2] at hmod ⊢
  rw [Nat.mul_comm m z]
  generalize z * m = q at *
  rw [wraps_u64 (q : Int) (by omega) (by omega), bits_join_low .u64 64 (by decide) wraps_u64 (7 * k) (y : Int) (q : Int) (by omega) hy' (by omega) (by omega) hmod (by omega)]
  simp
theorem acc7 (k : Nat) (M : Int) (y x v : Nat) (hM : M = 2 ^ (7 * k)) (hk : k ≤ 8) (hy : y < 128 ^ k) (hx : x < 256) (hv : v = y + 128 ^ k * (x % 128)) :
    Value.int .u64 (bits .or .u64 (y : Int) (IntKind.u64.wrap (IntKind.u64.wrap (bits .and .u8 (x : Int) 127) * M))) = .int .u64 (v : Int) := by
  rw [u8_and127 (x : Int) (by omega) (by omega), show (x : Int) % 128 = ((x % 128 : Nat) : Int) from by simp, or7 k M y (x % 128) hM hk hy (by omega), hv]
theorem acc70 (y x v : Nat) (hy : y < 128 ^ 0) (hx : x < 256) (hv : v = y + 128 ^ 0 * (x % 128)) :
    Value.int .u64 (bits .or .u64 (y : Int) (IntKind.u64.wrap (IntKind.u64.wrap (bits .and .u8 (x : Int) 127)))) = .int .u64 (v : Int) := by
  have h := acc7 0 1 y x v rfl (by omega) hy hx hv
  rw [Int.mul_one] at h
  exact h
theorem last7 (k : Nat) (M : Int) (y x v : Nat) (hM : M = 2 ^ (7 * k)) (hk : k ≤ 8) (hy : y < 128 ^ k) (hx : x < 128) (hv : v = y + 128 ^ k * (x % 128)) :
    bits .or .u64 (y : Int) ((x : Int) * M) = (v : Int) := by
  have h := or7 k M y x hM hk hy hx
  have e : (2 : Int) ^ (7 * k) = ((2 ^ (7 * k) : Nat) : Int) := by simp
  have hm : 2 ^ (7 * k) ≤ 2 ^ 56 := Nat.pow_le_pow_right (by decide) (by omega)
  rw [show (2 : Nat) ^ 56 = 72057594037927936 from rfl] at hm
  rw [e] at hM
  generalize 2 ^ (7 * k) = q at *
  subst hM
  have hzm : x * q ≤ 127 * q := Nat.mul_le_mul_right _ (by omega)
  have e2 : (x : Int) * (q : Int) = ((x * q : Nat) : Int) := by simp
  rw [wraps_u64 (x : Int) (by omega) (by omega), e2] at h
  rw [e2, hv, Nat.mod_eq_of_lt hx, ← h]
  generalize x * q = r at *
  rw [wraps_u64 (r : Int) (by omega) (by omega)]
theorem last70 (y x v : Nat) (hy : y < 128 ^ 0) (hx : x < 128) (hv : v = y + 128 ^ 0 * (x % 128)) :
    bits .or .u64 (y : Int) (x : Int) = (v : Int) := by
  have h := last7 0 1 y x v rfl (by omega) hy hx hv
  rw [Int.mul_one] at h
  exact h
theorem pair_ext {a b c d : Int} (h1 : a = c) (h2 : b = d) : (Ending.returned (.tuple #[.int .u64 a, .int .i64 b])) = .returned (.tuple #[.int .u64 c, .int .i64 d]) := by rw [h1, h2]

set_option maxHeartbeats 3200000 in
theorem uvarint_any (A : Option Addr) (c n j : Nat) (bs : List UInt8) (w : World) (hl : bs.length = n) (h1 : Rd w (.slice A n c) bs) (hn : n ≤ 1099511627776)
    (hj : j ≤ n) (hj9 : j ≤ 9) (hpre : ∀ i, i < j → 128 ≤ bt bs i) (hlast : j < n → j ≤ 8 ∧ bt bs j < 128) :
    Calls Tryd.prog 45 #[.slice A n c] w fun e w' => Drew w w' ∧ e = .returned (.tuple (if j < n then #[.int .u64 ((v7 (bs.take (j+1)) : Nat) : Int), .int .i64 ((j + 1 : Nat) : Int)] else #[.int .u64 0, .int .i64 0])) := by
  have h1' : 0 < n → ∃ b off, A = some ⟨b, off, none⟩ ∧ Bs w b off bs := by
    obtain ⟨A, c, he, _, _, _, h⟩ := h1
    simp only [Value.slice.injEq] at he
    obtain ⟨rfl, _, rfl⟩ := he
    rw [← hl]; exact h
  have Hl := Lib.hid hl
  have H1 := Lib.hid h1'
  have Hpre := Lib.hid hpre
  have Hlast := Lib.hid hlast
  clear hl h1 h1' hpre hlast
  go_enter Tryd.func45, Tryd.ntmps45
  go_wp2
  go_loopw [10, 4, 5] (fun vk va vs wr => ∃ k : Nat, vk = .int .i64 (k : Int) ∧ va = .int .u64 ((v7 (bs.take k) : Nat) : Int) ∧ vs = .int .u64 ((7 * k : Nat) : Int) ∧ k ≤ j ∧ Drew w wr) (fun vk _ _ _ => n - (intOf vk).toNat)
  case atStart => exact ⟨0, rfl, by simp [v7], rfl, by omega, Drew.refl w⟩
  case round =>
    obtain ⟨k, rfl, rfl, rfl, hk, hd⟩ := hrel
    by_cases hlt : k < n
    · obtain ⟨b1, o1, rfl, hB1⟩ := H1.out (by omega)
      obtain ⟨m, rfl⟩ := hd
      have hc1 : (w.drewN m).cell? ⟨b1, o1 + k, none⟩ = some (.int .u8 ((bt bs k : Nat) : Int)) := hB1.bt k (by rw [Hl.out]; omega)
      have hx : bt bs k < 256 := bt_lt bs k
      have hv := v7_take bs k (by rw [Hl.out]; omega)
      have hvl := v7_lt (bs.take k)
      rw [List.length_take, Hl.out, Nat.min_eq_left (by omega)] at hvl
      have hk9 : k ≤ 9 := by omega
      generalize hxe : bt bs k = x at hc1 hx hv
      generalize hye : v7 (bs.take k) = y at hvl hv ⊢
      have hk0 : (0 : Int) ≤ (k : Int) := by omega
      have hk1 : (k : Int) < (n : Int) := by omega
      have hk10 : ((k : Int) == 10) = false := by simp; omega
      clear hB1
      generalize hW : w.drewN m = w1 at hc1 ⊢
      have HW := Lib.hid hW
      have Hv := Lib.hid hv
      have Hvl := Lib.hid hvl
      have Hxe := Lib.hid hxe
      have Hye := Lib.hid hye
      clear hW hv hvl hxe hye
      by_cases hkj : k < j
      · have hx128 : ¬ (x < 128) := by rw [← Hxe.out]; have := Hpre.out k hkj; omega
        have hxc : ((x : Int) < 128) = False := by simp; omega
        have hxd : decide ((x : Int) < 128) = false := by simp; omega
        clear hx128
        go_upto_if 21 with fail
        go_upto_region 12 with fail
        rcases (by omega : k = 0 ∨ k = 1 ∨ k = 2 ∨ k = 3 ∨ k = 4 ∨ k = 5 ∨ k = 6 ∨ k = 7 ∨ k = 8) with rfl|rfl|rfl|rfl|rfl|rfl|rfl|rfl|rfl
        · go_wp2_with fail
          case roundEnd => exact ⟨⟨1, rfl, acc70 _ _ _ Hvl.out hx Hv.out, rfl, hkj, (show Drew w w1 from ⟨m, HW.out.symm⟩)⟩, by simp [intOf]; omega⟩
        · go_wp2_with fail
          case roundEnd => exact ⟨⟨2, rfl, acc7 1 _ _ _ _ rfl (by omega) Hvl.out hx Hv.out, rfl, hkj, (show Drew w w1 from ⟨m, HW.out.symm⟩)⟩, by simp [intOf]; omega⟩
        · go_wp2_with fail
          case roundEnd => exact ⟨⟨3, rfl, acc7 2 _ _ _ _ rfl (by omega) Hvl.out hx Hv.out, rfl, hkj, (show Drew w w1 from ⟨m, HW.out.symm⟩)⟩, by simp [intOf]; omega⟩
        · go_wp2_with fail
          case roundEnd => exact ⟨⟨4, rfl, acc7 3 _ _ _ _ rfl (by omega) Hvl.out hx Hv.out, rfl, hkj, (show Drew w w1 from ⟨m, HW.out.symm⟩)⟩, by simp [intOf]; omega⟩
        · go_wp2_with fail
          case roundEnd => exact ⟨⟨5, rfl, acc7 4 _ _ _ _ rfl (by omega) Hvl.out hx Hv.out, rfl, hkj, (show Drew w w1 from ⟨m, HW.out.symm⟩)⟩, by simp [intOf]; omega⟩
        · go_wp2_with fail
          case roundEnd => exact ⟨⟨6, rfl, acc7 5 _ _ _ _ rfl (by omega) Hvl.out hx Hv.out, rfl, hkj, (show Drew w w1 from ⟨m, HW.out.symm⟩)⟩, by simp [intOf]; omega⟩
        · go_wp2_with fail
          case roundEnd => exact ⟨⟨7, rfl, acc7 6 _ _ _ _ rfl (by omega) Hvl.out hx Hv.out, rfl, hkj, (show Drew w w1 from ⟨m, HW.out.symm⟩)⟩, by simp [intOf]; omega⟩
        · go_wp2_with fail
          case roundEnd => exact ⟨⟨8, rfl, acc7 7 _ _ _ _ rfl (by omega) Hvl.out hx Hv.out, rfl, hkj, (show Drew w w1 from ⟨m, HW.out.symm⟩)⟩, by simp [intOf]; omega⟩
        · go_wp2_with fail
          case roundEnd => exact ⟨⟨9, rfl, acc7 8 _ _ _ _ rfl (by omega) Hvl.out hx Hv.out, rfl, hkj, (show Drew w w1 from ⟨m, HW.out.symm⟩)⟩, by simp [intOf]; omega⟩
      · obtain rfl : k = j := by omega
        have hx128 : x < 128 := by rw [← Hxe.out]; exact (Hlast.out (by omega)).2
        have hk8 := (Hlast.out hlt).1
        have hxc : ((x : Int) < 128) = True := by simp; omega
        have hxd : decide ((x : Int) < 128) = true := by simp; omega
        go_upto_if 21 with fail
        rcases (by omega : k = 0 ∨ k = 1 ∨ k = 2 ∨ k = 3 ∨ k = 4 ∨ k = 5 ∨ k = 6 ∨ k = 7 ∨ k = 8) with rfl|rfl|rfl|rfl|rfl|rfl|rfl|rfl|rfl
        · go_upto_if 27 with fail
          go_upto_region 11 with fail
          have Hx := Lib.hid hx128
          clear hxc hxd hx128
          go_wp2_with fail
          go_ret2
          refine ⟨⟨m, HW.out.symm⟩, ?_⟩
          exact pair_ext (last70 _ _ _ Hvl.out Hx.out Hv.out) (by rfl)
        · go_upto_if 27 with fail
          go_upto_region 11 with fail
          have Hx := Lib.hid hx128
          clear hxc hxd hx128
          go_wp2_with fail
          go_ret2
          refine ⟨⟨m, HW.out.symm⟩, ?_⟩
          exact pair_ext (last7 1 _ _ _ _ rfl (by omega) Hvl.out Hx.out Hv.out) (by rfl)
        · go_upto_if 27 with fail
          go_upto_region 11 with fail
          have Hx := Lib.hid hx128
          clear hxc hxd hx128
          go_wp2_with fail
          go_ret2
          refine ⟨⟨m, HW.out.symm⟩, ?_⟩
          exact pair_ext (last7 2 _ _ _ _ rfl (by omega) Hvl.out Hx.out Hv.out) (by rfl)
        · go_upto_if 27 with fail
          go_upto_region 11 with fail
          have Hx := Lib.hid hx128
          clear hxc hxd hx128
          go_wp2_with fail
          go_ret2
          refine ⟨⟨m, HW.out.symm⟩, ?_⟩
          exact pair_ext (last7 3 _ _ _ _ rfl (by omega) Hvl.out Hx.out Hv.out) (by rfl)
        · go_upto_if 27 with fail
          go_upto_region 11 with fail
          have Hx := Lib.hid hx128
          clear hxc hxd hx128
          go_wp2_with fail
          go_ret2
          refine ⟨⟨m, HW.out.symm⟩, ?_⟩
          exact pair_ext (last7 4 _ _ _ _ rfl (by omega) Hvl.out Hx.out Hv.out) (by rfl)
        · go_upto_if 27 with fail
          go_upto_region 11 with fail
          have Hx := Lib.hid hx128
          clear hxc hxd hx128
          go_wp2_with fail
          go_ret2
          refine ⟨⟨m, HW.out.symm⟩, ?_⟩
          exact pair_ext (last7 5 _ _ _ _ rfl (by omega) Hvl.out Hx.out Hv.out) (by rfl)
        · go_upto_if 27 with fail
          go_upto_region 11 with fail
          have Hx := Lib.hid hx128
          clear hxc hxd hx128
          go_wp2_with fail
          go_ret2
          refine ⟨⟨m, HW.out.symm⟩, ?_⟩
          exact pair_ext (last7 6 _ _ _ _ rfl (by omega) Hvl.out Hx.out Hv.out) (by rfl)
        · go_upto_if 27 with fail
          go_upto_region 11 with fail
          have Hx := Lib.hid hx128
          clear hxc hxd hx128
          go_wp2_with fail
          go_ret2
          refine ⟨⟨m, HW.out.symm⟩, ?_⟩
          exact pair_ext (last7 7 _ _ _ _ rfl (by omega) Hvl.out Hx.out Hv.out) (by rfl)
        · go_upto_if 27 with fail
          go_upto_region 11 with fail
          have Hx := Lib.hid hx128
          clear hxc hxd hx128
          go_wp2_with fail
          go_ret2
          refine ⟨⟨m, HW.out.symm⟩, ?_⟩
          exact pair_ext (last7 8 _ _ _ _ rfl (by omega) Hvl.out Hx.out Hv.out) (by rfl)
    · obtain rfl : k = j := by omega
      go_wp2
      go_ret2
      exact ⟨hd, by simp⟩
end Go.Proofs.YtfnejblenapddaaDoor
