/- The description's find. -/
import Derived.Test.YtfnejblenapddaaDoorSpM
set_option linter.unusedVariables false
namespace Go.Proofs.YtfnejblenapddaaDoor
open Go Go.RowKit

theorem match_at (fz mz : Int) (A : Option Addr) (n c at0 f most : Nat) (t : List UInt8) (w : World) (hfz : fz = (f : Int)) (hmz : mz = (most : Int)) (hl : t.length = n) (hR : Rd w (.slice A n c) t) (hn : n ≤ 1000000) (ha : at0 < n) (hf : f ≤ at0) (hf1 : 1 ≤ f) (hm : most ≤ 64) :
    Calls Tryd.prog 39 #[.slice A n c, .int .i64 (at0 : Int), .int .i64 fz, .int .i64 mz] w fun e w' => Drew w w' ∧ ∃ m : Nat, e = .returned (.int .i64 (m : Int)) ∧ m ≤ most ∧ Mat t at0 f m := by
  subst hfz hmz
  exact match_any A n c at0 f most t w hl hR hn ha hf hf1 hm
theorem fits_at (form : Nat) (fm : Int) (fz : Int) (n far : Nat) (w : World) (hform : form = 1 ∨ form = 2 ∨ form = 3) (hfm : fm = (form : Int)) (hfz : fz = (far : Int)) : Calls Tryd.prog 40 #[.int .i64 fm, .int .i64 (n : Int), .int .i64 fz] w fun e w' => e = .returned (.bool (fitsB form n far)) ∧ w' = w := by
  subst hfm hfz
  rcases hform with rfl | rfl | rfl
  · exact fits_1 n far w
  · exact fits_2 n far w
  · exact fits_3 n far w

/-- A copy that can stand at a place, or none. -/
def Found (t : List UInt8) (at0 form m f : Nat) : Prop := m = 0 ∨ (0 < m ∧ 1 ≤ f ∧ f ≤ at0 ∧ Mat t at0 f m ∧ fitsB form m f = true)
theorem pair2_ext {a b c d : Int} (h1 : a = c) (h2 : b = d) : (Ending.returned (.tuple #[.int .i64 a, .int .i64 b])) = .returned (.tuple #[.int .i64 c, .int .i64 d]) := by rw [h1, h2]
theorem Drew.rd {w w' : World} {v : Value} {bs : List UInt8} (h : Rd w v bs) (hd : Drew w w') : Rd w' v bs := h.below (hd.below w.heap.size)

set_option maxRecDepth 10000 in
set_option maxHeartbeats 6400000 in
theorem find_1T (A : Option Addr) (n c at0 rest : Nat) (t : List UInt8) (w : World) (hl : t.length = n) (hR : Rd w (.slice A n c) t) (hn : n ≤ 1000000) (ha : at0 < n) (h0 : 0 < at0) (hr : rest ≤ 268435456) (hr3 : rest % 3 = 1) :
    Calls Tryd.prog 29 #[.slice A n c, .int .i64 (at0 : Int), .int .i64 1, .int .i64 (rest : Int)] w fun e w' => Drew w w' ∧ ∃ m f : Nat, e = .returned (.tuple #[.int .i64 (m : Int), .int .i64 (f : Int)]) ∧ Found t at0 1 m f := by
  have Hl := Lib.hid hl
  have HR := Lib.hid hR
  have c0 : ((rest : Int) % 3 == 1) = true := by simp; omega
  have Hr3 := Lib.hid hr3
  clear hl hR hr3
  go_enter Tryd.func29, Tryd.ntmps29
  go_wp2_with fail
  go_loopw [11] (fun v11 wr => ∃ k : Nat, v11 = .int .i64 (k : Int) ∧ k ≤ 40 ∧ Drew w wr) (fun v11 _ => 40 - (intOf v11).toNat)
  case atStart => exact ⟨0, rfl, by omega, Drew.refl w⟩
  case round =>
    obtain ⟨k, rfl, hk, hd⟩ := hrel
    by_cases hk40 : k < 40
    · have c1 : ((k : Int) < 40) = True := by simp; omega
      obtain ⟨sq, hsq⟩ : ∃ sq, k * k = sq := ⟨_, rfl⟩
      have hsq2 : sq ≤ 1600 := by rw [← hsq]; exact Nat.le_trans (Nat.mul_le_mul (by omega : k ≤ 40) (by omega : k ≤ 40)) (by decide)
      have hkk : (k : Int) * (k : Int) = (sq : Int) := by rw [← hsq]; simp
      obtain ⟨g1, hg1⟩ : ∃ g1, (rest + sq) % at0 = g1 := ⟨_, rfl⟩
      have hg2 : g1 < at0 := by rw [← hg1]; exact Nat.mod_lt _ h0
      have hgz : ((rest : Int) + (sq : Int)) % (at0 : Int) = (g1 : Int) := by rw [← hg1]; simp
      have Hsq := Lib.hid hsq
      have Hg1 := Lib.hid hg1
      clear hsq hg1
      by_cases hk20 : k < 20
      · have c2 : ((k : Int) < 20) = True := by simp; omega
        obtain ⟨f, hf⟩ : ∃ f, 1 + (rest / 16 + k) % 64 = f := ⟨_, rfl⟩
        have hfz : (1 : Int) + ((rest : Int) / 16 + (k : Int)) % 64 = (f : Int) := by omega
        have hf1 : 1 ≤ f := by omega
        have Hf := Lib.hid hf
        clear hf
        by_cases hfa : f ≤ at0
        · have c3 : ((f : Int) ≤ (at0 : Int)) = True := by simp; omega
          have hma := match_at (f : Int) ((4 : Int) + (rest : Int) / 3 % 8) A n c at0 f (4 + rest / 3 % 8) t wr rfl (by omega) Hl.out (HR.out.below (hd.below w.heap.size)) hn ha hfa hf1 (by omega)
          have Hma := Lib.hid hma
          have Hd := Lib.hid hd
          clear hma hd
          go_wp2_with fail
          refine (Hma.out).mono ?_
          rintro e w2 ⟨hd2, m, rfl, hm, hM⟩
          have HM := Lib.hid hM
          have HD2 := Lib.hid (Hd.out.trans hd2)
          clear hM hd2 Hma
          by_cases hm0 : 0 < m
          · have c4 : ((0 : Int) < (m : Int)) = True := by simp; omega
            have hfi := fits_at 1 1 (f : Int) m f w2 (by decide) rfl rfl
            cases hfb : fitsB 1 m f with
            | true =>
              rw [hfb] at hfi
              have Hfi := Lib.hid hfi
              have Hfb := Lib.hid hfb
              clear hfi hfb
              go_wp2_with fail
              refine (Hfi.out).mono ?_
              rintro e w3 ⟨rfl, rfl⟩
              clear Hfi
              go_wp2_with fail
              go_ret2
              exact ⟨HD2.out, m, f, rfl, .inr ⟨hm0, hf1, hfa, HM.out, Hfb.out⟩⟩
            | false =>
              rw [hfb] at hfi
              have Hfi := Lib.hid hfi
              clear hfi hfb
              go_wp2_with fail
              refine (Hfi.out).mono ?_
              rintro e w3 ⟨rfl, rfl⟩
              clear Hfi
              go_wp2_with fail
              case roundEnd => exact ⟨⟨k + 1, int_ext (by omega), by omega, HD2.out⟩, by simp only [intOf]; omega⟩
          · have c4 : ((0 : Int) < (m : Int)) = False := by simp; omega
            go_wp2_with fail
            case roundEnd => exact ⟨⟨k + 1, int_ext (by omega), by omega, HD2.out⟩, by simp only [intOf]; omega⟩
        · have c3 : ((f : Int) ≤ (at0 : Int)) = False := by simp; omega
          have Hd := Lib.hid hd
          clear hd
          go_wp2_with fail
          case roundEnd => exact ⟨⟨k + 1, int_ext (by omega), by omega, Hd.out⟩, by simp only [intOf]; omega⟩
      · have c2 : ((k : Int) < 20) = False := by simp; omega
        obtain ⟨f, hf⟩ : ∃ f, 1 + g1 = f := ⟨_, rfl⟩
        have hfz : (1 : Int) + (g1 : Int) = (f : Int) := by omega
        have hf1 : 1 ≤ f := by omega
        have Hf := Lib.hid hf
        clear hf
        by_cases hfa : f ≤ at0
        · have c3 : ((f : Int) ≤ (at0 : Int)) = True := by simp; omega
          have hma := match_at (f : Int) ((4 : Int) + (rest : Int) / 3 % 8) A n c at0 f (4 + rest / 3 % 8) t wr rfl (by omega) Hl.out (HR.out.below (hd.below w.heap.size)) hn ha hfa hf1 (by omega)
          have Hma := Lib.hid hma
          have Hd := Lib.hid hd
          clear hma hd
          go_wp2_with fail
          refine (Hma.out).mono ?_
          rintro e w2 ⟨hd2, m, rfl, hm, hM⟩
          have HM := Lib.hid hM
          have HD2 := Lib.hid (Hd.out.trans hd2)
          clear hM hd2 Hma
          by_cases hm0 : 0 < m
          · have c4 : ((0 : Int) < (m : Int)) = True := by simp; omega
            have hfi := fits_at 1 1 (f : Int) m f w2 (by decide) rfl rfl
            cases hfb : fitsB 1 m f with
            | true =>
              rw [hfb] at hfi
              have Hfi := Lib.hid hfi
              have Hfb := Lib.hid hfb
              clear hfi hfb
              go_wp2_with fail
              refine (Hfi.out).mono ?_
              rintro e w3 ⟨rfl, rfl⟩
              clear Hfi
              go_wp2_with fail
              go_ret2
              exact ⟨HD2.out, m, f, rfl, .inr ⟨hm0, hf1, hfa, HM.out, Hfb.out⟩⟩
            | false =>
              rw [hfb] at hfi
              have Hfi := Lib.hid hfi
              clear hfi hfb
              go_wp2_with fail
              refine (Hfi.out).mono ?_
              rintro e w3 ⟨rfl, rfl⟩
              clear Hfi
              go_wp2_with fail
              case roundEnd => exact ⟨⟨k + 1, int_ext (by omega), by omega, HD2.out⟩, by simp only [intOf]; omega⟩
          · have c4 : ((0 : Int) < (m : Int)) = False := by simp; omega
            go_wp2_with fail
            case roundEnd => exact ⟨⟨k + 1, int_ext (by omega), by omega, HD2.out⟩, by simp only [intOf]; omega⟩
        · have c3 : ((f : Int) ≤ (at0 : Int)) = False := by simp; omega
          have Hd := Lib.hid hd
          clear hd
          go_wp2_with fail
          case roundEnd => exact ⟨⟨k + 1, int_ext (by omega), by omega, Hd.out⟩, by simp only [intOf]; omega⟩
    · have c1 : ((k : Int) < 40) = False := by simp; omega
      go_wp2_with fail
      go_ret2
      exact ⟨hd, 0, 0, rfl, .inl rfl⟩

set_option maxRecDepth 10000 in
set_option maxHeartbeats 6400000 in
theorem find_1F (A : Option Addr) (n c at0 rest : Nat) (t : List UInt8) (w : World) (hl : t.length = n) (hR : Rd w (.slice A n c) t) (hn : n ≤ 1000000) (ha : at0 < n) (h0 : 0 < at0) (hr : rest ≤ 268435456) (hr3 : ¬ rest % 3 = 1) :
    Calls Tryd.prog 29 #[.slice A n c, .int .i64 (at0 : Int), .int .i64 1, .int .i64 (rest : Int)] w fun e w' => Drew w w' ∧ ∃ m f : Nat, e = .returned (.tuple #[.int .i64 (m : Int), .int .i64 (f : Int)]) ∧ Found t at0 1 m f := by
  have Hl := Lib.hid hl
  have HR := Lib.hid hR
  have c0 : ((rest : Int) % 3 == 1) = false := by simp; omega
  have Hr3 := Lib.hid hr3
  clear hl hR hr3
  go_enter Tryd.func29, Tryd.ntmps29
  go_wp2_with fail
  go_loopw [11] (fun v11 wr => ∃ k : Nat, v11 = .int .i64 (k : Int) ∧ k ≤ 40 ∧ Drew w wr) (fun v11 _ => 40 - (intOf v11).toNat)
  case atStart => exact ⟨0, rfl, by omega, Drew.refl w⟩
  case round =>
    obtain ⟨k, rfl, hk, hd⟩ := hrel
    by_cases hk40 : k < 40
    · have c1 : ((k : Int) < 40) = True := by simp; omega
      obtain ⟨sq, hsq⟩ : ∃ sq, k * k = sq := ⟨_, rfl⟩
      have hsq2 : sq ≤ 1600 := by rw [← hsq]; exact Nat.le_trans (Nat.mul_le_mul (by omega : k ≤ 40) (by omega : k ≤ 40)) (by decide)
      have hkk : (k : Int) * (k : Int) = (sq : Int) := by rw [← hsq]; simp
      obtain ⟨g1, hg1⟩ : ∃ g1, (rest + sq) % at0 = g1 := ⟨_, rfl⟩
      have hg2 : g1 < at0 := by rw [← hg1]; exact Nat.mod_lt _ h0
      have hgz : ((rest : Int) + (sq : Int)) % (at0 : Int) = (g1 : Int) := by rw [← hg1]; simp
      have Hsq := Lib.hid hsq
      have Hg1 := Lib.hid hg1
      clear hsq hg1
      by_cases hk20 : k < 20
      · have c2 : ((k : Int) < 20) = True := by simp; omega
        obtain ⟨f, hf⟩ : ∃ f, 1 + (rest / 16 + k) % 64 = f := ⟨_, rfl⟩
        have hfz : (1 : Int) + ((rest : Int) / 16 + (k : Int)) % 64 = (f : Int) := by omega
        have hf1 : 1 ≤ f := by omega
        have Hf := Lib.hid hf
        clear hf
        by_cases hfa : f ≤ at0
        · have c3 : ((f : Int) ≤ (at0 : Int)) = True := by simp; omega
          have hma := match_at (f : Int) (11) A n c at0 f (11) t wr rfl (by omega) Hl.out (HR.out.below (hd.below w.heap.size)) hn ha hfa hf1 (by omega)
          have Hma := Lib.hid hma
          have Hd := Lib.hid hd
          clear hma hd
          go_wp2_with fail
          refine (Hma.out).mono ?_
          rintro e w2 ⟨hd2, m, rfl, hm, hM⟩
          have HM := Lib.hid hM
          have HD2 := Lib.hid (Hd.out.trans hd2)
          clear hM hd2 Hma
          by_cases hm0 : 0 < m
          · have c4 : ((0 : Int) < (m : Int)) = True := by simp; omega
            have hfi := fits_at 1 1 (f : Int) m f w2 (by decide) rfl rfl
            cases hfb : fitsB 1 m f with
            | true =>
              rw [hfb] at hfi
              have Hfi := Lib.hid hfi
              have Hfb := Lib.hid hfb
              clear hfi hfb
              go_wp2_with fail
              refine (Hfi.out).mono ?_
              rintro e w3 ⟨rfl, rfl⟩
              clear Hfi
              go_wp2_with fail
              go_ret2
              exact ⟨HD2.out, m, f, rfl, .inr ⟨hm0, hf1, hfa, HM.out, Hfb.out⟩⟩
            | false =>
              rw [hfb] at hfi
              have Hfi := Lib.hid hfi
              clear hfi hfb
              go_wp2_with fail
              refine (Hfi.out).mono ?_
              rintro e w3 ⟨rfl, rfl⟩
              clear Hfi
              go_wp2_with fail
              case roundEnd => exact ⟨⟨k + 1, int_ext (by omega), by omega, HD2.out⟩, by simp only [intOf]; omega⟩
          · have c4 : ((0 : Int) < (m : Int)) = False := by simp; omega
            go_wp2_with fail
            case roundEnd => exact ⟨⟨k + 1, int_ext (by omega), by omega, HD2.out⟩, by simp only [intOf]; omega⟩
        · have c3 : ((f : Int) ≤ (at0 : Int)) = False := by simp; omega
          have Hd := Lib.hid hd
          clear hd
          go_wp2_with fail
          case roundEnd => exact ⟨⟨k + 1, int_ext (by omega), by omega, Hd.out⟩, by simp only [intOf]; omega⟩
      · have c2 : ((k : Int) < 20) = False := by simp; omega
        obtain ⟨f, hf⟩ : ∃ f, 1 + g1 = f := ⟨_, rfl⟩
        have hfz : (1 : Int) + (g1 : Int) = (f : Int) := by omega
        have hf1 : 1 ≤ f := by omega
        have Hf := Lib.hid hf
        clear hf
        by_cases hfa : f ≤ at0
        · have c3 : ((f : Int) ≤ (at0 : Int)) = True := by simp; omega
          have hma := match_at (f : Int) (11) A n c at0 f (11) t wr rfl (by omega) Hl.out (HR.out.below (hd.below w.heap.size)) hn ha hfa hf1 (by omega)
          have Hma := Lib.hid hma
          have Hd := Lib.hid hd
          clear hma hd
          go_wp2_with fail
          refine (Hma.out).mono ?_
          rintro e w2 ⟨hd2, m, rfl, hm, hM⟩
          have HM := Lib.hid hM
          have HD2 := Lib.hid (Hd.out.trans hd2)
          clear hM hd2 Hma
          by_cases hm0 : 0 < m
          · have c4 : ((0 : Int) < (m : Int)) = True := by simp; omega
            have hfi := fits_at 1 1 (f : Int) m f w2 (by decide) rfl rfl
            cases hfb : fitsB 1 m f with
            | true =>
              rw [hfb] at hfi
              have Hfi := Lib.hid hfi
              have Hfb := Lib.hid hfb
              clear hfi hfb
              go_wp2_with fail
              refine (Hfi.out).mono ?_
              rintro e w3 ⟨rfl, rfl⟩
              clear Hfi
              go_wp2_with fail
              go_ret2
              exact ⟨HD2.out, m, f, rfl, .inr ⟨hm0, hf1, hfa, HM.out, Hfb.out⟩⟩
            | false =>
              rw [hfb] at hfi
              have Hfi := Lib.hid hfi
              clear hfi hfb
              go_wp2_with fail
              refine (Hfi.out).mono ?_
              rintro e w3 ⟨rfl, rfl⟩
              clear Hfi
              go_wp2_with fail
              case roundEnd => exact ⟨⟨k + 1, int_ext (by omega), by omega, HD2.out⟩, by simp only [intOf]; omega⟩
          · have c4 : ((0 : Int) < (m : Int)) = False := by simp; omega
            go_wp2_with fail
            case roundEnd => exact ⟨⟨k + 1, int_ext (by omega), by omega, HD2.out⟩, by simp only [intOf]; omega⟩
        · have c3 : ((f : Int) ≤ (at0 : Int)) = False := by simp; omega
          have Hd := Lib.hid hd
          clear hd
          go_wp2_with fail
          case roundEnd => exact ⟨⟨k + 1, int_ext (by omega), by omega, Hd.out⟩, by simp only [intOf]; omega⟩
    · have c1 : ((k : Int) < 40) = False := by simp; omega
      go_wp2_with fail
      go_ret2
      exact ⟨hd, 0, 0, rfl, .inl rfl⟩

set_option maxRecDepth 10000 in
set_option maxHeartbeats 6400000 in
theorem find_2T (A : Option Addr) (n c at0 rest : Nat) (t : List UInt8) (w : World) (hl : t.length = n) (hR : Rd w (.slice A n c) t) (hn : n ≤ 1000000) (ha : at0 < n) (h0 : 0 < at0) (hr : rest ≤ 268435456) (hr3 : rest % 3 = 1) :
    Calls Tryd.prog 29 #[.slice A n c, .int .i64 (at0 : Int), .int .i64 2, .int .i64 (rest : Int)] w fun e w' => Drew w w' ∧ ∃ m f : Nat, e = .returned (.tuple #[.int .i64 (m : Int), .int .i64 (f : Int)]) ∧ Found t at0 2 m f := by
  have Hl := Lib.hid hl
  have HR := Lib.hid hR
  have c0 : ((rest : Int) % 3 == 1) = true := by simp; omega
  have Hr3 := Lib.hid hr3
  clear hl hR hr3
  go_enter Tryd.func29, Tryd.ntmps29
  go_wp2_with fail
  go_loopw [11] (fun v11 wr => ∃ k : Nat, v11 = .int .i64 (k : Int) ∧ k ≤ 40 ∧ Drew w wr) (fun v11 _ => 40 - (intOf v11).toNat)
  case atStart => exact ⟨0, rfl, by omega, Drew.refl w⟩
  case round =>
    obtain ⟨k, rfl, hk, hd⟩ := hrel
    by_cases hk40 : k < 40
    · have c1 : ((k : Int) < 40) = True := by simp; omega
      obtain ⟨sq, hsq⟩ : ∃ sq, k * k = sq := ⟨_, rfl⟩
      have hsq2 : sq ≤ 1600 := by rw [← hsq]; exact Nat.le_trans (Nat.mul_le_mul (by omega : k ≤ 40) (by omega : k ≤ 40)) (by decide)
      have hkk : (k : Int) * (k : Int) = (sq : Int) := by rw [← hsq]; simp
      obtain ⟨g1, hg1⟩ : ∃ g1, (rest + sq) % at0 = g1 := ⟨_, rfl⟩
      have hg2 : g1 < at0 := by rw [← hg1]; exact Nat.mod_lt _ h0
      have hgz : ((rest : Int) + (sq : Int)) % (at0 : Int) = (g1 : Int) := by rw [← hg1]; simp
      have Hsq := Lib.hid hsq
      have Hg1 := Lib.hid hg1
      clear hsq hg1
      by_cases hk20 : k < 20
      · have c2 : ((k : Int) < 20) = True := by simp; omega
        obtain ⟨f, hf⟩ : ∃ f, 1 + (rest / 16 + k) % 64 = f := ⟨_, rfl⟩
        have hfz : (1 : Int) + ((rest : Int) / 16 + (k : Int)) % 64 = (f : Int) := by omega
        have hf1 : 1 ≤ f := by omega
        have Hf := Lib.hid hf
        clear hf
        by_cases hfa : f ≤ at0
        · have c3 : ((f : Int) ≤ (at0 : Int)) = True := by simp; omega
          have hma := match_at (f : Int) ((4 : Int) + (rest : Int) / 3 % 8) A n c at0 f (4 + rest / 3 % 8) t wr rfl (by omega) Hl.out (HR.out.below (hd.below w.heap.size)) hn ha hfa hf1 (by omega)
          have Hma := Lib.hid hma
          have Hd := Lib.hid hd
          clear hma hd
          go_wp2_with fail
          refine (Hma.out).mono ?_
          rintro e w2 ⟨hd2, m, rfl, hm, hM⟩
          have HM := Lib.hid hM
          have HD2 := Lib.hid (Hd.out.trans hd2)
          clear hM hd2 Hma
          by_cases hm0 : 0 < m
          · have c4 : ((0 : Int) < (m : Int)) = True := by simp; omega
            have hfi := fits_at 2 2 (f : Int) m f w2 (by decide) rfl rfl
            cases hfb : fitsB 2 m f with
            | true =>
              rw [hfb] at hfi
              have Hfi := Lib.hid hfi
              have Hfb := Lib.hid hfb
              clear hfi hfb
              go_wp2_with fail
              refine (Hfi.out).mono ?_
              rintro e w3 ⟨rfl, rfl⟩
              clear Hfi
              go_wp2_with fail
              go_ret2
              exact ⟨HD2.out, m, f, rfl, .inr ⟨hm0, hf1, hfa, HM.out, Hfb.out⟩⟩
            | false =>
              rw [hfb] at hfi
              have Hfi := Lib.hid hfi
              clear hfi hfb
              go_wp2_with fail
              refine (Hfi.out).mono ?_
              rintro e w3 ⟨rfl, rfl⟩
              clear Hfi
              go_wp2_with fail
              case roundEnd => exact ⟨⟨k + 1, int_ext (by omega), by omega, HD2.out⟩, by simp only [intOf]; omega⟩
          · have c4 : ((0 : Int) < (m : Int)) = False := by simp; omega
            go_wp2_with fail
            case roundEnd => exact ⟨⟨k + 1, int_ext (by omega), by omega, HD2.out⟩, by simp only [intOf]; omega⟩
        · have c3 : ((f : Int) ≤ (at0 : Int)) = False := by simp; omega
          have Hd := Lib.hid hd
          clear hd
          go_wp2_with fail
          case roundEnd => exact ⟨⟨k + 1, int_ext (by omega), by omega, Hd.out⟩, by simp only [intOf]; omega⟩
      · have c2 : ((k : Int) < 20) = False := by simp; omega
        obtain ⟨f, hf⟩ : ∃ f, 1 + g1 = f := ⟨_, rfl⟩
        have hfz : (1 : Int) + (g1 : Int) = (f : Int) := by omega
        have hf1 : 1 ≤ f := by omega
        have Hf := Lib.hid hf
        clear hf
        by_cases hfa : f ≤ at0
        · have c3 : ((f : Int) ≤ (at0 : Int)) = True := by simp; omega
          have hma := match_at (f : Int) ((4 : Int) + (rest : Int) / 3 % 8) A n c at0 f (4 + rest / 3 % 8) t wr rfl (by omega) Hl.out (HR.out.below (hd.below w.heap.size)) hn ha hfa hf1 (by omega)
          have Hma := Lib.hid hma
          have Hd := Lib.hid hd
          clear hma hd
          go_wp2_with fail
          refine (Hma.out).mono ?_
          rintro e w2 ⟨hd2, m, rfl, hm, hM⟩
          have HM := Lib.hid hM
          have HD2 := Lib.hid (Hd.out.trans hd2)
          clear hM hd2 Hma
          by_cases hm0 : 0 < m
          · have c4 : ((0 : Int) < (m : Int)) = True := by simp; omega
            have hfi := fits_at 2 2 (f : Int) m f w2 (by decide) rfl rfl
            cases hfb : fitsB 2 m f with
            | true =>
              rw [hfb] at hfi
              have Hfi := Lib.hid hfi
              have Hfb := Lib.hid hfb
              clear hfi hfb
              go_wp2_with fail
              refine (Hfi.out).mono ?_
              rintro e w3 ⟨rfl, rfl⟩
              clear Hfi
              go_wp2_with fail
              go_ret2
              exact ⟨HD2.out, m, f, rfl, .inr ⟨hm0, hf1, hfa, HM.out, Hfb.out⟩⟩
            | false =>
              rw [hfb] at hfi
              have Hfi := Lib.hid hfi
              clear hfi hfb
              go_wp2_with fail
              refine (Hfi.out).mono ?_
              rintro e w3 ⟨rfl, rfl⟩
              clear Hfi
              go_wp2_with fail
              case roundEnd => exact ⟨⟨k + 1, int_ext (by omega), by omega, HD2.out⟩, by simp only [intOf]; omega⟩
          · have c4 : ((0 : Int) < (m : Int)) = False := by simp; omega
            go_wp2_with fail
            case roundEnd => exact ⟨⟨k + 1, int_ext (by omega), by omega, HD2.out⟩, by simp only [intOf]; omega⟩
        · have c3 : ((f : Int) ≤ (at0 : Int)) = False := by simp; omega
          have Hd := Lib.hid hd
          clear hd
          go_wp2_with fail
          case roundEnd => exact ⟨⟨k + 1, int_ext (by omega), by omega, Hd.out⟩, by simp only [intOf]; omega⟩
    · have c1 : ((k : Int) < 40) = False := by simp; omega
      go_wp2_with fail
      go_ret2
      exact ⟨hd, 0, 0, rfl, .inl rfl⟩

set_option maxRecDepth 10000 in
set_option maxHeartbeats 6400000 in
theorem find_2F (A : Option Addr) (n c at0 rest : Nat) (t : List UInt8) (w : World) (hl : t.length = n) (hR : Rd w (.slice A n c) t) (hn : n ≤ 1000000) (ha : at0 < n) (h0 : 0 < at0) (hr : rest ≤ 268435456) (hr3 : ¬ rest % 3 = 1) :
    Calls Tryd.prog 29 #[.slice A n c, .int .i64 (at0 : Int), .int .i64 2, .int .i64 (rest : Int)] w fun e w' => Drew w w' ∧ ∃ m f : Nat, e = .returned (.tuple #[.int .i64 (m : Int), .int .i64 (f : Int)]) ∧ Found t at0 2 m f := by
  have Hl := Lib.hid hl
  have HR := Lib.hid hR
  have c0 : ((rest : Int) % 3 == 1) = false := by simp; omega
  have Hr3 := Lib.hid hr3
  clear hl hR hr3
  go_enter Tryd.func29, Tryd.ntmps29
  go_wp2_with fail
  go_loopw [11] (fun v11 wr => ∃ k : Nat, v11 = .int .i64 (k : Int) ∧ k ≤ 40 ∧ Drew w wr) (fun v11 _ => 40 - (intOf v11).toNat)
  case atStart => exact ⟨0, rfl, by omega, Drew.refl w⟩
  case round =>
    obtain ⟨k, rfl, hk, hd⟩ := hrel
    by_cases hk40 : k < 40
    · have c1 : ((k : Int) < 40) = True := by simp; omega
      obtain ⟨sq, hsq⟩ : ∃ sq, k * k = sq := ⟨_, rfl⟩
      have hsq2 : sq ≤ 1600 := by rw [← hsq]; exact Nat.le_trans (Nat.mul_le_mul (by omega : k ≤ 40) (by omega : k ≤ 40)) (by decide)
      have hkk : (k : Int) * (k : Int) = (sq : Int) := by rw [← hsq]; simp
      obtain ⟨g1, hg1⟩ : ∃ g1, (rest + sq) % at0 = g1 := ⟨_, rfl⟩
      have hg2 : g1 < at0 := by rw [← hg1]; exact Nat.mod_lt _ h0
      have hgz : ((rest : Int) + (sq : Int)) % (at0 : Int) = (g1 : Int) := by rw [← hg1]; simp
      have Hsq := Lib.hid hsq
      have Hg1 := Lib.hid hg1
      clear hsq hg1
      by_cases hk20 : k < 20
      · have c2 : ((k : Int) < 20) = True := by simp; omega
        obtain ⟨f, hf⟩ : ∃ f, 1 + (rest / 16 + k) % 64 = f := ⟨_, rfl⟩
        have hfz : (1 : Int) + ((rest : Int) / 16 + (k : Int)) % 64 = (f : Int) := by omega
        have hf1 : 1 ≤ f := by omega
        have Hf := Lib.hid hf
        clear hf
        by_cases hfa : f ≤ at0
        · have c3 : ((f : Int) ≤ (at0 : Int)) = True := by simp; omega
          have hma := match_at (f : Int) (64) A n c at0 f (64) t wr rfl (by omega) Hl.out (HR.out.below (hd.below w.heap.size)) hn ha hfa hf1 (by omega)
          have Hma := Lib.hid hma
          have Hd := Lib.hid hd
          clear hma hd
          go_wp2_with fail
          refine (Hma.out).mono ?_
          rintro e w2 ⟨hd2, m, rfl, hm, hM⟩
          have HM := Lib.hid hM
          have HD2 := Lib.hid (Hd.out.trans hd2)
          clear hM hd2 Hma
          by_cases hm0 : 0 < m
          · have c4 : ((0 : Int) < (m : Int)) = True := by simp; omega
            have hfi := fits_at 2 2 (f : Int) m f w2 (by decide) rfl rfl
            cases hfb : fitsB 2 m f with
            | true =>
              rw [hfb] at hfi
              have Hfi := Lib.hid hfi
              have Hfb := Lib.hid hfb
              clear hfi hfb
              go_wp2_with fail
              refine (Hfi.out).mono ?_
              rintro e w3 ⟨rfl, rfl⟩
              clear Hfi
              go_wp2_with fail
              go_ret2
              exact ⟨HD2.out, m, f, rfl, .inr ⟨hm0, hf1, hfa, HM.out, Hfb.out⟩⟩
            | false =>
              rw [hfb] at hfi
              have Hfi := Lib.hid hfi
              clear hfi hfb
              go_wp2_with fail
              refine (Hfi.out).mono ?_
              rintro e w3 ⟨rfl, rfl⟩
              clear Hfi
              go_wp2_with fail
              case roundEnd => exact ⟨⟨k + 1, int_ext (by omega), by omega, HD2.out⟩, by simp only [intOf]; omega⟩
          · have c4 : ((0 : Int) < (m : Int)) = False := by simp; omega
            go_wp2_with fail
            case roundEnd => exact ⟨⟨k + 1, int_ext (by omega), by omega, HD2.out⟩, by simp only [intOf]; omega⟩
        · have c3 : ((f : Int) ≤ (at0 : Int)) = False := by simp; omega
          have Hd := Lib.hid hd
          clear hd
          go_wp2_with fail
          case roundEnd => exact ⟨⟨k + 1, int_ext (by omega), by omega, Hd.out⟩, by simp only [intOf]; omega⟩
      · have c2 : ((k : Int) < 20) = False := by simp; omega
        obtain ⟨f, hf⟩ : ∃ f, 1 + g1 = f := ⟨_, rfl⟩
        have hfz : (1 : Int) + (g1 : Int) = (f : Int) := by omega
        have hf1 : 1 ≤ f := by omega
        have Hf := Lib.hid hf
        clear hf
        by_cases hfa : f ≤ at0
        · have c3 : ((f : Int) ≤ (at0 : Int)) = True := by simp; omega
          have hma := match_at (f : Int) (64) A n c at0 f (64) t wr rfl (by omega) Hl.out (HR.out.below (hd.below w.heap.size)) hn ha hfa hf1 (by omega)
          have Hma := Lib.hid hma
          have Hd := Lib.hid hd
          clear hma hd
          go_wp2_with fail
          refine (Hma.out).mono ?_
          rintro e w2 ⟨hd2, m, rfl, hm, hM⟩
          have HM := Lib.hid hM
          have HD2 := Lib.hid (Hd.out.trans hd2)
          clear hM hd2 Hma
          by_cases hm0 : 0 < m
          · have c4 : ((0 : Int) < (m : Int)) = True := by simp; omega
            have hfi := fits_at 2 2 (f : Int) m f w2 (by decide) rfl rfl
            cases hfb : fitsB 2 m f with
            | true =>
              rw [hfb] at hfi
              have Hfi := Lib.hid hfi
              have Hfb := Lib.hid hfb
              clear hfi hfb
              go_wp2_with fail
              refine (Hfi.out).mono ?_
              rintro e w3 ⟨rfl, rfl⟩
              clear Hfi
              go_wp2_with fail
              go_ret2
              exact ⟨HD2.out, m, f, rfl, .inr ⟨hm0, hf1, hfa, HM.out, Hfb.out⟩⟩
            | false =>
              rw [hfb] at hfi
              have Hfi := Lib.hid hfi
              clear hfi hfb
              go_wp2_with fail
              refine (Hfi.out).mono ?_
              rintro e w3 ⟨rfl, rfl⟩
              clear Hfi
              go_wp2_with fail
              case roundEnd => exact ⟨⟨k + 1, int_ext (by omega), by omega, HD2.out⟩, by simp only [intOf]; omega⟩
          · have c4 : ((0 : Int) < (m : Int)) = False := by simp; omega
            go_wp2_with fail
            case roundEnd => exact ⟨⟨k + 1, int_ext (by omega), by omega, HD2.out⟩, by simp only [intOf]; omega⟩
        · have c3 : ((f : Int) ≤ (at0 : Int)) = False := by simp; omega
          have Hd := Lib.hid hd
          clear hd
          go_wp2_with fail
          case roundEnd => exact ⟨⟨k + 1, int_ext (by omega), by omega, Hd.out⟩, by simp only [intOf]; omega⟩
    · have c1 : ((k : Int) < 40) = False := by simp; omega
      go_wp2_with fail
      go_ret2
      exact ⟨hd, 0, 0, rfl, .inl rfl⟩

set_option maxRecDepth 10000 in
set_option maxHeartbeats 6400000 in
theorem find_3T (A : Option Addr) (n c at0 rest : Nat) (t : List UInt8) (w : World) (hl : t.length = n) (hR : Rd w (.slice A n c) t) (hn : n ≤ 1000000) (ha : at0 < n) (h0 : 0 < at0) (hr : rest ≤ 268435456) (hr3 : rest % 3 = 1) :
    Calls Tryd.prog 29 #[.slice A n c, .int .i64 (at0 : Int), .int .i64 3, .int .i64 (rest : Int)] w fun e w' => Drew w w' ∧ ∃ m f : Nat, e = .returned (.tuple #[.int .i64 (m : Int), .int .i64 (f : Int)]) ∧ Found t at0 3 m f := by
  have Hl := Lib.hid hl
  have HR := Lib.hid hR
  have c0 : ((rest : Int) % 3 == 1) = true := by simp; omega
  have Hr3 := Lib.hid hr3
  clear hl hR hr3
  go_enter Tryd.func29, Tryd.ntmps29
  go_wp2_with fail
  go_loopw [11] (fun v11 wr => ∃ k : Nat, v11 = .int .i64 (k : Int) ∧ k ≤ 40 ∧ Drew w wr) (fun v11 _ => 40 - (intOf v11).toNat)
  case atStart => exact ⟨0, rfl, by omega, Drew.refl w⟩
  case round =>
    obtain ⟨k, rfl, hk, hd⟩ := hrel
    by_cases hk40 : k < 40
    · have c1 : ((k : Int) < 40) = True := by simp; omega
      obtain ⟨sq, hsq⟩ : ∃ sq, k * k = sq := ⟨_, rfl⟩
      have hsq2 : sq ≤ 1600 := by rw [← hsq]; exact Nat.le_trans (Nat.mul_le_mul (by omega : k ≤ 40) (by omega : k ≤ 40)) (by decide)
      have hkk : (k : Int) * (k : Int) = (sq : Int) := by rw [← hsq]; simp
      obtain ⟨g1, hg1⟩ : ∃ g1, (rest + sq) % at0 = g1 := ⟨_, rfl⟩
      have hg2 : g1 < at0 := by rw [← hg1]; exact Nat.mod_lt _ h0
      have hgz : ((rest : Int) + (sq : Int)) % (at0 : Int) = (g1 : Int) := by rw [← hg1]; simp
      have Hsq := Lib.hid hsq
      have Hg1 := Lib.hid hg1
      clear hsq hg1
      by_cases hk20 : k < 20
      · have c2 : ((k : Int) < 20) = True := by simp; omega
        obtain ⟨f, hf⟩ : ∃ f, 1 + (rest / 16 + k) % 64 = f := ⟨_, rfl⟩
        have hfz : (1 : Int) + ((rest : Int) / 16 + (k : Int)) % 64 = (f : Int) := by omega
        have hf1 : 1 ≤ f := by omega
        have Hf := Lib.hid hf
        clear hf
        by_cases hfa : f ≤ at0
        · have c3 : ((f : Int) ≤ (at0 : Int)) = True := by simp; omega
          have hma := match_at (f : Int) ((4 : Int) + (rest : Int) / 3 % 8) A n c at0 f (4 + rest / 3 % 8) t wr rfl (by omega) Hl.out (HR.out.below (hd.below w.heap.size)) hn ha hfa hf1 (by omega)
          have Hma := Lib.hid hma
          have Hd := Lib.hid hd
          clear hma hd
          go_wp2_with fail
          refine (Hma.out).mono ?_
          rintro e w2 ⟨hd2, m, rfl, hm, hM⟩
          have HM := Lib.hid hM
          have HD2 := Lib.hid (Hd.out.trans hd2)
          clear hM hd2 Hma
          by_cases hm0 : 0 < m
          · have c4 : ((0 : Int) < (m : Int)) = True := by simp; omega
            have hfi := fits_at 3 3 (f : Int) m f w2 (by decide) rfl rfl
            cases hfb : fitsB 3 m f with
            | true =>
              rw [hfb] at hfi
              have Hfi := Lib.hid hfi
              have Hfb := Lib.hid hfb
              clear hfi hfb
              go_wp2_with fail
              refine (Hfi.out).mono ?_
              rintro e w3 ⟨rfl, rfl⟩
              clear Hfi
              go_wp2_with fail
              go_ret2
              exact ⟨HD2.out, m, f, rfl, .inr ⟨hm0, hf1, hfa, HM.out, Hfb.out⟩⟩
            | false =>
              rw [hfb] at hfi
              have Hfi := Lib.hid hfi
              clear hfi hfb
              go_wp2_with fail
              refine (Hfi.out).mono ?_
              rintro e w3 ⟨rfl, rfl⟩
              clear Hfi
              go_wp2_with fail
              case roundEnd => exact ⟨⟨k + 1, int_ext (by omega), by omega, HD2.out⟩, by simp only [intOf]; omega⟩
          · have c4 : ((0 : Int) < (m : Int)) = False := by simp; omega
            go_wp2_with fail
            case roundEnd => exact ⟨⟨k + 1, int_ext (by omega), by omega, HD2.out⟩, by simp only [intOf]; omega⟩
        · have c3 : ((f : Int) ≤ (at0 : Int)) = False := by simp; omega
          have Hd := Lib.hid hd
          clear hd
          go_wp2_with fail
          case roundEnd => exact ⟨⟨k + 1, int_ext (by omega), by omega, Hd.out⟩, by simp only [intOf]; omega⟩
      · have c2 : ((k : Int) < 20) = False := by simp; omega
        obtain ⟨f, hf⟩ : ∃ f, 1 + g1 = f := ⟨_, rfl⟩
        have hfz : (1 : Int) + (g1 : Int) = (f : Int) := by omega
        have hf1 : 1 ≤ f := by omega
        have Hf := Lib.hid hf
        clear hf
        by_cases hfa : f ≤ at0
        · have c3 : ((f : Int) ≤ (at0 : Int)) = True := by simp; omega
          have hma := match_at (f : Int) ((4 : Int) + (rest : Int) / 3 % 8) A n c at0 f (4 + rest / 3 % 8) t wr rfl (by omega) Hl.out (HR.out.below (hd.below w.heap.size)) hn ha hfa hf1 (by omega)
          have Hma := Lib.hid hma
          have Hd := Lib.hid hd
          clear hma hd
          go_wp2_with fail
          refine (Hma.out).mono ?_
          rintro e w2 ⟨hd2, m, rfl, hm, hM⟩
          have HM := Lib.hid hM
          have HD2 := Lib.hid (Hd.out.trans hd2)
          clear hM hd2 Hma
          by_cases hm0 : 0 < m
          · have c4 : ((0 : Int) < (m : Int)) = True := by simp; omega
            have hfi := fits_at 3 3 (f : Int) m f w2 (by decide) rfl rfl
            cases hfb : fitsB 3 m f with
            | true =>
              rw [hfb] at hfi
              have Hfi := Lib.hid hfi
              have Hfb := Lib.hid hfb
              clear hfi hfb
              go_wp2_with fail
              refine (Hfi.out).mono ?_
              rintro e w3 ⟨rfl, rfl⟩
              clear Hfi
              go_wp2_with fail
              go_ret2
              exact ⟨HD2.out, m, f, rfl, .inr ⟨hm0, hf1, hfa, HM.out, Hfb.out⟩⟩
            | false =>
              rw [hfb] at hfi
              have Hfi := Lib.hid hfi
              clear hfi hfb
              go_wp2_with fail
              refine (Hfi.out).mono ?_
              rintro e w3 ⟨rfl, rfl⟩
              clear Hfi
              go_wp2_with fail
              case roundEnd => exact ⟨⟨k + 1, int_ext (by omega), by omega, HD2.out⟩, by simp only [intOf]; omega⟩
          · have c4 : ((0 : Int) < (m : Int)) = False := by simp; omega
            go_wp2_with fail
            case roundEnd => exact ⟨⟨k + 1, int_ext (by omega), by omega, HD2.out⟩, by simp only [intOf]; omega⟩
        · have c3 : ((f : Int) ≤ (at0 : Int)) = False := by simp; omega
          have Hd := Lib.hid hd
          clear hd
          go_wp2_with fail
          case roundEnd => exact ⟨⟨k + 1, int_ext (by omega), by omega, Hd.out⟩, by simp only [intOf]; omega⟩
    · have c1 : ((k : Int) < 40) = False := by simp; omega
      go_wp2_with fail
      go_ret2
      exact ⟨hd, 0, 0, rfl, .inl rfl⟩

set_option maxRecDepth 10000 in
set_option maxHeartbeats 6400000 in
theorem find_3F (A : Option Addr) (n c at0 rest : Nat) (t : List UInt8) (w : World) (hl : t.length = n) (hR : Rd w (.slice A n c) t) (hn : n ≤ 1000000) (ha : at0 < n) (h0 : 0 < at0) (hr : rest ≤ 268435456) (hr3 : ¬ rest % 3 = 1) :
    Calls Tryd.prog 29 #[.slice A n c, .int .i64 (at0 : Int), .int .i64 3, .int .i64 (rest : Int)] w fun e w' => Drew w w' ∧ ∃ m f : Nat, e = .returned (.tuple #[.int .i64 (m : Int), .int .i64 (f : Int)]) ∧ Found t at0 3 m f := by
  have Hl := Lib.hid hl
  have HR := Lib.hid hR
  have c0 : ((rest : Int) % 3 == 1) = false := by simp; omega
  have Hr3 := Lib.hid hr3
  clear hl hR hr3
  go_enter Tryd.func29, Tryd.ntmps29
  go_wp2_with fail
  go_loopw [11] (fun v11 wr => ∃ k : Nat, v11 = .int .i64 (k : Int) ∧ k ≤ 40 ∧ Drew w wr) (fun v11 _ => 40 - (intOf v11).toNat)
  case atStart => exact ⟨0, rfl, by omega, Drew.refl w⟩
  case round =>
    obtain ⟨k, rfl, hk, hd⟩ := hrel
    by_cases hk40 : k < 40
    · have c1 : ((k : Int) < 40) = True := by simp; omega
      obtain ⟨sq, hsq⟩ : ∃ sq, k * k = sq := ⟨_, rfl⟩
      have hsq2 : sq ≤ 1600 := by rw [← hsq]; exact Nat.le_trans (Nat.mul_le_mul (by omega : k ≤ 40) (by omega : k ≤ 40)) (by decide)
      have hkk : (k : Int) * (k : Int) = (sq : Int) := by rw [← hsq]; simp
      obtain ⟨g1, hg1⟩ : ∃ g1, (rest + sq) % at0 = g1 := ⟨_, rfl⟩
      have hg2 : g1 < at0 := by rw [← hg1]; exact Nat.mod_lt _ h0
      have hgz : ((rest : Int) + (sq : Int)) % (at0 : Int) = (g1 : Int) := by rw [← hg1]; simp
      have Hsq := Lib.hid hsq
      have Hg1 := Lib.hid hg1
      clear hsq hg1
      by_cases hk20 : k < 20
      · have c2 : ((k : Int) < 20) = True := by simp; omega
        obtain ⟨f, hf⟩ : ∃ f, 1 + (rest / 16 + k) % 64 = f := ⟨_, rfl⟩
        have hfz : (1 : Int) + ((rest : Int) / 16 + (k : Int)) % 64 = (f : Int) := by omega
        have hf1 : 1 ≤ f := by omega
        have Hf := Lib.hid hf
        clear hf
        by_cases hfa : f ≤ at0
        · have c3 : ((f : Int) ≤ (at0 : Int)) = True := by simp; omega
          have hma := match_at (f : Int) (64) A n c at0 f (64) t wr rfl (by omega) Hl.out (HR.out.below (hd.below w.heap.size)) hn ha hfa hf1 (by omega)
          have Hma := Lib.hid hma
          have Hd := Lib.hid hd
          clear hma hd
          go_wp2_with fail
          refine (Hma.out).mono ?_
          rintro e w2 ⟨hd2, m, rfl, hm, hM⟩
          have HM := Lib.hid hM
          have HD2 := Lib.hid (Hd.out.trans hd2)
          clear hM hd2 Hma
          by_cases hm0 : 0 < m
          · have c4 : ((0 : Int) < (m : Int)) = True := by simp; omega
            have hfi := fits_at 3 3 (f : Int) m f w2 (by decide) rfl rfl
            cases hfb : fitsB 3 m f with
            | true =>
              rw [hfb] at hfi
              have Hfi := Lib.hid hfi
              have Hfb := Lib.hid hfb
              clear hfi hfb
              go_wp2_with fail
              refine (Hfi.out).mono ?_
              rintro e w3 ⟨rfl, rfl⟩
              clear Hfi
              go_wp2_with fail
              go_ret2
              exact ⟨HD2.out, m, f, rfl, .inr ⟨hm0, hf1, hfa, HM.out, Hfb.out⟩⟩
            | false =>
              rw [hfb] at hfi
              have Hfi := Lib.hid hfi
              clear hfi hfb
              go_wp2_with fail
              refine (Hfi.out).mono ?_
              rintro e w3 ⟨rfl, rfl⟩
              clear Hfi
              go_wp2_with fail
              case roundEnd => exact ⟨⟨k + 1, int_ext (by omega), by omega, HD2.out⟩, by simp only [intOf]; omega⟩
          · have c4 : ((0 : Int) < (m : Int)) = False := by simp; omega
            go_wp2_with fail
            case roundEnd => exact ⟨⟨k + 1, int_ext (by omega), by omega, HD2.out⟩, by simp only [intOf]; omega⟩
        · have c3 : ((f : Int) ≤ (at0 : Int)) = False := by simp; omega
          have Hd := Lib.hid hd
          clear hd
          go_wp2_with fail
          case roundEnd => exact ⟨⟨k + 1, int_ext (by omega), by omega, Hd.out⟩, by simp only [intOf]; omega⟩
      · have c2 : ((k : Int) < 20) = False := by simp; omega
        obtain ⟨f, hf⟩ : ∃ f, 1 + g1 = f := ⟨_, rfl⟩
        have hfz : (1 : Int) + (g1 : Int) = (f : Int) := by omega
        have hf1 : 1 ≤ f := by omega
        have Hf := Lib.hid hf
        clear hf
        by_cases hfa : f ≤ at0
        · have c3 : ((f : Int) ≤ (at0 : Int)) = True := by simp; omega
          have hma := match_at (f : Int) (64) A n c at0 f (64) t wr rfl (by omega) Hl.out (HR.out.below (hd.below w.heap.size)) hn ha hfa hf1 (by omega)
          have Hma := Lib.hid hma
          have Hd := Lib.hid hd
          clear hma hd
          go_wp2_with fail
          refine (Hma.out).mono ?_
          rintro e w2 ⟨hd2, m, rfl, hm, hM⟩
          have HM := Lib.hid hM
          have HD2 := Lib.hid (Hd.out.trans hd2)
          clear hM hd2 Hma
          by_cases hm0 : 0 < m
          · have c4 : ((0 : Int) < (m : Int)) = True := by simp; omega
            have hfi := fits_at 3 3 (f : Int) m f w2 (by decide) rfl rfl
            cases hfb : fitsB 3 m f with
            | true =>
              rw [hfb] at hfi
              have Hfi := Lib.hid hfi
              have Hfb := Lib.hid hfb
              clear hfi hfb
              go_wp2_with fail
              refine (Hfi.out).mono ?_
              rintro e w3 ⟨rfl, rfl⟩
              clear Hfi
              go_wp2_with fail
              go_ret2
              exact ⟨HD2.out, m, f, rfl, .inr ⟨hm0, hf1, hfa, HM.out, Hfb.out⟩⟩
            | false =>
              rw [hfb] at hfi
              have Hfi := Lib.hid hfi
              clear hfi hfb
              go_wp2_with fail
              refine (Hfi.out).mono ?_
              rintro e w3 ⟨rfl, rfl⟩
              clear Hfi
              go_wp2_with fail
              case roundEnd => exact ⟨⟨k + 1, int_ext (by omega), by omega, HD2.out⟩, by simp only [intOf]; omega⟩
          · have c4 : ((0 : Int) < (m : Int)) = False := by simp; omega
            go_wp2_with fail
            case roundEnd => exact ⟨⟨k + 1, int_ext (by omega), by omega, HD2.out⟩, by simp only [intOf]; omega⟩
        · have c3 : ((f : Int) ≤ (at0 : Int)) = False := by simp; omega
          have Hd := Lib.hid hd
          clear hd
          go_wp2_with fail
          case roundEnd => exact ⟨⟨k + 1, int_ext (by omega), by omega, Hd.out⟩, by simp only [intOf]; omega⟩
    · have c1 : ((k : Int) < 40) = False := by simp; omega
      go_wp2_with fail
      go_ret2
      exact ⟨hd, 0, 0, rfl, .inl rfl⟩

end Go.Proofs.YtfnejblenapddaaDoor
