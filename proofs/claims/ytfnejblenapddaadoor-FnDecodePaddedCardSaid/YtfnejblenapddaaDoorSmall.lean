/- Small functions by their contracts: Same, says, refused, common, part, MaxEncodedLen, PutUvarint, Uvarint. -/
import Derived.Test.YtfnejblenapddaaDoorPureH
import Derived.Test.YtfnejblenapddaaDoorCln
import Derived.Test.YtfnejblenapddaaDoorDecM
set_option linter.unusedVariables false
namespace Go.Proofs.YtfnejblenapddaaDoor
open Go Go.RowKit

theorem Drew.refl (w : World) : Drew w w := ⟨0, rfl⟩
theorem Drew.trans {w w1 w2 : World} (h : Drew w w1) (h2 : Drew w1 w2) : Drew w w2 := by
  obtain ⟨n, rfl⟩ := h
  obtain ⟨m, rfl⟩ := h2
  exact ⟨n + m, World.drewN_drewN ..⟩
theorem Drew.below {w w1 : World} (h : Drew w w1) (B : Nat) : Below B w w1 := by
  obtain ⟨n, rfl⟩ := h
  exact ⟨rfl, rfl, rfl, Nat.le_refl _, fun _ _ => rfl⟩

set_option maxHeartbeats 800000 in
theorem common_yes (A : Option Addr) (n c : Nat) (w : World) (hn : n ≤ 1000000) : Calls Tryd.prog 10 #[.slice A n c] w fun e w' => e = .returned (.bool true) ∧ w' = w := by
  go_enter Tryd.func10, Tryd.ntmps10
  go_wp2
  go_ret
  exact ⟨by simp; omega, rfl⟩
set_option maxHeartbeats 800000 in
theorem common_no (A : Option Addr) (n c : Nat) (w : World) (hn : ¬ n ≤ 1000000) : Calls Tryd.prog 10 #[.slice A n c] w fun e w' => e = .returned (.bool false) ∧ w' = w := by
  go_enter Tryd.func10, Tryd.ntmps10
  go_wp2
  go_ret
  exact ⟨by simp; omega, rfl⟩

set_option maxHeartbeats 800000 in
theorem maxEnc_any (n : Nat) (w : World) (hn : n ≤ 2147483647) : Calls Tryd.prog 36 #[.int .i64 (n : Int)] w fun e w' => e = .returned (.int .i64 ((32 + n + n / 6 : Nat) : Int)) ∧ w' = w := by
  go_enter Tryd.func36, Tryd.ntmps36
  go_wp2
  go_ret
  exact ⟨ret_ext (by omega), rfl⟩

set_option maxHeartbeats 1600000 in
/-- Two slices that read as the same bytes are the same. -/
theorem same_yes (A1 A2 : Option Addr) (c1 c2 n : Nat) (bs : List UInt8) (w : World) (hl : bs.length = n) (h1 : Rd w (.slice A1 n c1) bs) (h2 : Rd w (.slice A2 n c2) bs) (hn : n ≤ 1099511627776) :
    Calls Tryd.prog 21 #[.slice A1 n c1, .slice A2 n c2] w fun e w' => e = .returned (.bool true) ∧ Drew w w' := by
  have h1' : 0 < n → ∃ b off, A1 = some ⟨b, off, none⟩ ∧ Bs w b off bs := by
    obtain ⟨A, c, he, _, _, _, h⟩ := h1
    simp only [Value.slice.injEq] at he
    obtain ⟨rfl, _, rfl⟩ := he
    rw [← hl]; exact h
  have h2' : 0 < n → ∃ b off, A2 = some ⟨b, off, none⟩ ∧ Bs w b off bs := by
    obtain ⟨A, c, he, _, _, _, h⟩ := h2
    simp only [Value.slice.injEq] at he
    obtain ⟨rfl, _, rfl⟩ := he
    rw [← hl]; exact h
  have Hl := Lib.hid hl
  have H1 := Lib.hid h1'
  have H2 := Lib.hid h2'
  clear hl h1 h2 h1' h2'
  have hnb : ((n : Int) != (n : Int)) = false := by simp
  go_enter Tryd.func21, Tryd.ntmps21
  go_wp2
  go_loopw [13] (fun vk wr => ∃ k : Nat, vk = .int .i64 (k : Int) ∧ k ≤ n ∧ Drew w wr) (fun vk _ => n - (intOf vk).toNat)
  case atStart => exact ⟨0, rfl, by omega, Drew.refl w⟩
  case round =>
    obtain ⟨k, rfl, hk, hd⟩ := hrel
    by_cases hlt : k < n
    · obtain ⟨b1, o1, rfl, hB1⟩ := H1.out (by omega)
      obtain ⟨b2, o2, rfl, hB2⟩ := H2.out (by omega)
      obtain ⟨m, rfl⟩ := hd
      have hc1 : (w.drewN m).cell? ⟨b1, o1 + k, none⟩ = some (.int .u8 ((bt bs k : Nat) : Int)) := hB1.bt k (by rw [Hl.out]; omega)
      have hc2 : (w.drewN m).cell? ⟨b2, o2 + k, none⟩ = some (.int .u8 ((bt bs k : Nat) : Int)) := hB2.bt k (by rw [Hl.out]; omega)
      generalize bt bs k = x at hc1 hc2
      have hk0 : (0 : Int) ≤ (k : Int) := by omega
      have hk1 : (k : Int) < (n : Int) := by omega
      have hx : ((x : Int) != (x : Int)) = false := by simp
      clear hB1 hB2
      generalize hW : w.drewN m = w1 at hc1 hc2 ⊢
      have HW := Lib.hid hW
      clear hW
      go_wp2_with fail
      go_quiet (fail)
      go_wp2_with fail
      go_roundw
      case rel => exact ⟨k + 1, by go_num, by omega, (show Drew w w1 from ⟨m, HW.out.symm⟩).trans ⟨_, rfl⟩⟩
      case measure => simp [intOf]; omega
    · go_wp2
      go_ret
      exact ⟨rfl, hd⟩

set_option maxHeartbeats 800000 in
theorem says_yes (A1 A2 : Option Addr) (c1 c2 n : Nat) (bs : List UInt8) (w : World) (hl : bs.length = n) (h1 : Rd w (.slice A1 n c1) bs) (h2 : Rd w (.slice A2 n c2) bs) (hn : n ≤ 1099511627776) :
    Calls Tryd.prog 13 #[.agg #[.slice A1 n c1, .int .i64 0], .slice A2 n c2] w fun e w' => e = .returned (.bool true) ∧ Below w.heap.size w w' := by
  have hbl := (Below.refl w.heap.size w).alloc (Nat.le_refl _) (.cells #[.slice A1 n c1, .int .i64 0] 29)
  have hs := same_yes A1 A2 c1 c2 n bs (w.alloc (.cells #[.slice A1 n c1, .int .i64 0] 29)) hl (h1.below hbl) (h2.below hbl) hn
  have Hs := Lib.hid hs
  have Hl := Lib.hid hl
  clear hs hl h1 h2
  go_enter Tryd.func13, Tryd.ntmps13
  go_wp2_with fail
  refine (Hs.out).mono ?_
  rintro e w' ⟨rfl, nq, rfl⟩
  go_wp2_with fail
  go_ret
  exact ⟨rfl, hbl.trans (Drew.below ⟨nq, rfl⟩ _)⟩

set_option maxHeartbeats 800000 in
theorem refused_yes (v : Value) (f : Int) (w : World) (hf : f ≠ 0) :
    Calls Tryd.prog 18 #[.agg #[v, .int .i64 f]] w fun e w' => e = .returned (.bool true) ∧ Below w.heap.size w w' := by
  have hb : (f != 0) = true := by simpa using hf
  clear hf
  go_enter Tryd.func18, Tryd.ntmps18
  go_wp2
  go_ret
  exact ⟨rfl, (Below.refl _ _).alloc (Nat.le_refl _) _⟩

def Parted (of : Nat) (w : World) (e : Ending) (w' : World) : Prop := ∃ r : Nat, e = .returned (.int .i64 (r : Int)) ∧ r < of ∧ w' = w
set_option maxHeartbeats 800000 in
theorem part_any (n : Int) (of : Nat) (w : World) (h0 : 0 < of) (h1 : of ≤ 1099511627776) : Calls Tryd.prog 12 #[.int .i64 n, .int .i64 (of : Int)] w (Parted of w) := by
  have hb := i64_and30 n
  obtain ⟨x, hx⟩ : ∃ x : Nat, bits .and .i64 n 1073741823 = (x : Int) := ⟨(bits .and .i64 n 1073741823).toNat, by omega⟩
  clear hb
  go_enter Tryd.func12, Tryd.ntmps12
  go_wp2
  go_ret
  exact ⟨x % of, ret_ext (by simp), Nat.mod_lt _ h0, rfl⟩
end Go.Proofs.YtfnejblenapddaaDoor
