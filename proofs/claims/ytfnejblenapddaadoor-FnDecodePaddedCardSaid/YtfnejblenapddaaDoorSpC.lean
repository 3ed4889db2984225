/- The description's Fits and Copy. -/
import Derived.Test.YtfnejblenapddaaDoorJoinM
set_option linter.unusedVariables false
set_option linter.unusedSimpArgs false
namespace Go.Proofs.YtfnejblenapddaaDoor
open Go Go.RowKit

/-- Whether a copy of a form can have this length and this offset. -/
def fitsB (form n far : Nat) : Bool :=
  if form = 1 then decide (4 ≤ n) && decide (n ≤ 11) && decide (far < 2048) else if form = 2 then decide (1 ≤ n) && decide (n ≤ 64) && decide (far < 65536) else decide (1 ≤ n) && decide (n ≤ 64) && decide (far ≤ 4294967295)

set_option maxRecDepth 10000 in
set_option maxHeartbeats 1600000 in
theorem fits_1 (n far : Nat) (w : World) : Calls Tryd.prog 40 #[.int .i64 1, .int .i64 (n : Int), .int .i64 (far : Int)] w fun e w' => e = .returned (.bool (fitsB 1 n far)) ∧ w' = w := by
  have hf0 : ((0 : Int) ≤ (far : Int)) = True := by simp
  by_cases h0 : 4 ≤ n
  · have k0 : ((4 : Int) ≤ (n : Int)) = True := by simp; omega
    by_cases h1 : n ≤ 11
    · have k1 : ((n : Int) ≤ 11) = True := by simp; omega
      by_cases h2 : far < 2048
      · have k2 : ((far : Int) < 2048) = True := by simp; omega
        go_enter Tryd.func40, Tryd.ntmps40
        go_wp2_with fail
        go_ret
        exact ⟨by simp [fitsB, h0, h1, h2], rfl⟩
      · have k2 : ((far : Int) < 2048) = False := by simp; omega
        go_enter Tryd.func40, Tryd.ntmps40
        go_wp2_with fail
        go_ret
        exact ⟨by simp [fitsB, h0, h1, h2], rfl⟩
    · have k1 : ((n : Int) ≤ 11) = False := by simp; omega
      go_enter Tryd.func40, Tryd.ntmps40
      go_wp2_with fail
      go_ret
      exact ⟨by simp [fitsB, h0, h1], rfl⟩
  · have k0 : ((4 : Int) ≤ (n : Int)) = False := by simp; omega
    go_enter Tryd.func40, Tryd.ntmps40
    go_wp2_with fail
    go_ret
    exact ⟨by simp [fitsB, h0], rfl⟩

set_option maxRecDepth 10000 in
set_option maxHeartbeats 1600000 in
theorem fits_2 (n far : Nat) (w : World) : Calls Tryd.prog 40 #[.int .i64 2, .int .i64 (n : Int), .int .i64 (far : Int)] w fun e w' => e = .returned (.bool (fitsB 2 n far)) ∧ w' = w := by
  have hf0 : ((0 : Int) ≤ (far : Int)) = True := by simp
  by_cases h0 : 1 ≤ n
  · have k0 : ((1 : Int) ≤ (n : Int)) = True := by simp; omega
    by_cases h1 : n ≤ 64
    · have k1 : ((n : Int) ≤ 64) = True := by simp; omega
      by_cases h2 : far < 65536
      · have k2 : ((far : Int) < 65536) = True := by simp; omega
        go_enter Tryd.func40, Tryd.ntmps40
        go_wp2_with fail
        go_ret
        exact ⟨by simp [fitsB, h0, h1, h2], rfl⟩
      · have k2 : ((far : Int) < 65536) = False := by simp; omega
        go_enter Tryd.func40, Tryd.ntmps40
        go_wp2_with fail
        go_ret
        exact ⟨by simp [fitsB, h0, h1, h2], rfl⟩
    · have k1 : ((n : Int) ≤ 64) = False := by simp; omega
      go_enter Tryd.func40, Tryd.ntmps40
      go_wp2_with fail
      go_ret
      exact ⟨by simp [fitsB, h0, h1], rfl⟩
  · have k0 : ((1 : Int) ≤ (n : Int)) = False := by simp; omega
    go_enter Tryd.func40, Tryd.ntmps40
    go_wp2_with fail
    go_ret
    exact ⟨by simp [fitsB, h0], rfl⟩

set_option maxRecDepth 10000 in
set_option maxHeartbeats 1600000 in
theorem fits_3 (n far : Nat) (w : World) : Calls Tryd.prog 40 #[.int .i64 3, .int .i64 (n : Int), .int .i64 (far : Int)] w fun e w' => e = .returned (.bool (fitsB 3 n far)) ∧ w' = w := by
  have hf0 : ((0 : Int) ≤ (far : Int)) = True := by simp
  by_cases h0 : 1 ≤ n
  · have k0 : ((1 : Int) ≤ (n : Int)) = True := by simp; omega
    by_cases h1 : n ≤ 64
    · have k1 : ((n : Int) ≤ 64) = True := by simp; omega
      by_cases h2 : far ≤ 4294967295
      · have k2 : ((far : Int) ≤ 4294967295) = True := by simp; omega
        go_enter Tryd.func40, Tryd.ntmps40
        go_wp2_with fail
        go_ret
        exact ⟨by simp [fitsB, h0, h1, h2], rfl⟩
      · have k2 : ((far : Int) ≤ 4294967295) = False := by simp; omega
        go_enter Tryd.func40, Tryd.ntmps40
        go_wp2_with fail
        go_ret
        exact ⟨by simp [fitsB, h0, h1, h2], rfl⟩
    · have k1 : ((n : Int) ≤ 64) = False := by simp; omega
      go_enter Tryd.func40, Tryd.ntmps40
      go_wp2_with fail
      go_ret
      exact ⟨by simp [fitsB, h0, h1], rfl⟩
  · have k0 : ((1 : Int) ≤ (n : Int)) = False := by simp; omega
    go_enter Tryd.func40, Tryd.ntmps40
    go_wp2_with fail
    go_ret
    exact ⟨by simp [fitsB, h0], rfl⟩

end Go.Proofs.YtfnejblenapddaaDoor
