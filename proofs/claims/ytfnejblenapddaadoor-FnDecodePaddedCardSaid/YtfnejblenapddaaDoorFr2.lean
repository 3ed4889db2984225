/- Frames laid open: more sizes. -/
import Derived.Test.YtfnejblenapddaaDoorFr
set_option linter.unusedVariables false
namespace Go.Proofs.YtfnejblenapddaaDoor
open Go Go.RowKit

set_option maxRecDepth 100000 in
theorem range56 (f : Nat → Value) : (List.range 56).map f = [f 0, f 1, f 2, f 3, f 4, f 5, f 6, f 7, f 8, f 9, f 10, f 11, f 12, f 13, f 14, f 15, f 16, f 17, f 18, f 19, f 20, f 21, f 22, f 23, f 24, f 25, f 26, f 27, f 28, f 29, f 30, f 31, f 32, f 33, f 34, f 35, f 36, f 37, f 38, f 39, f 40, f 41, f 42, f 43, f 44, f 45, f 46, f 47, f 48, f 49, f 50, f 51, f 52, f 53, f 54, f 55] := by kernel_rfl
set_option maxRecDepth 100000 in
/-- A frame of 56 slots, laid open. -/
theorem open56 (a : Act) (hs : a.tmps.size = 56) (hd : a.defers = []) : ∃ f : Nat → Value, a = ⟨#[f 0, f 1, f 2, f 3, f 4, f 5, f 6, f 7, f 8, f 9, f 10, f 11, f 12, f 13, f 14, f 15, f 16, f 17, f 18, f 19, f 20, f 21, f 22, f 23, f 24, f 25, f 26, f 27, f 28, f 29, f 30, f 31, f 32, f 33, f 34, f 35, f 36, f 37, f 38, f 39, f 40, f 41, f 42, f 43, f 44, f 45, f 46, f 47, f 48, f 49, f 50, f 51, f 52, f 53, f 54, f 55], []⟩ ∧ ∀ k, a.tmps.getD k undef = f k := by
  refine ⟨fun k => a.tmps.getD k undef, ?_, fun _ => rfl⟩
  have h := frame_range a 56 hs hd
  rw [range56] at h
  exact h
set_option maxRecDepth 100000 in
theorem range39 (f : Nat → Value) : (List.range 39).map f = [f 0, f 1, f 2, f 3, f 4, f 5, f 6, f 7, f 8, f 9, f 10, f 11, f 12, f 13, f 14, f 15, f 16, f 17, f 18, f 19, f 20, f 21, f 22, f 23, f 24, f 25, f 26, f 27, f 28, f 29, f 30, f 31, f 32, f 33, f 34, f 35, f 36, f 37, f 38] := by kernel_rfl
set_option maxRecDepth 100000 in
/-- A frame of 39 slots, laid open. -/
theorem open39 (a : Act) (hs : a.tmps.size = 39) (hd : a.defers = []) : ∃ f : Nat → Value, a = ⟨#[f 0, f 1, f 2, f 3, f 4, f 5, f 6, f 7, f 8, f 9, f 10, f 11, f 12, f 13, f 14, f 15, f 16, f 17, f 18, f 19, f 20, f 21, f 22, f 23, f 24, f 25, f 26, f 27, f 28, f 29, f 30, f 31, f 32, f 33, f 34, f 35, f 36, f 37, f 38], []⟩ ∧ ∀ k, a.tmps.getD k undef = f k := by
  refine ⟨fun k => a.tmps.getD k undef, ?_, fun _ => rfl⟩
  have h := frame_range a 39 hs hd
  rw [range39] at h
  exact h

end Go.Proofs.YtfnejblenapddaaDoor
