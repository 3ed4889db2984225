/- decode's memory: what has been said so far, and what it leaves. -/
import Derived.Test.YtfnejblenapddaaDoorPureD
import Derived.Test.YtfnejblenapddaaDoorLoad
import Derived.Deep.QuietTactic
import Derived.BigQuiet
import Derived.StillTailTactics
import Derived.Deep.CutBlock
import Derived.Deep.DeepCutAuto
import Derived.Deep.LoopGhost
set_option linter.unusedVariables false
namespace Go.Proofs.YtfnejblenapddaaDoor
open Go Go.RowKit

/-- N bytes of the call's own, the first of which say what has been said. -/
def Dst (w : World) (g N : Nat) (out : List UInt8) : Prop := ∃ L : List Value, L.length = N ∧ Blk w g L ∧ L.take out.length = bc out

/-- What decode leaves. -/
def Decoded (N : Nat) (src : List UInt8) (w : World) (g : Nat) (e : Ending) (w' : World) : Prop :=
  w.grownBy w' (some g) ∧ ((D N src [] = none ∧ e = .returned (.int .i64 1)) ∨ ∃ r, D N src [] = some r ∧ e = .returned (.int .i64 0) ∧ (0 < N → Blk w' g (bc r)))

/-- A slice up to a place. -/
theorem slice_to (g o n c u : Nat) (hu : u ≤ c) : ∀ W, (Instr.slice 22 (.slice (some ⟨g, o, none⟩) n c) none (some (.int .i64 (u : Int))) none).run Tryd.prog W = .ok (.slice (some ⟨g, o, none⟩) u c) W := by
  intro W
  rw [run_slice_h (P := Tryd.prog) W 22 _ n c elem22 .i64 _ (by omega) (by omega), elem22', run_size5]
  simp [sliced, addr_add]

theorem drew_gb {w w' : World} (h : Drew w w') (row : Option Nat) : w.grownBy w' row := by
  obtain ⟨n, rfl⟩ := h
  exact gb_drewN _ _ _

section
variable {w w' : World} {g N : Nat} {out src : List UInt8} {e : Ending}
theorem Dst.full (h : Dst w g N out) (hl : out.length = N) : Blk w g (bc out) := by
  obtain ⟨L, h1, h2, h3⟩ := h
  rw [List.take_of_length_le (by omega)] at h3
  rw [← h3]
  exact h2
theorem Dst.of_eq (h : Dst w g N out) (he : w'.heap[g]? = w.heap[g]?) : Dst w' g N out := by
  obtain ⟨L, h1, h2, h3⟩ := h
  exact ⟨L, h1, h2.of_eq he, h3⟩
theorem Dst.drewn (h : Dst w g N out) (n : Nat) : Dst (w.drewN n) g N out := h
theorem Decoded.drewn (h : Decoded N src w g e w') (n : Nat) : Decoded N src w g e (w'.drewN n) := ⟨gb_trans h.1 (gb_drewN _ _ _), h.2⟩
/-- Bytes written behind what has been said. -/
theorem Dst.more {L : List Value} {B : List UInt8} (h1 : L.length = N) (h3 : L.take out.length = bc out) (hf : out.length + B.length ≤ N) (hW : Blk w' g (splice L out.length (bc B))) : Dst w' g N (out ++ B) := by
  refine ⟨_, by rw [length_splice _ _ _ (by rw [bc_length]; omega), h1], hW, ?_⟩
  have := take_splice L out.length (bc B) (by rw [bc_length]; omega)
  rw [bc_length] at this
  rw [List.length_append, this, h3, bc_append]
/-- One byte more. -/
theorem Dst.push (h : Dst w g N out) {p : Nat} (hp : out.length = p) (hN : p < N) (x : UInt8) : Dst (w.setCell ⟨g, p, none⟩ (.int .u8 (x.toNat : Int))) g N (out ++ [x]) := by
  obtain ⟨L, h1, h2, h3⟩ := h
  have hs := h2.set p (.int .u8 (x.toNat : Int))
  rw [set_splice L p _ (by omega)] at hs
  exact Dst.more (B := [x]) h1 h3 (by simp; omega) (by rw [hp]; exact hs)
theorem Dst.at (h : Dst w g N out) (i : Nat) (hi : i < out.length) (hN : out.length ≤ N) : w.cell? ⟨g, i, none⟩ = some (.int .u8 ((out.getD i 0).toNat : Int)) := by
  obtain ⟨L, h1, h2, h3⟩ := h
  rw [h2.cell (i := i) (by omega)]
  have := congrArg (fun l => l[i]?) h3
  simp only [List.getElem?_take, if_pos hi] at this
  rw [bc_get out i hi, List.getElem?_eq_getElem (by omega)] at this
  rw [this]
  simp [hi]
theorem Dst.cell_some (h : Dst w g N out) (i : Nat) (hi : i < N) : ∃ x, w.cell? ⟨g, i, none⟩ = some x := by
  obtain ⟨L, h1, h2, h3⟩ := h
  exact h2.cell_some (by omega)
theorem Dst.free (h : Dst w g N out) (i : Nat) : w.frozen? ⟨g, i, none⟩ = false := by
  obtain ⟨L, h1, h2, h3⟩ := h
  exact h2.free i
theorem Bs.bt {b off : Nat} {bs : List UInt8} (h : Bs w b off bs) (i : Nat) (hi : i < bs.length) : w.cell? ⟨b, off + i, none⟩ = some (.int .u8 ((bt bs i : Nat) : Int)) := h.at i hi
end
end Go.Proofs.YtfnejblenapddaaDoor
