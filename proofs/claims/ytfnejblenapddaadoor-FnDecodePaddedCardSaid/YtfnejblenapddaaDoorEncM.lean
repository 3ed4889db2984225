/- encodeBlock's memory: its table of places, and what it has written so far. -/
import Derived.Test.YtfnejblenapddaaDoorEmitC
import Derived.Test.YtfnejblenapddaaDoorLoad
set_option linter.unusedVariables false
namespace Go.Proofs.YtfnejblenapddaaDoor
open Go Go.RowKit

/-- The table's zero value. -/
def Z16 : Array Value := Array.replicate 16384 (.int .u16 0)
set_option maxRecDepth 100000 in
theorem zero74 : (Tryd.prog.info? 74).map (·.zero) = some (some (.agg Z16)) := by kernel_rfl
theorem run_zero74 (w : World) : (zeroValue 74).run Tryd.prog w = .ok (.agg Z16) w := by
  have h := zero74
  cases hi : Tryd.prog.info? 74 with
  | none => rw [hi] at h; simp at h
  | some i =>
    rw [hi] at h
    simp at h
    simp [zeroValue, typeInfo, hi, h]

/-- The table: places below s alone. -/
def Tb (w : World) (k s : Nat) : Prop := ∃ T : List Nat, T.length = 16384 ∧ w.heap[k]? = some (.cells (T.map fun x : Nat => Value.int .u16 (x : Int)).toArray 74 (0, 0)) ∧ ∀ (i x : Nat), T[i]? = some x → x < s

section
variable {w w' : World} {k s g : Nat}
theorem Tb.made (w : World) (hs : 0 < s) : Tb (w.alloc (.cells Z16 74)) w.heap.size s := by
  refine ⟨List.replicate 16384 0, List.length_replicate, ?_, fun i x hx => ?_⟩
  · rw [heap_alloc_new, Z16, List.map_replicate, List.toArray_replicate]
    rfl
  · rw [List.getElem?_replicate] at hx
    split at hx
    · simp only [Option.some.injEq] at hx; omega
    · cases hx
theorem Tb.at (h : Tb w k s) (i : Nat) (hi : i < 16384) : ∃ x : Nat, x < s ∧ w.cell? ⟨k, i, none⟩ = some (.int .u16 (x : Int)) := by
  obtain ⟨T, hl, hh, hx⟩ := h
  refine ⟨T[i]'(by omega), hx i _ (List.getElem?_eq_getElem (by omega)), ?_⟩
  simp [World.cell?, hh, hl, hi]
theorem Tb.free (h : Tb w k s) (i : Nat) : w.frozen? ⟨k, i, none⟩ = false := by
  obtain ⟨T, hl, hh, hx⟩ := h
  exact frozen_of_row w k i _ 74 hh
theorem Tb.lt (h : Tb w k s) : k < w.heap.size := by
  obtain ⟨T, hl, hh, hx⟩ := h
  exact (Array.getElem?_eq_some_iff.1 hh).1
theorem Tb.of_eq (h : Tb w k s) (e : w'.heap[k]? = w.heap[k]?) : Tb w' k s := by
  obtain ⟨T, hl, hh, hx⟩ := h
  exact ⟨T, hl, e.trans hh, hx⟩
theorem Tb.grown (h : Tb w k s) (hg : w.grownBy w' (some g)) (hk : k ≠ g) : Tb w' k s := h.of_eq (hg.block k h.lt (by simpa using hk))
theorem Tb.set (h : Tb w k s) (i x : Nat) {s' : Nat} (hx : x < s') (hs : s ≤ s') : Tb (w.setCell ⟨k, i, none⟩ (.int .u16 (x : Int))) k s' := by
  obtain ⟨T, hl, hh, hT⟩ := h
  refine ⟨T.set i x, by simpa using hl, ?_, fun j y hy => ?_⟩
  · rw [heap_setCell_same w k i _ 74 _ hh]
    simp [List.map_set]
  · rw [List.getElem?_set] at hy
    split at hy
    · split at hy
      · simp only [Option.some.injEq] at hy; omega
      · cases hy
    · have := hT j y hy; omega
theorem Tb.mono (h : Tb w k s) {s' : Nat} (hs : s ≤ s') : Tb w k s' := by
  obtain ⟨T, hl, hh, hT⟩ := h
  exact ⟨T, hl, hh, fun i x hx => by have := hT i x hx; omega⟩
end

/-- What has been written so far says the text up to ne; the source and the table are there. -/
structure St (w wr : World) (g o k b off : Nat) (L : List Value) (bs : List UInt8) (d ne s : Nat) : Prop where
  out : ∃ E : List UInt8, E.length = d ∧ Ev E [] (bs.take ne) ∧ Blk wr g (splice L o (bc E))
  src : Bs wr b off bs
  tbl : Tb wr k s
  gb : w.grownBy wr (some g)

section
variable {w wr w' : World} {g o k b off d ne s : Nat} {L : List Value} {bs : List UInt8}
theorem St.drew (h : St w wr g o k b off L bs d ne s) (hd : Drew wr w') : St w w' g o k b off L bs d ne s := by
  obtain ⟨n, rfl⟩ := hd
  exact ⟨h.out, h.src, h.tbl, gb_trans h.gb (gb_drewN _ _ _)⟩
theorem St.mono (h : St w wr g o k b off L bs d ne s) {s' : Nat} (hs : s ≤ s') : St w wr g o k b off L bs d ne s' := ⟨h.out, h.src, h.tbl.mono hs, h.gb⟩
/-- A store into the table. -/
theorem St.put (h : St w wr g o k b off L bs d ne s) (hkg : k ≠ g) (hkb : k ≠ b) (hkw : w.heap.size ≤ k) (i x : Nat) {s' : Nat} (hx : x < s') (hs : s ≤ s') : St w (wr.setCell ⟨k, i, none⟩ (.int .u16 (x : Int))) g o k b off L bs d ne s' := by
  obtain ⟨E, h1, h2, h3⟩ := h.out
  refine ⟨⟨E, h1, h2, h3.set_other (a := ⟨k, i, none⟩) (Ne.symm hkg) _⟩, h.src.set_other (a := ⟨k, i, none⟩) (Ne.symm hkb) _, h.tbl.set i x hx hs, ?_⟩
  exact ⟨h.gb.os, h.gb.tape, h.gb.output, by simpa using h.gb.size, fun j hj hn => (heap_setCell_other wr ⟨k, i, none⟩ j _ (show j ≠ k by omega)).trans (h.gb.block j hj hn)⟩
/-- Bytes written behind what has been written. -/
theorem St.more (h : St w wr g o k b off L bs d ne s) (hkg : k ≠ g) (hbg : b ≠ g) {ne' : Nat} (B : List UInt8) (hfit : o + d + B.length ≤ L.length) (hev : ∀ E, Ev E [] (bs.take ne) → Ev (E ++ B) [] (bs.take ne'))
    (hw : ∀ E : List UInt8, E.length = d → Blk wr g (splice L o (bc E)) → Wrote wr w' g (splice (splice L o (bc E)) (o + d) (bc B))) : St w w' g o k b off L bs (d + B.length) ne' s := by
  obtain ⟨E, h1, h2, h3⟩ := h.out
  have hW := hw E h1 h3
  refine ⟨⟨E ++ B, by simp [h1], hev E h2, ?_⟩, h.src.grown hW.2 hbg, h.tbl.grown hW.2 hkg, gb_trans h.gb hW.2⟩
  have := splice_append L o (bc E) (bc B) (by rw [bc_length, bc_length]; omega)
  rw [bc_length, h1] at this
  rw [bc_append, ← this]
  exact hW.1
theorem St.more2 (h : St w wr g o k b off L bs d ne s) {ne' p : Nat} (E B : List UInt8) (hEl : E.length = d) (hkg : k ≠ g) (hbg : b ≠ g) (hp : B.length = p) (hfit : o + d + p ≤ L.length) (hev : Ev (E ++ B) [] (bs.take ne'))
    (hW : Wrote wr w' g (splice (splice L o (bc E)) (o + d) (bc B))) : St w w' g o k b off L bs (d + p) ne' s := by
  subst hp
  refine ⟨⟨E ++ B, by simp [hEl], hev, ?_⟩, h.src.grown hW.2 hbg, h.tbl.grown hW.2 hkg, gb_trans h.gb hW.2⟩
  have := splice_append L o (bc E) (bc B) (by rw [bc_length, bc_length]; omega)
  rw [bc_length, hEl] at this
  rw [bc_append, ← this]
  exact hW.1
theorem St.put2 (h : St w wr g o k b off L bs d ne s) (hkg : k ≠ g) (hkb : k ≠ b) (hkw : w.heap.size ≤ k) (i x : Nat) (v : Int) (hv : v = (x : Int)) {s' : Nat} (hx : x < s') (hs : s ≤ s') : St w (wr.setCell ⟨k, i, none⟩ (.int .u16 v)) g o k b off L bs d ne s' := by
  subst hv
  exact h.put hkg hkb hkw i x hx hs
end

/-- An index into the table. -/
theorem mask_idx (h : Int) (h0 : 0 ≤ h) (h1 : h < 4294967296) : ∃ i : Nat, bits .and .u32 h 16383 = (i : Int) ∧ i < 16384 := by
  refine ⟨(h % 16384).toNat, ?_, by omega⟩
  rw [u32_and16383 h h0 h1]
  omega

end Go.Proofs.YtfnejblenapddaaDoor
