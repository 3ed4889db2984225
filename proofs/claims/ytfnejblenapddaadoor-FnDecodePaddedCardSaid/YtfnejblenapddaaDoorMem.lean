/- Bytes in memory: a block of bytes that may be written, bytes that are read, and what a store or a copy makes of them. -/
import Derived.Test.YtfnejblenapddaaDoorPure2
import Derived.Below
import Derived.Lib.Hide
import Derived.Laws.CopyOwn
import Derived.Laws.MakeOwn
import Derived.Laws.Rows
import Derived.Deep.Draws
namespace Go.Proofs.YtfnejblenapddaaDoor
open Go Go.RowKit

/-- The cells of some bytes. -/
def bc (bs : List UInt8) : List Value := bs.map fun b => .int .u8 (b.toNat : Int)

theorem bc_length (bs : List UInt8) : (bc bs).length = bs.length := by simp [bc]
theorem bc_append (a b : List UInt8) : bc (a ++ b) = bc a ++ bc b := by simp [bc]
theorem bc_one (b : UInt8) : bc [b] = [.int .u8 (b.toNat : Int)] := rfl
theorem bc_oneCell (bs : List UInt8) : ∀ v ∈ bc bs, v.oneCell' = true := by
  intro v hv
  simp only [bc, List.mem_map] at hv
  obtain ⟨b, _, rfl⟩ := hv
  rfl
theorem bc_get (bs : List UInt8) (j : Nat) (h : j < bs.length) : (bc bs)[j]? = some (.int .u8 ((bs[j]).toNat : Int)) := by simp [bc, h]

/-- A block of bytes of the call's own, with what it holds. -/
def Blk (w : World) (g : Nat) (L : List Value) : Prop := w.heap[g]? = some (.cells L.toArray 5 (0, 0))

/-- Bytes lie in a block from a place on. -/
def Bs (w : World) (b off : Nat) (bs : List UInt8) : Prop := ∀ j (h : j < bs.length), w.cell? ⟨b, off + j, none⟩ = some (.int .u8 ((bs[j]).toNat : Int))

section
variable {w w' w2 : World} {g k o i b off : Nat} {L : List Value} {v : Value} {bs : List UInt8}

theorem Blk.cell (h : Blk w g L) (hi : i < L.length) : w.cell? ⟨g, i, none⟩ = some L[i] := by
  unfold Blk at h
  simp [World.cell?, h, hi]
theorem Blk.cell_some (h : Blk w g L) (hi : i < L.length) : ∃ x, w.cell? ⟨g, i, none⟩ = some x := ⟨_, h.cell hi⟩
theorem Blk.free (h : Blk w g L) (i : Nat) : w.frozen? ⟨g, i, none⟩ = false := frozen_of_row w g i L.toArray 5 h
theorem Blk.lt (h : Blk w g L) : g < w.heap.size := by
  unfold Blk at h
  exact (Array.getElem?_eq_some_iff.1 h).1
theorem Blk.set (h : Blk w g L) (i : Nat) (v : Value) : Blk (w.setCell ⟨g, i, none⟩ v) g (L.set i v) := by
  have := heap_setCell_same w g i L.toArray 5 v h
  unfold Blk
  rw [this]
  simp
theorem Blk.of_eq (h : Blk w g L) (e : w'.heap[g]? = w.heap[g]?) : Blk w' g L := e.trans h
theorem Blk.set_other (h : Blk w g L) {a : Addr} (ha : g ≠ a.block) (v : Value) : Blk (w.setCell a v) g L := h.of_eq (heap_setCell_other w a g v ha)
theorem Blk.row (h : Blk w g L) (M : List Value) : Blk (w.setRow g M.toArray) g M := setRow_heap w g L.toArray M.toArray 5 (0, 0) h
theorem Blk.row_other (h : Blk w g L) (hk : g ≠ k) (M : Array Value) : Blk (w.setRow k M) g L := h.of_eq (setRow_other w k g M hk)
theorem Blk.drew (h : Blk w g L) : Blk w.drew g L := h
theorem Blk.drewN (h : Blk w g L) (n : Nat) : Blk (w.drewN n) g L := h
theorem Blk.grown (h : Blk w g L) (hg : w.grownBy w' (some k)) (hk : g ≠ k) : Blk w' g L := h.of_eq (hg.block g h.lt (by simpa using hk))
theorem Blk.grown_none (h : Blk w g L) (hg : w.grownBy w' none) : Blk w' g L := h.of_eq (hg.block g h.lt (by simp))
theorem Blk.below (h : Blk w g L) (hb : Below w.heap.size w w') : Blk w' g L := h.of_eq (hb.block g h.lt)

theorem Bs.lt (h : Bs w b off bs) (h0 : 0 < bs.length) : b < w.heap.size := World.block_lt_of_cell? w _ (h 0 h0)
theorem Bs.of_eq (h : Bs w b off bs) (e : b < w.heap.size → w'.heap[b]? = w.heap[b]?) : Bs w' b off bs := by
  intro j hj
  have hlt := World.block_lt_of_cell? w _ (h j hj)
  rw [World.cell?_of_block (w := w) (e hlt)]
  exact h j hj
theorem Bs.grown (h : Bs w b off bs) (hg : w.grownBy w' (some k)) (hk : b ≠ k) : Bs w' b off bs := h.of_eq fun hlt => hg.block b hlt (by simpa using hk)
theorem Bs.grown_none (h : Bs w b off bs) (hg : w.grownBy w' none) : Bs w' b off bs := h.of_eq fun hlt => hg.block b hlt (by simp)
theorem Bs.below (h : Bs w b off bs) (hb : Below w.heap.size w w') : Bs w' b off bs := h.of_eq fun hlt => hb.block b hlt
theorem Bs.set_other (h : Bs w b off bs) {a : Addr} (ha : b ≠ a.block) (v : Value) : Bs (w.setCell a v) b off bs := h.of_eq fun _ => heap_setCell_other w a b v ha
theorem Bs.row_other (h : Bs w b off bs) (hk : b ≠ k) (M : Array Value) : Bs (w.setRow k M) b off bs := h.of_eq fun _ => setRow_other w k b M hk
theorem Bs.drop (h : Bs w b off bs) (k : Nat) : Bs w b (off + k) (bs.drop k) := by
  intro j hj
  simp at hj
  have := h (k + j) (by omega)
  rw [Nat.add_assoc, this]
  simp
theorem Bs.take (h : Bs w b off bs) (k : Nat) : Bs w b off (bs.take k) := by
  intro j hj
  simp at hj
  have := h j (by omega)
  rw [this]
  simp
/-- The cells, as a copy asks for them. -/
theorem Bs.src (h : Bs w b off bs) : ∀ j v, (bc bs)[j]? = some v → w.cell? ((⟨b, off, none⟩ : Addr).add j) = some v := by
  intro j v hv
  have hj : j < bs.length := by
    have := (List.getElem?_eq_some_iff.1 hv).1
    simpa [bc] using this
  rw [bc_get bs j hj] at hv
  have e : (⟨b, off, none⟩ : Addr).add j = ⟨b, off + j, none⟩ := by unfold Addr.add; split <;> simp_all
  rw [e, h j hj, hv]
theorem Blk.toBs (h : Blk w g L) (o : Nat) (hl : o + bs.length ≤ L.length) (he : (L.drop o).take bs.length = bc bs) : Bs w g o bs := by
  intro j hj
  rw [h.cell (i := o + j) (by omega)]
  have := congrArg (fun l => l[j]?) he
  simp only [List.getElem?_take, if_pos hj, List.getElem?_drop] at this
  rw [bc_get bs j hj, List.getElem?_eq_getElem (by omega)] at this
  exact this

theorem gb_refl (w : World) (row : Option Nat) : w.grownBy w row := ⟨rfl, rfl, rfl, Nat.le_refl _, fun _ _ _ => rfl⟩
theorem gb_trans {row : Option Nat} (h : w.grownBy w' row) (h2 : w'.grownBy w2 row) : w.grownBy w2 row :=
  ⟨h2.os.trans h.os, h2.tape.trans h.tape, h2.output.trans h.output, Nat.le_trans h.size h2.size, fun k hk hn => (h2.block k (Nat.lt_of_lt_of_le hk h.size) hn).trans (h.block k hk hn)⟩
theorem gb_mono {row : Option Nat} (h : w.grownBy w' none) : w.grownBy w' row := ⟨h.os, h.tape, h.output, h.size, fun k hk _ => h.block k hk (by simp)⟩
theorem gb_set (w : World) (g i : Nat) (v : Value) : w.grownBy (w.setCell ⟨g, i, none⟩ v) (some g) :=
  ⟨rfl, rfl, rfl, by simp, fun k _ hn => heap_setCell_other w _ k v (by simpa using hn)⟩
theorem gb_row (w : World) (g : Nat) (M : Array Value) : w.grownBy (w.setRow g M) (some g) :=
  ⟨rfl, rfl, rfl, by simp, fun k _ hn => setRow_other w g k M (by simpa using hn)⟩
theorem gb_drew (w : World) (row : Option Nat) : w.grownBy w.drew row := ⟨rfl, rfl, rfl, Nat.le_refl _, fun _ _ _ => rfl⟩
theorem gb_drewN (w : World) (n : Nat) (row : Option Nat) : w.grownBy (w.drewN n) row := ⟨rfl, rfl, rfl, Nat.le_refl _, fun _ _ _ => rfl⟩
theorem gb_below (h : Below w.heap.size w w') (row : Option Nat) : w.grownBy w' row := ⟨h.os, h.tape, h.output, h.size, fun k hk _ => h.block k hk⟩
theorem below_gb (h : w.grownBy w' none) : Below w.heap.size w w' := ⟨h.os, h.tape, h.output, h.size, fun k hk => h.block k hk (by simp)⟩
/-- What a call of one's own block turned is new to whoever had not that block. -/
theorem below_gb_new {B : Nat} (hB : B ≤ g) (hw : B ≤ w.heap.size) (h : w.grownBy w' (some g)) : Below B w w' :=
  ⟨h.os, h.tape, h.output, h.size, fun k hk => h.block k (by omega) (by simp; omega)⟩
end

section
variable {α : Type}
theorem splice_nil (L : List α) (o : Nat) : splice L o [] = L := by simp [splice]
theorem splice_append (L : List α) (o : Nat) (a b : List α) (h : o + a.length + b.length ≤ L.length) : splice (splice L o a) (o + a.length) b = splice L o (a ++ b) := by
  unfold splice
  have e1 : (L.take o ++ (a ++ L.drop (o + a.length))).take (o + a.length) = L.take o ++ a := by
    rw [← List.append_assoc, List.take_append_of_le_length (by simp; omega), List.take_of_length_le (by simp; omega)]
  have e2 : (L.take o ++ (a ++ L.drop (o + a.length))).drop (o + a.length + b.length) = L.drop (o + (a ++ b).length) := by
    rw [← List.append_assoc, List.drop_append, List.drop_eq_nil_of_le (by simp; omega)]
    simp only [List.nil_append, List.length_append, List.length_take, List.drop_drop]
    congr 1
    omega
  rw [e1, e2]
  simp
theorem set_splice (L : List α) (o : Nat) (v : α) (h : o < L.length) : L.set o v = splice L o [v] := by
  unfold splice
  rw [List.set_eq_take_append_cons_drop, if_pos h]
  simp
theorem splice_set (L : List α) (o : Nat) (a : List α) (v : α) (h : o + a.length < L.length) : (splice L o a).set (o + a.length) v = splice L o (a ++ [v]) := by
  rw [set_splice _ _ _ (by rw [length_splice _ _ _ (by omega)]; omega), splice_append _ _ _ _ (by simp; omega)]
theorem take_splice (L : List α) (o : Nat) (a : List α) (h : o + a.length ≤ L.length) : (splice L o a).take (o + a.length) = L.take o ++ a := by
  unfold splice
  rw [← List.append_assoc, List.take_append_of_le_length (by simp; omega), List.take_of_length_le (by simp; omega)]
end

end Go.Proofs.YtfnejblenapddaaDoor
