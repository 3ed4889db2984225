/- What emitLiteral writes, and what it leaves as it was. -/
import Derived.Test.YtfnejblenapddaaDoorRows
import Derived.Test.YtfnejblenapddaaDoorMem
import Derived.Test.YtfnejblenapddaaDoorBits
import Derived.WalkKit
import Derived.WalkSpells
import Derived.WalkLawsBesides
set_option linter.unusedVariables false
namespace Go.Proofs.YtfnejblenapddaaDoor
open Go Go.RowKit

theorem int_ext {k : IntKind} {a b : Int} (h : a = b) : Value.int k a = Value.int k b := by rw [h]
theorem ret_ext {k : IntKind} {a b : Int} (h : a = b) : Ending.returned (Value.int k a) = Ending.returned (Value.int k b) := by rw [h]
theorem info_size5 : (Tryd.prog.info? 5).map (·.size) = some 1 := by kernel_rfl

theorem run_size5 (w : World) : (sizeOf 5).run Tryd.prog w = .ok 1 w := by
  have h := info_size5
  cases hi : Tryd.prog.info? 5 with
  | none => rw [hi] at h; simp at h
  | some i =>
    rw [hi] at h
    simp at h
    simp [sizeOf, typeInfo, hi, h]
theorem elem22 : Tryd.prog.underlying 22 = some (.slice (Tryd.prog.elem 22)) := by
  have : Tryd.prog.elem 22 = 5 := by simp [Program.elem, Tryd.underlying22]
  rw [this]
  exact Tryd.underlying22
theorem elem22' : Tryd.prog.elem 22 = 5 := by simp [Program.elem, Tryd.underlying22]
theorem addr_add (g o l : Nat) : (⟨g, o, none⟩ : Addr).add l = ⟨g, o + l, none⟩ := by unfold Addr.add; split <;> simp_all
/-- A slice from a place on. -/
theorem slice_from (g o n c l : Nat) (h : l ≤ n) (hc : l ≠ c) : ∀ W, (Instr.slice 22 (.slice (some ⟨g, o, none⟩) n c) (some (.int .i64 (l : Int))) none none).run Tryd.prog W = .ok (.slice (some ⟨g, o + l, none⟩) (n - l) (c - l)) W := by
  intro W
  rw [run_slice_l (P := Tryd.prog) W 22 _ n c elem22 .i64 _ (by omega) (by omega), elem22', run_size5]
  simp [sliced, addr_add, Ne.symm hc]
/-- A slice between two places. -/
theorem slice_mid (g o n c l u : Nat) (h : l ≤ u) (hu : u ≤ c) (hc : l ≠ c) : ∀ W, (Instr.slice 22 (.slice (some ⟨g, o, none⟩) n c) (some (.int .i64 (l : Int))) (some (.int .i64 (u : Int))) none).run Tryd.prog W = .ok (.slice (some ⟨g, o + l, none⟩) (u - l) (c - l)) W := by
  intro W
  rw [run_slice_lh (P := Tryd.prog) W 22 _ n c elem22 .i64 .i64 _ _ (by omega) (by omega) (by omega), elem22', run_size5]
  simp [sliced, addr_add, Ne.symm hc]

/-- What a writer of bytes says: the block, and all else. -/
def Wrote (w w' : World) (g : Nat) (L : List Value) : Prop := Blk w' g L ∧ w.grownBy w' (some g)

theorem run_copy_blk {w : World} {g o dl dc b off sl sc : Nat} {L : List Value} {bs : List UInt8} (hB : Blk w g L) (hs : Bs w b off bs) (hn : bs.length = min sl dl) (hfit : o + bs.length ≤ L.length) :
    ∃ w2, (Builtin.copy_ #[22, 22] 3 #[.slice (some ⟨g, o, none⟩) dl dc, .slice (some ⟨b, off, none⟩) sl sc]).run Tryd.prog w = .ok (.int .i64 (bs.length : Int)) w2 ∧ Blk w2 g (splice L o (bc bs)) ∧ w.grownBy w2 (some g) := by
  have h := run_copy_row (P := Tryd.prog) w 22 22 3 5 g o dl dc ⟨b, off, none⟩ sl sc L.toArray 5 (bc bs) Tryd.underlying22 info_size5 hB (by rw [bc_length]; exact hn) hs.src (by rw [bc_length]; simpa using hfit) (bc_oneCell bs)
  rw [bc_length] at h
  refine ⟨_, h, ?_, gb_row _ _ _⟩
  have := hB.row (splice L o (bc bs))
  simpa [splice, bc_length] using this

set_option maxHeartbeats 400000 in
theorem emitLiteral_0 (g o n c b off lc : Nat) (L : List Value) (bs : List UInt8) (w : World) (hB : Blk w g L) (hfit : o + n ≤ L.length) (h1 : 1 ≤ bs.length) (h2 : bs.length ≤ 60)
    (hroom : bs.length + 1 ≤ n) (hnc : n ≤ c) (hc : c ≤ 9223372036854775807) (hb : Bs w b off bs) (hbg : b ≠ g) :
    Calls Tryd.prog 42 #[.slice (some ⟨g, o, none⟩) n c, .slice (some ⟨b, off, none⟩) bs.length lc] w
      fun e w' => e = .returned (.int .i64 ((bs.length + 1 : Nat) : Int)) ∧ Wrote w w' g (splice L o (bc (litH bs.length ++ bs))) := by
  have hv : bits .or .u8 (((bs.length : Int) - 1) * 4) 0 = ((bs.length : Int) - 1) * 4 := u8_or0 _ (by omega) (by omega)
  obtain ⟨x0, h0⟩ := hB.cell_some (i := o) (by omega)
  have hf := hB.free o
  obtain ⟨w2, hrun, hB2, hg2⟩ := run_copy_blk (dl := n - 1) (dc := c - 1) (sl := bs.length) (sc := lc) (o := o + 1) (hB.set o (.int .u8 (((bs.length : Int) - 1) * 4))) (hb.set_other (a := ⟨g, o, none⟩) hbg (.int .u8 (((bs.length : Int) - 1) * 4))) (by omega) (by simp; omega)
  have hend : splice (L.set o (.int .u8 (((bs.length : Int) - 1) * 4))) (o + 1) (bc bs) = splice L o (bc (litH bs.length ++ bs)) := by
    have hH : litH bs.length = [UInt8.ofNat ((bs.length - 1) * 4)] := by unfold litH; rw [if_pos h2]
    rw [set_splice _ _ _ (by omega)]
    have := splice_append L o [Value.int .u8 (((bs.length : Int) - 1) * 4)] (bc bs) (by rw [bc_length]; simp; omega)
    simp only [List.length_singleton] at this
    rw [this, hH, bc_append, bc_one, toNat_ofNat _ (by omega)]
    rw [show (((bs.length - 1) * 4 : Nat) : Int) = ((bs.length : Int) - 1) * 4 from by omega]
  rw [hend] at hB2
  have HW : Wrote w w2 g (splice L o (bc (litH bs.length ++ bs))) := ⟨hB2, gb_trans (gb_set _ _ _ _) hg2⟩
  clear hend hB2 hg2 hb hB
  go_enter Tryd.func42, Tryd.ntmps42
  go_wp2
  go_ret
  exact ⟨ret_ext (by omega), HW⟩

set_option maxHeartbeats 400000 in
theorem emitLiteral_1 (g o n c b off lc : Nat) (L : List Value) (bs : List UInt8) (w : World) (hB : Blk w g L) (hfit : o + n ≤ L.length) (h1 : 61 ≤ bs.length) (h2 : bs.length ≤ 256)
    (hroom : bs.length + 2 ≤ n) (hnc : n ≤ c) (hc : c ≤ 9223372036854775807) (hb : Bs w b off bs) (hbg : b ≠ g) :
    Calls Tryd.prog 42 #[.slice (some ⟨g, o, none⟩) n c, .slice (some ⟨b, off, none⟩) bs.length lc] w
      fun e w' => e = .returned (.int .i64 ((bs.length + 2 : Nat) : Int)) ∧ Wrote w w' g (splice L o (bc (litH bs.length ++ bs))) := by
  obtain ⟨x0, h0⟩ := hB.cell_some (i := o) (by omega)
  obtain ⟨x1, h01⟩ := hB.cell_some (i := o + 1) (by omega)
  have hf := hB.free o
  have hf1 := hB.free (o + 1)
  obtain ⟨w2, hrun, hB2, hg2⟩ := run_copy_blk (dl := n - 2) (dc := c - 2) (sl := bs.length) (sc := lc) (o := o + 2)
    ((hB.set o (.int .u8 240)).set (o + 1) (.int .u8 ((bs.length : Int) - 1))) ((hb.set_other (a := ⟨g, o, none⟩) hbg (.int .u8 240)).set_other (a := ⟨g, o + 1, none⟩) hbg (.int .u8 ((bs.length : Int) - 1))) (by omega) (by simp; omega)
  have hend : splice ((L.set o (.int .u8 240)).set (o + 1) (.int .u8 ((bs.length : Int) - 1))) (o + 2) (bc bs) = splice L o (bc (litH bs.length ++ bs)) := by
    have hH : bc (litH bs.length) = [.int .u8 240] ++ [.int .u8 ((bs.length : Int) - 1)] := by
      unfold litH
      rw [if_neg (by omega), if_pos h2]
      simp only [leB, bc, List.map_cons, List.map_nil]
      rw [toNat_ofNat _ (by omega), toNat_ofNat _ (by omega)]
      rw [show (((bs.length - 1) % 256 : Nat) : Int) = (bs.length : Int) - 1 from by omega]
      rfl
    rw [set_splice L _ _ (by omega)]
    have e1 := splice_set L o [Value.int .u8 240] (.int .u8 ((bs.length : Int) - 1)) (by simp; omega)
    simp only [List.length_singleton] at e1
    rw [e1, ← hH]
    have hHl : (bc (litH bs.length)).length = 2 := by rw [hH]; rfl
    have := splice_append L o (bc (litH bs.length)) (bc bs) (by rw [bc_length bs, hHl]; omega)
    rw [hHl] at this
    rw [this, bc_append]
  rw [hend] at hB2
  have HW : Wrote w w2 g (splice L o (bc (litH bs.length ++ bs))) := ⟨hB2, gb_trans (gb_trans (gb_set _ _ _ _) (gb_set _ _ _ _)) hg2⟩
  clear hend hB2 hg2 hb hB
  go_enter Tryd.func42, Tryd.ntmps42
  go_wp2
  go_ret
  exact ⟨ret_ext (by omega), HW⟩

set_option maxHeartbeats 400000 in
theorem emitLiteral_2 (g o n c b off lc : Nat) (L : List Value) (bs : List UInt8) (w : World) (hB : Blk w g L) (hfit : o + n ≤ L.length) (h1 : 257 ≤ bs.length) (h2 : bs.length ≤ 65536)
    (hroom : bs.length + 3 ≤ n) (hnc : n ≤ c) (hc : c ≤ 9223372036854775807) (hb : Bs w b off bs) (hbg : b ≠ g) :
    Calls Tryd.prog 42 #[.slice (some ⟨g, o, none⟩) n c, .slice (some ⟨b, off, none⟩) bs.length lc] w
      fun e w' => e = .returned (.int .i64 ((bs.length + 3 : Nat) : Int)) ∧ Wrote w w' g (splice L o (bc (litH bs.length ++ bs))) := by
  obtain ⟨x0, h0⟩ := hB.cell_some (i := o) (by omega)
  obtain ⟨x1, h01⟩ := hB.cell_some (i := o + 1) (by omega)
  obtain ⟨x2, h02⟩ := hB.cell_some (i := o + 2) (by omega)
  have hf := hB.free o
  have hf1 := hB.free (o + 1)
  have hf2 := hB.free (o + 2)
  obtain ⟨w2, hrun, hB2, hg2⟩ := run_copy_blk (dl := n - 3) (dc := c - 3) (sl := bs.length) (sc := lc) (o := o + 3)
    (((hB.set o (.int .u8 244)).set (o + 1) (.int .u8 (((bs.length : Int) - 1) % 256))).set (o + 2) (.int .u8 (((bs.length : Int) - 1) / 256)))
    (((hb.set_other (a := ⟨g, o, none⟩) hbg (.int .u8 244)).set_other (a := ⟨g, o + 1, none⟩) hbg (.int .u8 (((bs.length : Int) - 1) % 256))).set_other (a := ⟨g, o + 2, none⟩) hbg (.int .u8 (((bs.length : Int) - 1) / 256))) (by omega) (by simp; omega)
  have hend : splice (((L.set o (.int .u8 244)).set (o + 1) (.int .u8 (((bs.length : Int) - 1) % 256))).set (o + 2) (.int .u8 (((bs.length : Int) - 1) / 256))) (o + 3) (bc bs) = splice L o (bc (litH bs.length ++ bs)) := by
    have hH : bc (litH bs.length) = ([.int .u8 244] ++ [.int .u8 (((bs.length : Int) - 1) % 256)]) ++ [.int .u8 (((bs.length : Int) - 1) / 256)] := by
      unfold litH
      rw [if_neg (by omega), if_neg (by omega)]
      simp only [leB, bc, List.map_cons, List.map_nil]
      rw [toNat_ofNat _ (by omega), toNat_ofNat _ (by omega), toNat_ofNat _ (by omega)]
      rw [show (((bs.length - 1) % 256 : Nat) : Int) = ((bs.length : Int) - 1) % 256 from by omega, show (((bs.length - 1) / 256 % 256 : Nat) : Int) = ((bs.length : Int) - 1) / 256 from by omega]
      rfl
    rw [set_splice L _ _ (by omega)]
    have e1 := splice_set L o [Value.int .u8 244] (.int .u8 (((bs.length : Int) - 1) % 256)) (by simp; omega)
    simp only [List.length_singleton] at e1
    have e2 := splice_set L o ([Value.int .u8 244] ++ [.int .u8 (((bs.length : Int) - 1) % 256)]) (.int .u8 (((bs.length : Int) - 1) / 256)) (by simp; omega)
    simp only [List.length_append, List.length_singleton, Nat.reduceAdd] at e2
    rw [e1, e2, ← hH]
    have hHl : (bc (litH bs.length)).length = 3 := by rw [hH]; rfl
    have := splice_append L o (bc (litH bs.length)) (bc bs) (by rw [bc_length bs, hHl]; omega)
    rw [hHl] at this
    rw [this, bc_append]
  rw [hend] at hB2
  have HW : Wrote w w2 g (splice L o (bc (litH bs.length ++ bs))) := ⟨hB2, gb_trans (gb_trans (gb_trans (gb_set _ _ _ _) (gb_set _ _ _ _)) (gb_set _ _ _ _)) hg2⟩
  clear hend hB2 hg2 hb hB
  go_enter Tryd.func42, Tryd.ntmps42
  go_wp2
  go_ret
  exact ⟨ret_ext (by omega), HW⟩

/-- emitLiteral, whatever the text's length. -/
theorem emitLiteral_any (g o n c b off lc m : Nat) (L : List Value) (bs : List UInt8) (w : World) (hm : bs.length = m) (hB : Blk w g L) (hfit : o + n ≤ L.length) (h1 : 1 ≤ m) (h2 : m ≤ 65536)
    (hroom : m + litL m ≤ n) (hnc : n ≤ c) (hc : c ≤ 9223372036854775807) (hb : Bs w b off bs) (hbg : b ≠ g) :
    Calls Tryd.prog 42 #[.slice (some ⟨g, o, none⟩) n c, .slice (some ⟨b, off, none⟩) m lc] w
      fun e w' => e = .returned (.int .i64 ((m + litL m : Nat) : Int)) ∧ Wrote w w' g (splice L o (bc (litH m ++ bs))) := by
  subst hm
  unfold litL at hroom ⊢
  split at hroom
  · rw [if_pos ‹_›]
    exact emitLiteral_0 g o n c b off lc L bs w hB hfit h1 ‹_› hroom hnc hc hb hbg
  rw [if_neg ‹_›]
  split at hroom
  · rw [if_pos ‹_›]
    exact emitLiteral_1 g o n c b off lc L bs w hB hfit (by omega) ‹_› hroom hnc hc hb hbg
  · rw [if_neg ‹_›]
    exact emitLiteral_2 g o n c b off lc L bs w hB hfit (by omega) h2 hroom hnc hc hb hbg

end Go.Proofs.YtfnejblenapddaaDoor
