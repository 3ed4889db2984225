/- The description's Padded. -/
import Derived.Test.YtfnejblenapddaaDoorSpC2
set_option linter.unusedVariables false
namespace Go.Proofs.YtfnejblenapddaaDoor
open Go Go.RowKit

theorem own_set {B : Nat} {w : World} {g n c : Nat} {bs : List UInt8} (h : Own B w (.slice (some ⟨g, 0, none⟩) n c) bs) (i : Nat) (b : UInt8) (hi : i < bs.length) :
    Own B (w.setCell ⟨g, i, none⟩ (.int .u8 ((b.toNat : Nat) : Int))) (.slice (some ⟨g, 0, none⟩) n c) (bs.set i b) ∧ Below B w (w.setCell ⟨g, i, none⟩ (.int .u8 ((b.toNat : Nat) : Int))) := by
  obtain ⟨h1, h2⟩ := h
  rcases h2 with ⟨he, h0⟩ | ⟨g', cap, cur, he, hb, hg, hn, hc, hs, ht⟩
  · exact absurd hi (by omega)
  · simp only [Value.slice.injEq, Option.some.injEq, Addr.mk.injEq] at he
    obtain ⟨⟨rfl, -⟩, rfl, rfl⟩ := he
    refine ⟨⟨by rw [bc_length, List.length_set, Nat.mul_one], .inr ⟨g, c, _, by rw [List.length_set], hb, heap_setCell_same w g i cur 5 _ hg, by rw [List.length_set]; exact hn, hc, by rw [Array.size_setIfInBounds]; exact hs, ?_⟩⟩, (Below.refl B w).setCell (p := ⟨g, i, none⟩) hb _⟩
    rw [Array.toList_setIfInBounds, List.length_set]
    rw [List.take_set, ht]
    simp [bc, List.map_set]

theorem v7_rep (j : Nat) : v7 (List.replicate j 128 ++ [0]) = 0 := by
  induction j with
  | zero => rfl
  | succ j ih => rw [List.replicate_succ, List.cons_append, v7, ih]; rfl

/-- A length with needless bytes behind. -/
theorem hdr_pad (p : List UInt8) (l : UInt8) (x j : Nat) (h : Hdr (p ++ [l]) x) (b : UInt8) (hb : b.toNat = l.toNat + 128) : Hdr (p ++ [b] ++ List.replicate j 128 ++ [0]) x := by
  have hlast : l.toNat < 128 := by
    have := h.last
    rw [List.length_append, List.length_singleton, Nat.add_sub_cancel] at this
    simpa [bt, List.getD_eq_getElem?_getD] using this
  refine ⟨by simp; omega, fun i hi => ?_, ?_, ?_⟩
  · rw [List.length_append, List.length_singleton] at hi
    rw [bt_append _ _ _ (by omega)]
    by_cases h1 : i < p.length
    · rw [List.append_assoc, bt_append _ _ _ h1]
      have := h.pre i (by rw [List.length_append, List.length_singleton]; omega)
      rw [bt_append _ _ _ h1] at this
      exact this
    · by_cases h2 : i = p.length
      · subst h2
        rw [bt_append _ _ _ (by simp)]
        simp [bt, List.getD_eq_getElem?_getD, hb]
      · rw [List.length_append, List.length_append, List.length_singleton, List.length_replicate] at hi
        have hx : (p ++ [b] ++ List.replicate j 128)[i]? = some 128 := by
          rw [List.getElem?_append_right (by rw [List.length_append, List.length_singleton]; omega), List.getElem?_replicate, if_pos (by rw [List.length_append, List.length_singleton]; omega)]
        unfold bt
        rw [List.getD_eq_getElem?_getD, hx]
        decide
  · rw [List.length_append, List.length_singleton, Nat.add_sub_cancel]
    simp [bt, List.getD_eq_getElem?_getD]
  · rw [← h.val, List.append_assoc, v7_append (p ++ [b]), v7_rep, Nat.mul_zero, Nat.add_zero, v7_append p [b], v7_append p [l]]
    congr 2
    simp only [v7]
    omega

/-- Within the needless bytes. -/
def PadInv (w : World) (q : List UInt8) (m0 : Nat) (v1 v5 : Value) (wr : World) : Prop :=
  ∃ m j : Nat, v1 = .int .i64 (m : Int) ∧ 1 ≤ m ∧ m + j = m0 ∧ Own w.heap.size wr v5 (q ++ List.replicate j 128) ∧ Below w.heap.size w wr

set_option maxRecDepth 10000 in
set_option maxHeartbeats 3200000 in
theorem padded_any (x more : Nat) (w : World) (hx : x ≤ 1000000) (h1 : 1 ≤ more) (h4 : more ≤ 4) :
    Calls Tryd.prog 11 #[.int .i64 (x : Int), .int .i64 (more : Int)] w (Spelled (fun h => Hdr h x ∧ h.length ≤ 9) w) := by
  have hva := varint_any x w (by omega)
  have hul : (Lib.uvarint x).length ≤ 3 := Lib.uvarint_length 2 x (by omega)
  have hup := Lib.uvarint_pos x
  obtain ⟨p, l, hpl⟩ : ∃ p l, Lib.uvarint x = p ++ [l] := ⟨(Lib.uvarint x).dropLast, (Lib.uvarint x).getLast (by intro h; rw [h] at hup; simp at hup), (List.dropLast_concat_getLast _).symm⟩
  have hh := hdr_uvarint x
  rw [hpl] at hva hul hh
  rw [List.length_append, List.length_singleton] at hul
  have hll : l.toNat < 128 := by
    have := hh.last
    rw [List.length_append, List.length_singleton, Nat.add_sub_cancel] at this
    simpa [bt, List.getD_eq_getElem?_getD] using this
  have Hva := Lib.hid hva
  have Hh := Lib.hid hh
  clear hva hh hpl hup
  go_enter Tryd.func11, Tryd.ntmps11
  go_wp2_with fail
  refine (Hva.out).mono ?_
  rintro e w1 ⟨v1, rfl, hown, hb1⟩
  obtain ⟨A, c, b, rfl, o2, o3, o4, o5, o6⟩ := hown.open
  obtain ⟨L, hL⟩ : ∃ L, p.length = L := ⟨_, rfl⟩
  have hlen : (p ++ [l]).length = L + 1 := by rw [List.length_append, List.length_singleton, hL]
  rw [hlen] at o2 o4 o6 hown ⊢
  obtain rfl := o4 (by omega)
  have hc : w1.cell? ⟨b, L, none⟩ = some (.int .u8 ((l.toNat : Nat) : Int)) := by
    have := o5 L (by rw [hlen]; omega)
    rw [Nat.zero_add] at this
    rw [this]
    simp [← hL]
  obtain ⟨nb, hnb⟩ : ∃ nb : UInt8, nb.toNat = l.toNat + 128 := ⟨UInt8.ofNat (l.toNat + 128), toNat_ofNat _ (by omega)⟩
  have hor : bits .or .u8 ((l.toNat : Nat) : Int) 128 = ((nb.toNat : Nat) : Int) := by rw [Lib.u8_or128_any _ (by omega) (by omega), hnb]; omega
  have hfr : w1.frozen? ⟨b, L, none⟩ = false := by
    obtain ⟨-, h2⟩ := hown
    rcases h2 with ⟨he, h0⟩ | ⟨g', cap, cur, he, hb, hg, hrest⟩
    · cases he
    · simp only [Value.slice.injEq, Option.some.injEq, Addr.mk.injEq] at he
      obtain ⟨⟨rfl, -⟩, -⟩ := he
      exact frozen_of_row _ _ _ _ _ hg
  obtain ⟨ho2, hb2⟩ := own_set hown L nb (by rw [hlen]; omega)
  have hset : (p ++ [l]).set L nb = p ++ [nb] := by rw [← hL]; simp
  rw [hset] at ho2
  have hidx : ((L + 1 : Nat) : Int) - 1 = (L : Int) := by omega
  have HO2 := Lib.hid ho2
  have HB2 := Lib.hid (hb1.trans hb2)
  have Hnb := Lib.hid hnb
  have HL := Lib.hid hL
  have hL3 : L ≤ 2 := by omega
  generalize ((l.toNat : Nat) : Int) = lz at *
  generalize ((nb.toNat : Nat) : Int) = nz at *
  clear ho2 hb2 hb1 hown o2 o5 o6 hset hnb hlen hL Hva
  go_wp2_with fail
  go_loopw [1, 5] (PadInv w (p ++ [nb]) more) (fun v1 _ _ => (intOf v1).toNat)
  case atStart => exact ⟨more, 0, rfl, h1, by omega, by rw [List.replicate_zero, List.append_nil]; exact HO2.out, HB2.out⟩
  case round =>
    obtain ⟨m, j, rfl, hm1, hmj, hown, hbel⟩ := hrel
    have hql : ((p ++ [nb]) ++ List.replicate j 128 : List UInt8).length + 1 ≤ 1099511627776 := by simp only [List.length_append, List.length_singleton, List.length_replicate, HL.out]; omega
    by_cases hm : 1 < m
    · have c1 : ((1 : Int) < (m : Int)) = True := by simp; omega
      have hbl := (Below.refl wr.heap.size wr).alloc (Nat.le_refl _) (.cells #[.int .u8 128] 5)
      have HO3 := Lib.hid (hown.below hbl)
      have Hnew := Lib.hid (bs_one wr 128 128 (by decide))
      have HB3 := Lib.hid (hbel.trans (hbl.mono hbel.size))
      have hsz : w.heap.size ≤ (wr.alloc (.cells #[.int .u8 128] 5)).heap.size := HB3.out.size
      clear hbl hown hbel
      go_wp2_with (at_builtin; go_loud (refine wpList_app rfl (.tmp 20) (.tmp 21) rfl w.heap.size _ ((p ++ [nb]) ++ List.replicate j 128) rfl HO3.out wr.heap.size 0 1 1 [128] rfl rfl Hnew.out hql hsz ?_); intro v' w' hown' hb'; have HO := Lib.hid hown'; have HB' := Lib.hid hb'; clear hown' hb')
      go_roundw
      case rel =>
        refine ⟨m - 1, j + 1, int_ext (by omega), by omega, by omega, ?_, HB3.out.trans HB'.out⟩
        have := HO.out
        rw [List.append_assoc, ← List.replicate_succ'] at this
        exact this
      case measure => simp only [intOf]; omega
    · have c1 : ((1 : Int) < (m : Int)) = False := by simp; omega
      have hbl := (Below.refl wr.heap.size wr).alloc (Nat.le_refl _) (.cells #[.int .u8 0] 5)
      have HO3 := Lib.hid (hown.below hbl)
      have Hnew := Lib.hid (bs_one wr 0 0 (by decide))
      have HB3 := Lib.hid (hbel.trans (hbl.mono hbel.size))
      have hsz : w.heap.size ≤ (wr.alloc (.cells #[.int .u8 0] 5)).heap.size := HB3.out.size
      clear hbl hown hbel
      go_wp2_with (at_builtin; go_loud (refine wpList_app rfl (.tmp 23) (.tmp 24) rfl w.heap.size _ ((p ++ [nb]) ++ List.replicate j 128) rfl HO3.out wr.heap.size 0 1 1 [0] rfl rfl Hnew.out hql hsz ?_); intro v' w' hown' hb'; have HO := Lib.hid hown'; have HB' := Lib.hid hb'; clear hown' hb')
      go_ret
      exact ⟨_, _, rfl, HO.out, ⟨hdr_pad p l x j Hh.out nb Hnb.out, by simp only [List.length_append, List.length_singleton, List.length_replicate, HL.out]; omega⟩, HB3.out.trans HB'.out⟩
end Go.Proofs.YtfnejblenapddaaDoor
