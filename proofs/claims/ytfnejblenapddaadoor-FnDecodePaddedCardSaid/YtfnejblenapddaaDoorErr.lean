/- Errors: faultOf, told; the length at the front: decodedLen. -/
import Derived.Test.YtfnejblenapddaaDoorImp
set_option linter.unusedVariables false
namespace Go.Proofs.YtfnejblenapddaaDoor
open Go Go.RowKit

/-- Where ErrCorrupt is. -/
def Er (a : Addr) (w : World) : Prop := w.cell? ⟨1, 0, none⟩ = some (.iface 79 (.pointer (some a)))
theorem Er.below {a : Addr} {w w' : World} (h : Er a w) (hb : Below w.heap.size w w') : Er a w' := by
  unfold Er
  rw [hb.cell (p := ⟨1, 0, none⟩) (World.block_lt_of_cell? w _ h)]
  exact h
/-- A slice of the call's own that reads as these bytes. -/
def Fresh (base : Nat) (w : World) (v : Value) (bs : List UInt8) : Prop :=
  ∃ A c b, v = .slice A bs.length c ∧ bs.length ≤ c ∧ c ≤ 9223372036854775807 ∧ (0 < bs.length → A = some ⟨b, 0, none⟩) ∧ Bs w b 0 bs ∧ (0 < bs.length → base ≤ b)
theorem Bs.nil {w : World} {b off : Nat} {bs : List UInt8} (h : bs.length = 0) : Bs w b off bs := fun j hj => absurd hj (by omega)
theorem size29 : (Tryd.prog.info? 29).map (·.size) = some 2 := by kernel_rfl
theorem comp79 : (Tryd.prog.info? 79).map (·.comparable) = some true := by kernel_rfl
theorem eql_er (a : Addr) : ∀ W, (binOp .eql 47 (.iface 79 (.pointer (some a))) (.iface 79 (.pointer (some a)))).run Tryd.prog W = .ok (.bool true) W := by
  intro W
  obtain ⟨i, hi, hcmp⟩ := Option.map_eq_some_iff.1 comp79
  have h96 : (Tryd.prog.info? 96).isSome = true := by kernel_rfl
  obtain ⟨j, hj⟩ := Option.isSome_iff_exists.1 h96
  exact run_eql_iface_ptr_same W a Tryd.underlying47 Tryd.underlying79 hi hcmp hj

set_option maxHeartbeats 800000 in
theorem faultOf_err (a : Addr) (w : World) (hE : Er a w) : Calls Tryd.prog 35 #[.iface 79 (.pointer (some a))] w fun e w' => e = .returned (.int .i64 1) ∧ w' = w := by
  have h1 : w.cell? ⟨1, 0, none⟩ = some (.iface 79 (.pointer (some a))) := hE
  have heq := eql_er a
  clear hE
  go_enter Tryd.func35, Tryd.ntmps35
  go_wp2_with fail
  go_ret
  exact ⟨rfl, rfl⟩

set_option maxHeartbeats 800000 in
theorem told_err (a : Addr) (w : World) (hE : Er a w) : Calls Tryd.prog 25 #[.slice none 0 0, .iface 79 (.pointer (some a))] w fun e w' => e = .returned (.agg #[.slice none 0 0, .int .i64 1]) ∧ Below w.heap.size w w' := by
  have hb0 := (Below.refl w.heap.size w).alloc (Nat.le_refl _) (.cells #[.slice none 0 0, .int .i64 0] 29)
  have hf := faultOf_err a (w.alloc (.cells #[.slice none 0 0, .int .i64 0] 29)) (hE.below hb0)
  have Hf := Lib.hid hf
  clear hf hE
  go_enter Tryd.func25, Tryd.ntmps25
  go_wp2_with fail
  refine (Hf.out).mono ?_
  rintro e w' ⟨rfl, rfl⟩
  go_wp2_with fail
  refine bodyPost_ret (results_cell_row rfl _ _ w.heap.size 29 #[.slice none 0 0, .int .i64 1] (0, 0) _ rfl (heap_alloc_new _ _) Tryd.underlying29 rfl size29) rfl ?_
  exact ⟨rfl, (Below.refl w.heap.size w).alloc (Nat.le_refl _) _⟩

set_option maxHeartbeats 800000 in
theorem told_ok (v : Value) (bs : List UInt8) (w : World) (hR : Rd w v bs) (hl : bs.length ≤ 1099511627776) : Calls Tryd.prog 25 #[v, .nilIface] w fun e w' => ∃ v', e = .returned (.agg #[v', .int .i64 0]) ∧ Rd w' v' bs ∧ Fresh w.heap.size w' v' bs ∧ Below w.heap.size w w' := by
  have hb0 := (Below.refl w.heap.size w).alloc (Nat.le_refl _) (.cells #[.slice none 0 0, .int .i64 0] 29)
  have hc := clone_any v bs (w.alloc (.cells #[.slice none 0 0, .int .i64 0] 29)) (hR.below hb0) hl
  have Hc := Lib.hid hc
  clear hc hR
  go_enter Tryd.func25, Tryd.ntmps25
  go_wp2_with fail
  refine (Hc.out).mono ?_
  rintro e w' ⟨v', rfl, hown, hb⟩
  obtain ⟨A, c, b, rfl, -⟩ := hown.open
  have Hown := Lib.hid hown
  have Hb := Lib.hid hb
  have hblk : w'.heap[w.heap.size]? = some (.cells #[.slice none 0 0, .int .i64 0] 29 (0, 0)) := by
    rw [hb.block w.heap.size (by simp), heap_alloc_new]
  have hc0 : w'.cell? ⟨w.heap.size, 0, none⟩ = some (.slice none 0 0) := cell_of_row _ _ 0 _ _ _ hblk
  have hc1 : w'.cell? ⟨w.heap.size, 1, none⟩ = some (.int .i64 0) := cell_of_row _ _ 1 _ _ _ hblk
  have hf0 := frozen_of_row _ _ 0 _ _ hblk
  have hf1 := frozen_of_row _ _ 1 _ _ hblk
  have Hblk := Lib.hid hblk
  clear hown hb Hc hblk
  go_wp2_with fail
  have h1 := heap_setCell_same w' w.heap.size 0 _ 29 (.slice A bs.length c) Hblk.out
  have h2 := heap_setCell_same _ w.heap.size 1 _ 29 (.int .i64 0) h1
  refine bodyPost_ret (results_cell_row rfl _ _ w.heap.size 29 #[.slice A bs.length c, .int .i64 0] (0, 0) _ rfl h2 Tryd.underlying29 rfl size29) rfl ?_
  have hB1 : Below w.heap.size w w' := hb0.trans (Hb.out.mono (by simp))
  refine ⟨_, rfl, ?_, ?_, ?_⟩
  · obtain ⟨A2, c2, b2, he, p2, p3, p4, p5, p6⟩ := Hown.out.open
    simp only [Value.slice.injEq, true_and] at he
    obtain ⟨rfl, rfl⟩ := he
    refine ⟨A, c, rfl, p2, p3, fun h => ?_, fun h => ⟨b2, 0, p4 h, ?_⟩⟩
    · rcases Nat.eq_zero_or_pos bs.length with h0 | h0
      · exact List.eq_nil_of_length_eq_zero h0
      · exact absurd (h.symm.trans (p4 h0)) (by simp)
    · have := p6 h
      have hne : b2 ≠ w.heap.size := by simp at this; omega
      exact (p5.set_other (a := ⟨w.heap.size, 0, none⟩) hne _).set_other (a := ⟨w.heap.size, 1, none⟩) hne _
  · obtain ⟨A2, c2, b2, he, p2, p3, p4, p5, p6⟩ := Hown.out.open
    simp only [Value.slice.injEq, true_and] at he
    obtain ⟨rfl, rfl⟩ := he
    refine ⟨A, c, b2, rfl, p2, p3, p4, ?_, fun h => by have := p6 h; simp at this; omega⟩
    rcases Nat.eq_zero_or_pos bs.length with h0 | h0
    · exact Bs.nil h0
    · have := p6 h0
      have hne : b2 ≠ w.heap.size := by simp at this; omega
      exact (p5.set_other (a := ⟨w.heap.size, 0, none⟩) hne _).set_other (a := ⟨w.heap.size, 1, none⟩) hne _
  · exact (hB1.setCell (p := ⟨w.heap.size, 0, none⟩) (Nat.le_refl _) _).setCell (p := ⟨w.heap.size, 1, none⟩) (Nat.le_refl _) _

set_option maxHeartbeats 800000 in
theorem decodedLen_any (A : Option Addr) (c n j : Nat) (bs : List UInt8) (w : World) (hl : bs.length = n) (h1 : Rd w (.slice A n c) bs) (hn : n ≤ 1099511627776)
    (hj : j < n) (hj9 : j ≤ 8) (hpre : ∀ i, i < j → 128 ≤ bt bs i) (hlast : bt bs j < 128) (hv : v7 (bs.take (j + 1)) ≤ 4294967295) :
    Calls Tryd.prog 37 #[.slice A n c] w fun e w' => Drew w w' ∧ e = .returned (.tuple #[.int .i64 ((v7 (bs.take (j+1)) : Nat) : Int), .int .i64 ((j + 1 : Nat) : Int), .nilIface]) := by
  have hu := uvarint_any A c n j bs w hl h1 hn (by omega) (by omega) hpre (fun _ => ⟨hj9, hlast⟩)
  rw [if_pos hj] at hu
  have Hu := Lib.hid hu
  generalize v7 (bs.take (j + 1)) = x at Hu hv ⊢
  clear hu hpre hlast h1 hl
  go_enter Tryd.func37, Tryd.ntmps37
  go_wp2_with fail
  refine (Hu.out).mono ?_
  rintro e w1 ⟨hd, rfl⟩
  have Hd := Lib.hid hd
  clear Hu hd
  go_wp2_with fail
  go_ret3
  exact ⟨Hd.out, rfl⟩

set_option maxHeartbeats 800000 in
theorem decodedLen_short (A : Option Addr) (c n : Nat) (bs : List UInt8) (w : World) (hl : bs.length = n) (h1 : Rd w (.slice A n c) bs) (hn : n ≤ 9)
    (hpre : ∀ i, i < n → 128 ≤ bt bs i) (a1 : Addr) (hE : Er a1 w) :
    Calls Tryd.prog 37 #[.slice A n c] w fun e w' => Drew w w' ∧ e = .returned (.tuple #[.int .i64 0, .int .i64 0, .iface 79 (.pointer (some a1))]) := by
  have hu := uvarint_any A c n n bs w hl h1 (by omega) (by omega) (by omega) hpre (fun h => absurd h (by omega))
  rw [if_neg (by omega)] at hu
  have Hu := Lib.hid hu
  have Ha := Lib.hid hE
  clear hu hpre h1 hl hE
  go_enter Tryd.func37, Tryd.ntmps37
  go_wp2_with fail
  refine (Hu.out).mono ?_
  rintro e w1 ⟨hd, rfl⟩
  obtain ⟨m, rfl⟩ := hd
  have hc : (w.drewN m).cell? ⟨1, 0, none⟩ = some (.iface 79 (.pointer (some a1))) := Ha.out
  have hd : Drew w (w.drewN m) := ⟨m, rfl⟩
  generalize w.drewN m = w1 at hc hd ⊢
  have Hd := Lib.hid hd
  clear Hu hd
  go_wp2_with fail
  go_quiet (fail)
  go_wp2_with fail
  go_ret3
  exact ⟨Hd.out.trans ⟨_, rfl⟩, rfl⟩
end Go.Proofs.YtfnejblenapddaaDoor
