/- impl.Decode by its contract: its text lies in memory of the call's own. -/
import Derived.Test.YtfnejblenapddaaDoorLawA
set_option linter.unusedVariables false
namespace Go.Proofs.YtfnejblenapddaaDoor
open Go Go.RowKit

/-- What impl.Decode leaves: a text of the call's own, or a fault. -/
def UntoldF (r? : Option (List UInt8)) (w : World) (e : Ending) (w' : World) : Prop :=
  Below w.heap.size w w' ∧ match r? with
    | none => ∃ v f, e = .returned (.agg #[v, .int .i64 f]) ∧ f ≠ 0
    | some r => ∃ v, e = .returned (.agg #[v, .int .i64 0]) ∧ Fresh (w.heap.size + 1) w' v r

set_option maxHeartbeats 1600000 in
/-- impl.Decode, given what snappy.Decode leaves. -/
theorem implDecF_of (a : Addr) (v : Value) (bs : List UInt8) (r? : Option (List UInt8)) (w : World) (hR : Rd w v bs) (hn : bs.length ≤ 1099511627776) (hr : ∀ r, r? = some r → r.length ≤ 1099511627776) (hE : Er a w)
    (hS : ∀ v1 w1, Rd w1 v1 bs → Er a w1 → Calls Tryd.prog 26 #[.slice none 0 0, v1] w1 (SdRes a r? w1)) :
    Calls Tryd.prog 14 #[v] w (UntoldF r? w) := by
  have hb0 := (Below.refl w.heap.size w).alloc (Nat.le_refl _) (.cells #[.slice none 0 0, .int .i64 0] 29)
  have hcl := clone_any v bs (w.alloc (.cells #[.slice none 0 0, .int .i64 0] 29)) (hR.below hb0) hn
  have Hcl := Lib.hid hcl
  have Hr := Lib.hid hr
  have HE := Lib.hid hE
  have HS := Lib.hid hS
  have hsz0 : w.heap.size ≤ (w.alloc (.cells #[.slice none 0 0, .int .i64 0] 29)).heap.size := hb0.size
  clear hcl hR hr hE hS
  go_enter Tryd.func14, Tryd.ntmps14
  go_wp2_with fail
  refine (Hcl.out).mono ?_
  rintro e w1 ⟨v1, rfl, hown, hb1⟩
  have hE1 := (HE.out.below hb0).below hb1
  have hs1 := HS.out v1 w1 hown.rd hE1
  have hblk1 : w1.heap[w.heap.size]? = some (.cells #[.slice none 0 0, .int .i64 0] 29 (0, 0)) := by rw [hb1.block w.heap.size (by simp), heap_alloc_new]
  have HE1 := Lib.hid hE1
  have Hs1 := Lib.hid hs1
  have Hblk1 := Lib.hid hblk1
  have hB1 : Below w.heap.size w w1 := hb0.trans (hb1.mono hsz0)
  have HB1 := Lib.hid hB1
  have hlt : w.heap.size < w1.heap.size := by have := hb1.size; simp at this; omega
  clear hown hb1 hE1 hs1 hblk1 hB1 HS Hcl
  go_wp2_with fail
  refine (Hs1.out).mono ?_
  intro e w2 h2
  obtain ⟨hb2, h2⟩ := h2
  have hblk2 : w2.heap[w.heap.size]? = some (.cells #[.slice none 0 0, .int .i64 0] 29 (0, 0)) := by rw [hb2.block w.heap.size hlt]; exact Hblk1.out
  have hE2 := HE1.out.below hb2
  have hlt2 := hb2.size
  have hB2 : Below w.heap.size w w2 := HB1.out.trans (hb2.mono HB1.out.size)
  have HB2 := Lib.hid hB2
  have Hblk2 := Lib.hid hblk2
  have HE2 := Lib.hid hE2
  clear hb2 hblk2 hE2 hB2
  cases r? with
  | none =>
    simp only at h2
    subst h2
    have ht := told_err a w2 HE2.out
    have Ht := Lib.hid ht
    clear ht
    go_wp2_with fail
    refine (Ht.out).mono ?_
    rintro e w3 ⟨rfl, hb3⟩
    have hblk3 : w3.heap[w.heap.size]? = some (.cells #[.slice none 0 0, .int .i64 0] 29 (0, 0)) := by rw [hb3.block w.heap.size (by omega)]; exact Hblk2.out
    have hc0 : w3.cell? ⟨w.heap.size, 0, none⟩ = some (.slice none 0 0) := cell_of_row _ _ 0 _ _ _ hblk3
    have hc1 : w3.cell? ⟨w.heap.size, 1, none⟩ = some (.int .i64 0) := cell_of_row _ _ 1 _ _ _ hblk3
    have hf0 := frozen_of_row _ _ 0 _ _ hblk3
    have hf1 := frozen_of_row _ _ 1 _ _ hblk3
    have Hblk3 := Lib.hid hblk3
    have Hb3 := Lib.hid (HB2.out.trans (hb3.mono HB2.out.size))
    clear hblk3 hb3
    go_wp2_with fail
    have h1 := heap_setCell_same w3 w.heap.size 0 _ 29 (.slice none 0 0) Hblk3.out
    have h2 := heap_setCell_same _ w.heap.size 1 _ 29 (.int .i64 1) h1
    refine bodyPost_ret (results_cell_row rfl _ _ w.heap.size 29 #[.slice none 0 0, .int .i64 1] (0, 0) _ rfl h2 Tryd.underlying29 rfl size29) rfl ?_
    exact ⟨(Hb3.out.setCell (p := ⟨w.heap.size, 0, none⟩) (Nat.le_refl _) _).setCell (p := ⟨w.heap.size, 1, none⟩) (Nat.le_refl _) _, _, _, rfl, by decide⟩
  | some r =>
    simp only at h2
    obtain ⟨v2, rfl, hR2⟩ := h2
    have ht := told_ok v2 r w2 hR2 (Hr.out r rfl)
    have Ht := Lib.hid ht
    clear ht hR2
    go_wp2_with fail
    refine (Ht.out).mono ?_
    rintro e w3 ⟨v3, rfl, hR3, hnew, hb3⟩
    have hblk3 : w3.heap[w.heap.size]? = some (.cells #[.slice none 0 0, .int .i64 0] 29 (0, 0)) := by rw [hb3.block w.heap.size (by omega)]; exact Hblk2.out
    have hc0 : w3.cell? ⟨w.heap.size, 0, none⟩ = some (.slice none 0 0) := cell_of_row _ _ 0 _ _ _ hblk3
    have hc1 : w3.cell? ⟨w.heap.size, 1, none⟩ = some (.int .i64 0) := cell_of_row _ _ 1 _ _ _ hblk3
    have hf0 := frozen_of_row _ _ 0 _ _ hblk3
    have hf1 := frozen_of_row _ _ 1 _ _ hblk3
    have Hblk3 := Lib.hid hblk3
    have Hb3 := Lib.hid (HB2.out.trans (hb3.mono HB2.out.size))
    obtain ⟨A3, c3, b3, rfl, p2, p3, p4, p5, p6⟩ := hnew
    have HR3 := Lib.hid (show 0 < r.length → b3 ≠ w.heap.size ∧ w.heap.size + 1 ≤ b3 from fun h => by have := p6 h; omega)
    have HP := Lib.hid (And.intro p2 (And.intro p3 (And.intro p4 p5)))
    clear hblk3 hb3 p2 p3 p4 p5 p6 hR3
    go_wp2_with fail
    have h1 := heap_setCell_same w3 w.heap.size 0 _ 29 (.slice A3 r.length c3) Hblk3.out
    have h2 := heap_setCell_same _ w.heap.size 1 _ 29 (.int .i64 0) h1
    refine bodyPost_ret (results_cell_row rfl _ _ w.heap.size 29 #[.slice A3 r.length c3, .int .i64 0] (0, 0) _ rfl h2 Tryd.underlying29 rfl size29) rfl ?_
    refine ⟨(Hb3.out.setCell (p := ⟨w.heap.size, 0, none⟩) (Nat.le_refl _) _).setCell (p := ⟨w.heap.size, 1, none⟩) (Nat.le_refl _) _, _, rfl, ?_⟩
    obtain ⟨p2, p3, p4, p5⟩ := HP.out
    refine ⟨A3, c3, b3, rfl, p2, p3, p4, ?_, fun h => (HR3.out h).2⟩
    rcases Nat.eq_zero_or_pos r.length with h0 | h0
    · exact Bs.nil h0
    · exact (p5.set_other (a := ⟨w.heap.size, 0, none⟩) (HR3.out h0).1 _).set_other (a := ⟨w.heap.size, 1, none⟩) (HR3.out h0).1 _

/-- impl.Decode of a block with a length in front. -/
theorem implDecF_hdr (a : Addr) (v : Value) (h body : List UInt8) (x : Nat) (w : World) (hh : Hdr h x) (hl : h.length ≤ 9) (hx : x ≤ 4294967295) (hR : Rd w v (h ++ body)) (hn : (h ++ body).length ≤ 1099511627776) (hE : Er a w) :
    Calls Tryd.prog 14 #[v] w (UntoldF (D x body []) w) := by
  refine implDecF_of a v (h ++ body) (D x body []) w hR hn (fun r hr => by rw [D_len hr]; omega) hE fun v1 w1 hR1 hE1 => ?_
  obtain ⟨A, c, rfl, h2, h3, h4, h5⟩ := hR1
  have hp := hh.pos
  have hj : h.length - 1 + 1 = h.length := by omega
  have hlen : (h ++ body).length = h.length + body.length := List.length_append
  have hval : v7 ((h ++ body).take (h.length - 1 + 1)) = x := by rw [hj, List.take_left' rfl, hh.val]
  have hs := snDec_any a A c (h ++ body).length (h.length - 1) (h ++ body) w1 rfl ⟨A, c, rfl, h2, h3, h4, h5⟩ hn (by omega) (by omega)
    (fun i hi => by rw [bt_append_left _ _ _ (by omega)]; exact hh.pre i (by omega)) (by rw [bt_append_left _ _ _ (by omega)]; exact hh.last) (by rw [hval]; exact hx) hE1
  rw [hval, hj, List.drop_left' rfl] at hs
  refine hs.mono ?_
  rintro e w2 ⟨hb, ⟨hd, rfl⟩ | ⟨r, v', hd, rfl, hR2⟩⟩
  · exact ⟨hb, by rw [hd]⟩
  · exact ⟨hb, by rw [hd]; exact ⟨v', rfl, hR2⟩⟩
end Go.Proofs.YtfnejblenapddaaDoor
