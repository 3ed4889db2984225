/- impl.Encode and impl.EncodeInto by their contract. -/
import Derived.Test.YtfnejblenapddaaDoorSne
set_option linter.unusedVariables false
namespace Go.Proofs.YtfnejblenapddaaDoor
open Go Go.RowKit

theorem Own.open {base : Nat} {w : World} {v : Value} {bs : List UInt8} (h : Own base w v bs) :
    ∃ A c b, v = .slice A bs.length c ∧ bs.length ≤ c ∧ c ≤ 9223372036854775807 ∧ (0 < bs.length → A = some ⟨b, 0, none⟩) ∧ Bs w b 0 bs ∧ (0 < bs.length → base ≤ b) := by
  obtain ⟨h1, h2⟩ := h
  rcases h2 with ⟨rfl, h0⟩ | ⟨g, cap, cur, rfl, hb, hg, hn, hc, hs, ht⟩
  · have : bs = [] := List.eq_nil_of_length_eq_zero h0
    subst this
    exact ⟨none, 0, 0, rfl, by omega, by omega, fun h => by simp at h, fun j hj => by simp at hj, fun h => by simp at h⟩
  · have hB : Blk w g cur.toList := by unfold Blk; simpa using hg
    refine ⟨_, cap, g, rfl, hn, by simpa [maxLen] using hc, fun _ => rfl, hB.toBs 0 (by simp; omega) (by simpa using ht), fun _ => hb⟩

theorem Own.room {base m b : Nat} {w : World} {v : Value} {bs : List UInt8} (h : Own base w v bs) (hb : 0 < m → w.heap.size ≤ b ∨ True) :
    ∃ A M c, v = .slice A M c ∧ ((A = none ∧ M = 0 ∧ c = 0) ∨ ∃ g0 L, A = some ⟨g0, 0, none⟩ ∧ Blk w g0 L ∧ M ≤ L.length ∧ M ≤ c ∧ c ≤ 9223372036854775807 ∧ base ≤ g0 ∧ g0 < w.heap.size) := by
  obtain ⟨h1, h2⟩ := h
  rcases h2 with ⟨rfl, h0⟩ | ⟨g, cap, cur, rfl, hb, hg, hn, hc, hs, ht⟩
  · exact ⟨none, 0, 0, rfl, .inl ⟨rfl, rfl, rfl⟩⟩
  · have hB : Blk w g cur.toList := by unfold Blk; simpa using hg
    exact ⟨_, bs.length, cap, rfl, .inr ⟨g, cur.toList, rfl, hB, by simp; omega, hn, by simpa [maxLen] using hc, hb, hB.lt⟩⟩

/-- What an encoding leaves: a slice that reads as the block of these bytes. -/
def EncTo (bs : List UInt8) (w : World) (e : Ending) (w' : World) : Prop :=
  ∃ v' blk E, e = .returned v' ∧ Rd w' v' blk ∧ Below w.heap.size w w' ∧ Ev E [] bs ∧ blk = Lib.uvarint bs.length ++ E ∧ blk.length ≤ 32 + bs.length + bs.length / 6

theorem Packed.rd {B : Nat} {bs : List UInt8} {w w' : World} {e : Ending} (h : Packed B bs w e w') (hB : B ≤ w.heap.size) :
    ∃ v' blk E, e = .returned v' ∧ Rd w' v' blk ∧ Below B w w' ∧ Ev E [] bs ∧ blk = Lib.uvarint bs.length ++ E ∧ blk.length ≤ 32 + bs.length + bs.length / 6 := by
  obtain ⟨g, c, L', blk, E, rfl, h2, h3, h4, h5, h6, h7, h8, h9, h10⟩ := h
  refine ⟨_, blk, E, rfl, ⟨_, c, rfl, h2, h3, (fun h => by cases h), fun _ => ⟨g, 0, rfl, ?_⟩⟩, below_gb_new h9 hB h10, h4, h5, h6⟩
  have hl := length_splice L' 0 (bc blk) (by rw [bc_length]; omega)
  refine h8.toBs 0 (by rw [hl]; omega) ?_
  have := take_splice L' 0 (bc blk) (by rw [bc_length]; omega)
  rw [bc_length, Nat.zero_add, List.take_zero, List.nil_append] at this
  rw [List.drop_zero]
  exact this

set_option maxHeartbeats 800000 in
theorem implEnc_any (v : Value) (bs : List UInt8) (w : World) (hR : Rd w v bs) (hl : bs.length ≤ 2147483647) : Calls Tryd.prog 17 #[v] w (EncTo bs w) := by
  have hcl := clone_any v bs w hR (by omega)
  have Hcl := Lib.hid hcl
  clear hcl hR
  go_enter Tryd.func17, Tryd.ntmps17
  go_wp2_with fail
  refine (Hcl.out).mono ?_
  rintro e w1 ⟨v1, rfl, hown, hb⟩
  obtain ⟨A, c, b, rfl, h2, h3, h4, h5, h6⟩ := hown.open
  have hsn := snEnc_any w.heap.size bs.length c b 0 0 0 A none bs w1 rfl hl h4 h5 h2 h3 hb.size (.inl ⟨rfl, rfl, rfl⟩)
  have Hsn := Lib.hid hsn
  have Hb := Lib.hid hb
  clear hsn h4 h5 h6 hown Hcl
  go_wp2_with fail
  refine (Hsn.out).mono ?_
  intro e w2 hP
  obtain ⟨v', blk, E, rfl, p1, p2, p3, p4, p5⟩ := hP.rd Hb.out.size
  have hEnd := Lib.hid (show EncTo bs w (.returned v') w2 from ⟨v', blk, E, rfl, p1, Hb.out.trans p2, p3, p4, p5⟩)
  clear hP p1 p2 p3 p4 p5
  go_wp2_with fail
  go_ret
  exact hEnd.out

set_option maxHeartbeats 800000 in
theorem encInto_any (vr v : Value) (rb bs : List UInt8) (w : World) (hRr : Rd w vr rb) (hlr : rb.length ≤ 2147483647) (hR : Rd w v bs) (hl : bs.length ≤ 2147483647) : Calls Tryd.prog 19 #[vr, v] w (EncTo bs w) := by
  have hcl := clone_any vr rb w hRr (by omega)
  have Hcl := Lib.hid hcl
  have HR := Lib.hid hR
  clear hcl hRr hR
  go_enter Tryd.func19, Tryd.ntmps19
  go_wp2_with fail
  refine (Hcl.out).mono ?_
  rintro e w1 ⟨v1, rfl, hown, hb⟩
  have hcl2 := clone_any v bs w1 (HR.out.below hb) (by omega)
  have Hcl2 := Lib.hid hcl2
  have Hb := Lib.hid hb
  have Hown := Lib.hid hown
  clear hcl2 hb hown Hcl HR
  go_wp2_with fail
  refine (Hcl2.out).mono ?_
  rintro e w2 ⟨v2, rfl, hown2, hb2⟩
  obtain ⟨Av, M, cv, rfl, hroom⟩ := (Hown.out).room (m := 0) (b := 0) (fun h => .inr trivial)
  obtain ⟨A, c, b, rfl, h2, h3, h4, h5, h6⟩ := hown2.open
  have hRoom : Room w.heap.size bs.length b w2 Av M cv := by
    rcases hroom with h | ⟨g0, L, r1, r2, r3, r4, r5, r6, r7⟩
    · exact .inl h
    · exact .inr ⟨g0, L, r1, r2.below hb2, r3, r4, r5, r6, fun h => by have := h6 h; omega⟩
  have hbw := Hb.out.size
  have hbw2 := hb2.size
  have hsn := snEnc_any w.heap.size bs.length c b 0 M cv A Av bs w2 rfl hl h4 h5 h2 h3 (by omega) hRoom
  have hB2 : Below w.heap.size w w2 := Hb.out.trans (hb2.mono hbw)
  have Hsn := Lib.hid hsn
  have HB2 := Lib.hid hB2
  clear hsn h4 h5 h6 hown2 hB2 hb2 hRoom hroom Hcl2 Hown
  go_wp2_with fail
  refine (Hsn.out).mono ?_
  intro e w3 hP
  obtain ⟨v', blk, E, rfl, p1, p2, p3, p4, p5⟩ := hP.rd HB2.out.size
  have hcl3 := clone_any v' blk w3 p1 (by omega)
  have hfin : ∀ e w4, Cloned w3 blk e w4 → EncTo bs w e w4 := by
    rintro e w4 ⟨v4, rfl, hown4, hb4⟩
    exact ⟨v4, blk, E, rfl, hown4.rd, (HB2.out.trans p2).trans (hb4.mono (Nat.le_trans HB2.out.size p2.size)), p3, p4, p5⟩
  have Hcl3 := Lib.hid hcl3
  have Hfin := Lib.hid hfin
  clear hP p1 p2 p3 p4 p5 hcl3 hfin
  go_wp2_with fail
  refine (Hcl3.out).mono ?_
  intro e w4 hC
  have hE := Hfin.out e w4 hC
  obtain ⟨v4, rfl, -, -⟩ := hC
  have HE := Lib.hid hE
  clear hE
  go_wp2_with fail
  go_ret
  exact HE.out
end Go.Proofs.YtfnejblenapddaaDoor
