/- snappy.Decode and impl.Decode by their contract. -/
import Derived.Test.YtfnejblenapddaaDoorErr
import Derived.Test.YtfnejblenapddaaDoorDec
set_option linter.unusedVariables false
namespace Go.Proofs.YtfnejblenapddaaDoor
open Go Go.RowKit

theorem slice_from_le (g o n c l : Nat) (h : l ≤ n) (hc : n ≤ c) : ∃ B, (l < n → B = some ⟨g, o + l, none⟩) ∧ ∀ W, (Instr.slice 22 (.slice (some ⟨g, o, none⟩) n c) (some (.int .i64 (l : Int))) none none).run Tryd.prog W = .ok (.slice B (n - l) (c - l)) W := by
  by_cases hlc : l = c
  · subst hlc
    have hn : n = l := by omega
    subst hn
    refine ⟨some ⟨g, o, none⟩, fun h => absurd h (by omega), fun W => ?_⟩
    rw [run_slice_l (P := Tryd.prog) W 22 _ n n elem22 .i64 _ (by omega) (by omega), elem22', run_size5]
    simp [sliced]
  · exact ⟨_, fun _ => rfl, slice_from g o n c l h hlc⟩

theorem slice_nil0 : ∀ W, (Instr.slice 22 (.slice none 0 0) none (some (.int .i64 0)) none).run Tryd.prog W = .ok (.slice none 0 0) W := fun W => by kernel_rfl

/-- What snappy.Decode leaves. -/
def Undec (a : Addr) (x : Nat) (body : List UInt8) (w : World) (e : Ending) (w' : World) : Prop :=
  Below w.heap.size w w' ∧ ((D x body [] = none ∧ e = .returned (.tuple #[.slice none 0 0, .iface 79 (.pointer (some a))])) ∨ ∃ r v', D x body [] = some r ∧ e = .returned (.tuple #[v', .nilIface]) ∧ Rd w' v' r)

set_option maxHeartbeats 1600000 in
theorem snDec_short (a : Addr) (A : Option Addr) (c n : Nat) (bs : List UInt8) (w : World) (hl : bs.length = n) (h1 : Rd w (.slice A n c) bs) (hn : n ≤ 9)
    (hpre : ∀ i, i < n → 128 ≤ bt bs i) (hE : Er a w) :
    Calls Tryd.prog 26 #[.slice none 0 0, .slice A n c] w fun e w' => Below w.heap.size w w' ∧ e = .returned (.tuple #[.slice none 0 0, .iface 79 (.pointer (some a))]) := by
  have hd := decodedLen_short A c n bs w hl h1 hn hpre a hE
  have Hd := Lib.hid hd
  clear hd hpre hE h1 hl
  go_enter Tryd.func26, Tryd.ntmps26
  go_wp2_with fail
  refine (Hd.out).mono ?_
  rintro e w1 ⟨hdr, rfl⟩
  have Hdr := Lib.hid hdr
  clear hdr Hd
  go_wp2_with fail
  go_ret2
  exact ⟨Hdr.out.below _, rfl⟩

/-- When the destination has been made. -/
structure SdMid (x n c : Nat) (hl : Nat) (A : Option Addr) (w : World) (w1 : World) (a : Act) (w' : World) : Prop where
  size : a.tmps.size = 39
  defs : a.defers = []
  s1 : a.tmps.getD 1 undef = .slice A n c
  s7 : a.tmps.getD 7 undef = .int .i64 (hl : Int)
  dst : ∃ (A' : Option Addr) (g : Nat), a.tmps.getD 0 undef = .slice A' x x ∧ (0 < x → A' = some ⟨g, 0, none⟩) ∧ (0 < x → Dst w' g x []) ∧ w1.heap.size ≤ g ∧ Below w1.heap.size w1 w'

set_option maxHeartbeats 3200000 in
theorem snDec_any (a : Addr) (A : Option Addr) (c n j : Nat) (bs : List UInt8) (w : World) (hl : bs.length = n) (h1 : Rd w (.slice A n c) bs) (hn : n ≤ 1099511627776)
    (hj : j < n) (hj9 : j ≤ 8) (hpre : ∀ i, i < j → 128 ≤ bt bs i) (hlast : bt bs j < 128) (hv : v7 (bs.take (j + 1)) ≤ 4294967295) (hE : Er a w) :
    Calls Tryd.prog 26 #[.slice none 0 0, .slice A n c] w (Undec a (v7 (bs.take (j + 1))) (bs.drop (j + 1)) w) := by
  have hd := decodedLen_any A c n j bs w hl h1 hn hj hj9 hpre hlast hv
  obtain ⟨A1, c1, he, hnc, hc, -, hA⟩ := h1
  simp only [Value.slice.injEq] at he
  obtain ⟨rfl, -, rfl⟩ := he
  obtain ⟨b, off, rfl, hB⟩ := hA (by omega)
  rw [hl] at hnc
  generalize v7 (bs.take (j + 1)) = x at hd hv ⊢
  have Hd := Lib.hid hd
  have HE := Lib.hid hE
  have HB := Lib.hid hB
  have Hl := Lib.hid hl
  obtain ⟨A2, hA2, hsl⟩ := slice_from_le b off n c (j + 1) (by omega) hnc
  have HA2 := Lib.hid hA2
  clear hd hpre hlast hE hA hB hl hA2
  go_enter Tryd.func26, Tryd.ntmps26
  go_wp2_with fail
  refine (Hd.out).mono ?_
  rintro e w1 ⟨hdr, rfl⟩
  have Hdr := Lib.hid hdr
  obtain ⟨s, hs⟩ : ∃ s, j + 1 = s := ⟨_, rfl⟩
  rw [hs] at hsl HA2 ⊢
  clear hdr Hd
  go_upto_if 21 with fail
  refine wp_meet (SdMid x n c s (some ⟨b, off, none⟩) w w1) ?_ ?_
  · by_cases hx : x = 0
    · subst hx
      have hsn := slice_nil0
      go_wp2_with fail
      exact ⟨rfl, rfl, rfl, rfl, none, w1.heap.size, rfl, fun h => absurd h (by omega), fun h => absurd h (by omega), Nat.le_refl _, Below.refl _ _⟩
    · have hx0 : ((x : Int) ≤ 0) = False := by simp; omega
      have hmk := run_make5 x (by omega)
      go_wp2_with fail
      exact ⟨rfl, rfl, rfl, rfl, some ⟨w1.heap.size, 0, none⟩, w1.heap.size, rfl, fun _ => rfl, fun _ => ⟨(Z5 x).toList, Z5_size x, Blk.made _ _, rfl⟩, Nat.le_refl _, (Below.refl _ _).alloc (Nat.le_refl _) _⟩
  · intro a0 w2 hI
    obtain ⟨A', g, h0, hA', hD, hg, hbel⟩ := hI.dst
    obtain ⟨fr, rfl, hfr⟩ := open39 a0 hI.size hI.defs
    have e0 := (hfr 0).symm.trans h0
    have e1 := (hfr 1).symm.trans hI.s1
    have e7 := (hfr 7).symm.trans hI.s7
    rw [e0, e1, e7]
    clear hI h0 hfr e0 e1 e7
    have hB2 : Below w.heap.size w w2 := (Hdr.out.below _).trans (hbel.mono (Hdr.out.below w.heap.size).size)
    have hbs := HB.out.below hB2
    have hb0 : b < w.heap.size := HB.out.lt (by rw [Hl.out]; omega)
    have hsz := (Hdr.out.below w.heap.size).size
    have hbg : b ≠ g := by omega
    have hdec := decode_any A' A2 g x x b (off + s) (n - s) (c - s) (bs.drop s) w2 (by rw [List.length_drop, Hl.out]) (by omega) (by omega) (Nat.le_refl _) (by omega) hA' hD (fun h => HA2.out (by omega)) (hbs.drop s) hbg (by omega) (by omega)
    have Hdec := Lib.hid hdec
    have HB2 := Lib.hid hB2
    have HA' := Lib.hid hA'
    have hEr2 := HE.out.below hB2
    have HEr := Lib.hid hEr2
    have Hg := Lib.hid (show w.heap.size ≤ g by omega)
    clear hdec hbs hbel hD hB2 hA' hEr2 hg hb0 hbg hsz
    go_wp2_with fail
    refine (Hdec.out).mono ?_
    rintro e w3 ⟨hgb, hr⟩
    have hB3 : Below w.heap.size w w3 := HB2.out.trans (below_gb_new Hg.out HB2.out.size hgb)
    have HB3 := Lib.hid hB3
    rcases hr with ⟨hno, rfl⟩ | ⟨r, hr, rfl, hblk⟩
    · have hc1 : w3.cell? ⟨1, 0, none⟩ = some (.iface 79 (.pointer (some a))) := HE.out.below HB3.out
      have Hno := Lib.hid hno
      clear hno hgb hB3
      go_wp2_with fail
      go_quiet (fail)
      go_wp2_with fail
      go_ret2
      exact ⟨HB3.out.trans (Drew.below ⟨_, rfl⟩ _), .inl ⟨by rw [hs]; exact Hno.out, rfl⟩⟩
    · have hrl := D_len hr
      have hRd : Rd w3 (.slice A' x x) r := by
        refine ⟨A', x, by rw [hrl], by omega, by omega, fun h => ?_, fun h => ⟨g, 0, HA'.out (by omega), (hblk (by omega)).toBs 0 (by rw [bc_length]; omega) (by rw [List.drop_zero]; exact List.take_of_length_le (by rw [bc_length]; exact Nat.le_refl _))⟩⟩
        rcases Nat.eq_zero_or_pos x with h0 | h0
        · exact List.eq_nil_of_length_eq_zero (by omega)
        · exact absurd (h.symm.trans (HA'.out h0)) (by simp)
      have Hr := Lib.hid hr
      have HRd := Lib.hid hRd
      clear hr hRd hblk hgb hB3
      go_wp2_with fail
      go_ret2
      exact ⟨HB3.out, .inr ⟨r, _, by rw [hs]; exact Hr.out, rfl, HRd.out⟩⟩

/-- What impl.Decode leaves: a text, or a fault. -/
def Untold (r? : Option (List UInt8)) (w : World) (e : Ending) (w' : World) : Prop :=
  Below w.heap.size w w' ∧ match r? with
    | none => ∃ v f, e = .returned (.agg #[v, .int .i64 f]) ∧ f ≠ 0
    | some r => ∃ v, e = .returned (.agg #[v, .int .i64 0]) ∧ Rd w' v r

/-- What snappy.Decode leaves, told by what the elements say. -/
def SdRes (a : Addr) (r? : Option (List UInt8)) (w : World) (e : Ending) (w' : World) : Prop :=
  Below w.heap.size w w' ∧ match r? with
    | none => e = .returned (.tuple #[.slice none 0 0, .iface 79 (.pointer (some a))])
    | some r => ∃ v', e = .returned (.tuple #[v', .nilIface]) ∧ Rd w' v' r

set_option maxHeartbeats 1600000 in
/-- impl.Decode, given what snappy.Decode leaves. -/
theorem implDec_of (a : Addr) (v : Value) (bs : List UInt8) (r? : Option (List UInt8)) (w : World) (hR : Rd w v bs) (hn : bs.length ≤ 1099511627776) (hr : ∀ r, r? = some r → r.length ≤ 1099511627776) (hE : Er a w)
    (hS : ∀ v1 w1, Rd w1 v1 bs → Er a w1 → Calls Tryd.prog 26 #[.slice none 0 0, v1] w1 (SdRes a r? w1)) :
    Calls Tryd.prog 14 #[v] w (Untold r? w) := by
  have hb0 := (Below.refl w.heap.size w).alloc (Nat.le_refl _) (.cells #[.slice none 0 0, .int .i64 0] 29)
  have hcl := clone_any v bs (w.alloc (.cells #[.slice none 0 0, .int .i64 0] 29)) (hR.below hb0) hn
  have Hcl := Lib.hid hcl
  have Hr := Lib.hid hr
  have HE := Lib.hid hE
  have HS := Lib.hid hS
  have hsz0 : w.heap.size ≤ (w.alloc (.cells #[.slice none 0 0, .int .i64 0] 29)).heap.size := hb0.size
  clear hcl hR hr hE hS
  go_enter Tryd.func14, Tryd.ntmps14
  go_wp2_with fail
  refine (Hcl.out).mono ?_
  rintro e w1 ⟨v1, rfl, hown, hb1⟩
  have hE1 := (HE.out.below hb0).below hb1
  have hs1 := HS.out v1 w1 hown.rd hE1
  have hblk1 : w1.heap[w.heap.size]? = some (.cells #[.slice none 0 0, .int .i64 0] 29 (0, 0)) := by rw [hb1.block w.heap.size (by simp), heap_alloc_new]
  have HE1 := Lib.hid hE1
  have Hs1 := Lib.hid hs1
  have Hblk1 := Lib.hid hblk1
  have hB1 : Below w.heap.size w w1 := hb0.trans (hb1.mono hsz0)
  have HB1 := Lib.hid hB1
  have hlt : w.heap.size < w1.heap.size := by have := hb1.size; simp at this; omega
  clear hown hb1 hE1 hs1 hblk1 hB1 HS Hcl
  go_wp2_with fail
  refine (Hs1.out).mono ?_
  intro e w2 h2
  obtain ⟨hb2, h2⟩ := h2
  have hblk2 : w2.heap[w.heap.size]? = some (.cells #[.slice none 0 0, .int .i64 0] 29 (0, 0)) := by rw [hb2.block w.heap.size hlt]; exact Hblk1.out
  have hE2 := HE1.out.below hb2
  have hlt2 := hb2.size
  have hB2 : Below w.heap.size w w2 := HB1.out.trans (hb2.mono HB1.out.size)
  have HB2 := Lib.hid hB2
  have Hblk2 := Lib.hid hblk2
  have HE2 := Lib.hid hE2
  clear hb2 hblk2 hE2 hB2
  cases r? with
  | none =>
    simp only at h2
    subst h2
    have ht := told_err a w2 HE2.out
    have Ht := Lib.hid ht
    clear ht
    go_wp2_with fail
    refine (Ht.out).mono ?_
    rintro e w3 ⟨rfl, hb3⟩
    have hblk3 : w3.heap[w.heap.size]? = some (.cells #[.slice none 0 0, .int .i64 0] 29 (0, 0)) := by rw [hb3.block w.heap.size (by omega)]; exact Hblk2.out
    have hc0 : w3.cell? ⟨w.heap.size, 0, none⟩ = some (.slice none 0 0) := cell_of_row _ _ 0 _ _ _ hblk3
    have hc1 : w3.cell? ⟨w.heap.size, 1, none⟩ = some (.int .i64 0) := cell_of_row _ _ 1 _ _ _ hblk3
    have hf0 := frozen_of_row _ _ 0 _ _ hblk3
    have hf1 := frozen_of_row _ _ 1 _ _ hblk3
    have Hblk3 := Lib.hid hblk3
    have Hb3 := Lib.hid (HB2.out.trans (hb3.mono HB2.out.size))
    clear hblk3 hb3
    go_wp2_with fail
    have h1 := heap_setCell_same w3 w.heap.size 0 _ 29 (.slice none 0 0) Hblk3.out
    have h2 := heap_setCell_same _ w.heap.size 1 _ 29 (.int .i64 1) h1
    refine bodyPost_ret (results_cell_row rfl _ _ w.heap.size 29 #[.slice none 0 0, .int .i64 1] (0, 0) _ rfl h2 Tryd.underlying29 rfl size29) rfl ?_
    exact ⟨(Hb3.out.setCell (p := ⟨w.heap.size, 0, none⟩) (Nat.le_refl _) _).setCell (p := ⟨w.heap.size, 1, none⟩) (Nat.le_refl _) _, _, _, rfl, by decide⟩
  | some r =>
    simp only at h2
    obtain ⟨v2, rfl, hR2⟩ := h2
    have ht := told_ok v2 r w2 hR2 (Hr.out r rfl)
    have Ht := Lib.hid ht
    clear ht hR2
    go_wp2_with fail
    refine (Ht.out).mono ?_
    rintro e w3 ⟨v3, rfl, hR3, hnew, hb3⟩
    have hblk3 : w3.heap[w.heap.size]? = some (.cells #[.slice none 0 0, .int .i64 0] 29 (0, 0)) := by rw [hb3.block w.heap.size (by omega)]; exact Hblk2.out
    have hc0 : w3.cell? ⟨w.heap.size, 0, none⟩ = some (.slice none 0 0) := cell_of_row _ _ 0 _ _ _ hblk3
    have hc1 : w3.cell? ⟨w.heap.size, 1, none⟩ = some (.int .i64 0) := cell_of_row _ _ 1 _ _ _ hblk3
    have hf0 := frozen_of_row _ _ 0 _ _ hblk3
    have hf1 := frozen_of_row _ _ 1 _ _ hblk3
    have Hblk3 := Lib.hid hblk3
    have Hb3 := Lib.hid (HB2.out.trans (hb3.mono HB2.out.size))
    obtain ⟨A3, c3, b3, rfl, p2, p3, p4, p5, p6⟩ := hnew
    have HR3 := Lib.hid (show 0 < r.length → b3 ≠ w.heap.size from fun h => by have := p6 h; omega)
    have HP := Lib.hid (And.intro p2 (And.intro p3 (And.intro p4 p5)))
    clear hblk3 hb3 p2 p3 p4 p5 p6 hR3
    go_wp2_with fail
    have h1 := heap_setCell_same w3 w.heap.size 0 _ 29 (.slice A3 r.length c3) Hblk3.out
    have h2 := heap_setCell_same _ w.heap.size 1 _ 29 (.int .i64 0) h1
    refine bodyPost_ret (results_cell_row rfl _ _ w.heap.size 29 #[.slice A3 r.length c3, .int .i64 0] (0, 0) _ rfl h2 Tryd.underlying29 rfl size29) rfl ?_
    refine ⟨(Hb3.out.setCell (p := ⟨w.heap.size, 0, none⟩) (Nat.le_refl _) _).setCell (p := ⟨w.heap.size, 1, none⟩) (Nat.le_refl _) _, _, rfl, ?_⟩
    obtain ⟨p2, p3, p4, p5⟩ := HP.out
    refine ⟨A3, c3, rfl, p2, p3, fun h => ?_, fun h => ⟨b3, 0, p4 h, ?_⟩⟩
    · rcases Nat.eq_zero_or_pos r.length with h0 | h0
      · exact List.eq_nil_of_length_eq_zero h0
      · exact absurd (h.symm.trans (p4 h0)) (by simp)
    · exact (p5.set_other (a := ⟨w.heap.size, 0, none⟩) (HR3.out h) _).set_other (a := ⟨w.heap.size, 1, none⟩) (HR3.out h) _

theorem bt_append_left (a b : List UInt8) (i : Nat) (h : i < a.length) : bt (a ++ b) i = bt a i := bt_append a b i h

/-- impl.Decode of a block with a length in front. -/
theorem implDec_hdr (a : Addr) (v : Value) (h body : List UInt8) (x : Nat) (w : World) (hh : Hdr h x) (hl : h.length ≤ 9) (hx : x ≤ 4294967295) (hR : Rd w v (h ++ body)) (hn : (h ++ body).length ≤ 1099511627776) (hE : Er a w) :
    Calls Tryd.prog 14 #[v] w (Untold (D x body []) w) := by
  refine implDec_of a v (h ++ body) (D x body []) w hR hn (fun r hr => by rw [D_len hr]; omega) hE fun v1 w1 hR1 hE1 => ?_
  obtain ⟨A, c, rfl, h2, h3, h4, h5⟩ := hR1
  have hp := hh.pos
  have hj : h.length - 1 + 1 = h.length := by omega
  have hlen : (h ++ body).length = h.length + body.length := List.length_append
  have hval : v7 ((h ++ body).take (h.length - 1 + 1)) = x := by rw [hj, List.take_left' rfl, hh.val]
  have hs := snDec_any a A c (h ++ body).length (h.length - 1) (h ++ body) w1 rfl ⟨A, c, rfl, h2, h3, h4, h5⟩ hn (by omega) (by omega)
    (fun i hi => by rw [bt_append_left _ _ _ (by omega)]; exact hh.pre i (by omega)) (by rw [bt_append_left _ _ _ (by omega)]; exact hh.last) (by rw [hval]; exact hx) hE1
  rw [hval, hj, List.drop_left' rfl] at hs
  refine hs.mono ?_
  rintro e w2 ⟨hb, ⟨hd, rfl⟩ | ⟨r, v', hd, rfl, hR2⟩⟩
  · exact ⟨hb, by rw [hd]⟩
  · exact ⟨hb, by rw [hd]; exact ⟨v', rfl, hR2⟩⟩
/-- impl.Decode where no length ends. -/
theorem implDec_short (a : Addr) (v : Value) (bs : List UInt8) (w : World) (hn : bs.length ≤ 9) (hpre : ∀ i, i < bs.length → 128 ≤ bt bs i) (hR : Rd w v bs) (hE : Er a w) :
    Calls Tryd.prog 14 #[v] w (Untold none w) := by
  refine implDec_of a v bs none w hR (by omega) (fun r hr => by cases hr) hE fun v1 w1 hR1 hE1 => ?_
  obtain ⟨A, c, rfl, h2, h3, h4, h5⟩ := hR1
  refine (snDec_short a A c bs.length bs w1 rfl ⟨A, c, rfl, h2, h3, h4, h5⟩ hn hpre hE1).mono ?_
  rintro e w2 ⟨hb, rfl⟩
  exact ⟨hb, rfl⟩
end Go.Proofs.YtfnejblenapddaaDoor
