/- The description's Read, of a block whose elements say a text. -/
import Derived.Test.YtfnejblenapddaaDoorSpI
import Derived.Test.YtfnejblenapddaaDoorSpV
set_option linter.unusedVariables false
namespace Go.Proofs.YtfnejblenapddaaDoor
open Go Go.RowKit

/-- What a first element gives. -/
theorem Ev.first {b : UInt8} {r out fin : List UInt8} (h : Ev (b :: r) out fin) : ext b ≤ r.length ∧
    ((b.toNat % 4 = 0 ∧ eln b (r.take (ext b)) ≤ r.length - ext b ∧ Ev ((r.drop (ext b)).drop (eln b (r.take (ext b)))) (out ++ (r.drop (ext b)).take (eln b (r.take (ext b)))) fin) ∨
     (b.toNat % 4 ≠ 0 ∧ far b (r.take (ext b)) ≠ 0 ∧ far b (r.take (ext b)) ≤ out.length ∧ Ev (r.drop (ext b)) (cp out (far b (r.take (ext b))) (eln b (r.take (ext b)))) fin)) := by
  cases h with
  | cons hs ht =>
    simp only [step] at hs
    split at hs
    · cases hs
    · rename_i h1
      refine ⟨by omega, ?_⟩
      split at hs
      · rename_i h2
        split at hs
        · cases hs
        · rename_i h3
          rw [List.length_drop] at h3
          simp only [Option.some.injEq, Prod.mk.injEq] at hs
          obtain ⟨rfl, rfl⟩ := hs
          exact .inl ⟨h2, by omega, ht⟩
      · rename_i h2
        split at hs
        · cases hs
        · rename_i h3
          simp only [Option.some.injEq, Prod.mk.injEq] at hs
          obtain ⟨rfl, rfl⟩ := hs
          exact .inr ⟨h2, fun h => h3 (.inl h), by have := fun h => h3 (.inr h); omega, ht⟩

theorem slice_mid_at (li ui : Int) (g o n c l u : Nat) (hli : li = (l : Int)) (hui : ui = (u : Int)) (h : l ≤ u) (hu : u ≤ c) (hc : l ≠ c) : ∀ W, (Instr.slice 22 (.slice (some ⟨g, o, none⟩) n c) (some (.int .i64 li)) (some (.int .i64 ui)) none).run Tryd.prog W = .ok (.slice (some ⟨g, o + l, none⟩) (u - l) (c - l)) W := by
  subst hli hui
  exact slice_mid g o n c l u h hu hc

/-- Between two elements. -/
def RdSt (w : World) (src fin : List UInt8) (v5 v7 : Value) (wr : World) : Prop :=
  ∃ (s : Nat) (out : List UInt8), v5 = .int .i64 (s : Int) ∧ s ≤ src.length ∧ Own w.heap.size wr v7 out ∧ Below w.heap.size w wr ∧ Ev (src.drop s) out fin

/-- Within a copy. -/
def CpSt (w : World) (out : List UInt8) (f m : Nat) (v12 v7 : Value) (wr : World) : Prop :=
  ∃ k : Nat, v12 = .int .i64 (k : Int) ∧ k ≤ m ∧ Own w.heap.size wr v7 (cp out f k) ∧ Below w.heap.size w wr

set_option maxRecDepth 100000 in
set_option maxHeartbeats 8000000 in
theorem read_any (b off n c x : Nat) (h E fin : List UInt8) (w : World) (hl : (h ++ E).length = n) (hB : Bs w b off (h ++ E)) (hnc : n ≤ c) (hc : c ≤ 9223372036854775807) (hn : n ≤ 1099511627776)
    (hh : Hdr h x) (h5 : h.length ≤ 5) (hx : x ≤ 4294967295) (hfin : fin.length = x) (hE : Ev E [] fin) :
    Calls Tryd.prog 20 #[.slice (some ⟨b, off, none⟩) n c] w fun e w' => ∃ v', e = .returned (.tuple #[v', .bool true]) ∧ Own w.heap.size w' v' fin ∧ Below w.heap.size w w' := by
  have hp := hh.pos
  have hlen : (h ++ E).length = h.length + E.length := List.length_append
  have hval : v7 ((h ++ E).take (h.length - 1 + 1)) = x := by rw [show h.length - 1 + 1 = h.length from by omega, List.take_left' rfl, hh.val]
  have hhead := head_any (some ⟨b, off, none⟩) c n (h.length - 1) (h ++ E) w hl ⟨_, c, by rw [hl], by omega, hc, (fun h => by cases h), fun _ => ⟨b, off, rfl, hB⟩⟩ hn (by omega) (by omega)
    (fun i hi => by rw [bt_append_left _ _ _ (by omega)]; exact hh.pre i (by omega)) (by rw [bt_append_left _ _ _ (by omega)]; exact hh.last) (by rw [hval]; exact hx)
  rw [hval] at hhead
  have hb0 : b < w.heap.size := hB.lt (by omega)
  have hE0 : Ev ((h ++ E).drop h.length) [] fin := by rw [List.drop_left' rfl]; exact hE
  obtain ⟨p, hpe⟩ : ∃ p, h.length = p := ⟨_, rfl⟩
  rw [hpe] at hE0
  have hp1 : ((h.length - 1 + 1 : Nat) : Int) = (p : Int) := by omega
  rw [hp1] at hhead
  have hpn : p ≤ n := by omega
  generalize h ++ E = src at *
  have Hhead := Lib.hid hhead
  have HB := Lib.hid hB
  have Hl := Lib.hid hl
  have HE0 := Lib.hid hE0
  have Hfin := Lib.hid hfin
  clear hhead hB hl hE0 hE hh hval hlen hp hp1 h5 hpe hfin
  go_enter Tryd.func20, Tryd.ntmps20
  go_wp2_with fail
  refine (Hhead.out).mono ?_
  rintro e w1 ⟨hd, rfl⟩
  have HD := Lib.hid (hd.below w.heap.size)
  clear hd Hhead
  go_wp2_with fail
  go_loopw [5, 7] (RdSt w src fin) (fun v5 _ _ => n - (intOf v5).toNat)
  case atStart => exact ⟨p, [], rfl, by rw [Hl.out]; exact hpn, World.ownsRow_nil _ _ _ _, HD.out, HE0.out⟩
  case round =>
    obtain ⟨s, out, rfl, hs, hown, hbel, hev⟩ := hrel
    obtain ⟨A7, c7, b7, rfl, o2, o3, o4, o5, o6⟩ := hown.open
    obtain ⟨L7, hL7⟩ : ∃ L7, out.length = L7 := ⟨_, rfl⟩
    rw [hL7] at hown ⊢
    have Hown := Lib.hid hown
    have Hbel := Lib.hid hbel
    have HL7 := Lib.hid hL7
    rw [Hl.out] at hs
    by_cases hsn : s < n
    · obtain ⟨b0, r, hbr⟩ : ∃ b0 r, src.drop s = b0 :: r := by
        cases hd : src.drop s with
        | nil => have := congrArg List.length hd; rw [List.length_drop, Hl.out] at this; simp at this; omega
        | cons b0 r => exact ⟨b0, r, rfl⟩
      have hr1 : r = src.drop (s + 1) := by rw [← List.drop_drop, hbr]; rfl
      have hrl : r.length = n - s - 1 := by rw [hr1, List.length_drop, Hl.out]; omega
      have hbs : Bs wr b (off + s) (b0 :: r) := by rw [← hbr]; exact (HB.out.below hbel).drop s
      rw [hbr] at hev
      obtain ⟨hext, hcase⟩ := hev.first
      have hitem := item_any b (off + s) (n - s) (c - s) b0 r wr (by rw [List.length_cons]; omega) hbs (by omega) (by omega) hext
      have hsl := slice_from b off n c s (by omega) (by omega)
      have hmpos := eln_pos b0 (r.take (ext b0))
      have hBsrc := HB.out.below hbel
      unfold itemEnd at hitem
      obtain ⟨q0, hq0⟩ : ∃ q0, ext b0 + 1 = q0 := ⟨_, rfl⟩
      rw [hq0] at hitem
      have hdrop : r.drop (ext b0) = src.drop (s + q0) := by rw [hr1, List.drop_drop]; congr 1; omega
      rw [hdrop] at hcase
      have hsq : s + q0 ≤ n := by omega
      have hre : r.length - ext b0 = n - (s + q0) := by omega
      rw [hre] at hcase
      have hq0p : ((q0 : Int) == 0) = false := by simp; omega
      have Hq0 := Lib.hid (show 0 < q0 by omega)
      generalize eln b0 (r.take (ext b0)) = m at *
      generalize far b0 (r.take (ext b0)) = f at *
      have HBsrc := Lib.hid hBsrc
      clear hev hbs hr1 hrl hext hbr hq0 hre hBsrc hdrop
      rcases hcase with ⟨ht, hm, hev⟩ | ⟨ht, hf0, hfl, hev⟩
      · have hle := hev.le
        rw [List.length_append, List.length_take, List.length_drop, Hl.out, Nat.min_eq_left (by omega), HL7.out, Hfin.out] at hle
        rw [if_pos ht] at hitem
        have hdec : decide (b0.toNat % 4 ≠ 0) = false := by simp [ht]
        rw [hdec] at hitem
        have hmid := slice_mid_at ((s : Int) + (q0 : Int)) ((s : Int) + (q0 : Int) + (m : Int)) b off n c (s + q0) (s + q0 + m) (by omega) (by omega) (by omega) (by omega) (by omega)
        have Hitem := Lib.hid hitem
        have Hev := Lib.hid hev
        clear hitem hev ht hdec hown o2 o3 o4 o5 o6 hbel
        go_wp2_with fail
        refine (Hitem.out).mono ?_
        rintro e w2 ⟨rfl, rfl⟩
        clear Hitem
        have hnl : ((src.drop (s + q0)).take m).length = m := by rw [List.length_take, List.length_drop, Hl.out, Nat.min_eq_left (by omega)]
        have Hnl := Lib.hid hnl
        have Hnews := Lib.hid (((HBsrc.out).drop (s + q0)).take m)
        have hout : out.length + m ≤ 1099511627776 := by have := HL7.out; omega
        have hsz := Hbel.out.size
        clear hnl
        go_wp2_with (at_builtin; go_loud (refine wpList_app rfl (.tmp 81) (.tmp 87) rfl w.heap.size _ out rfl Hown.out b (off + (s + q0)) m (c - (s + q0)) ((src.drop (s + q0)).take m) rfl Hnl.out Hnews.out (by omega) hsz ?_); intro v' w' hown' hb'; have HO := Lib.hid hown'; have HB' := Lib.hid hb'; clear hown' hb' hmid hsl hsz hout hle)
        case roundEnd =>
          refine ⟨⟨s + q0 + m, out ++ (src.drop (s + q0)).take m, int_ext (by omega), by rw [Hl.out]; omega, HO.out, Hbel.out.trans HB'.out, ?_⟩, by simp only [intOf]; omega⟩
          have := Hev.out
          rw [List.drop_drop] at this
          exact this
      · have hle := hev.le
        rw [cp_length, HL7.out, Hfin.out] at hle
        rw [if_neg ht] at hitem
        have hdec : decide (b0.toNat % 4 ≠ 0) = true := by simp [ht]
        rw [hdec] at hitem
        rw [HL7.out] at hfl
        have hf0' : ((f : Int) == 0) = false := by simp; omega
        have hf1 : 0 < f := by omega
        have hng : ((x : Int) - (L7 : Int) < (m : Int)) = False := by simp; omega
        have hnf : ((L7 : Int) < (f : Int)) = False := by simp; omega
        have Hitem := Lib.hid hitem
        have Hev := Lib.hid hev
        clear hitem hev ht hdec hown o2 o3 o4 o5 o6 hbel hf0
        go_wp2_with fail
        refine (Hitem.out).mono ?_
        rintro e w2 ⟨rfl, rfl⟩
        clear Hitem
        go_wp2_with fail
        clear hsl hq0p hL7
        have HfL := Lib.hid hfl
        have Hsq := Lib.hid hsq
        go_loopw [12, 7] (CpSt w out f m) (fun v12 _ _ => m - (intOf v12).toNat)
        case atStart => exact ⟨0, rfl, by omega, Hown.out, Hbel.out⟩
        case round =>
          obtain ⟨k, rfl, hk, hown2, hbel2⟩ := hrel
          by_cases hkm : k < m
          · have hsucc := cp_succ out f k
            have hcl := cp_length out f k
            rw [HL7.out] at hcl
            rw [HL7.out] at hsucc
            obtain ⟨A2, c2, b2, rfl, u2, u3, u4, u5, u6⟩ := hown2.open
            have Hsucc := Lib.hid hsucc
            clear hsucc
            generalize cp out f k = o2 at *
            obtain ⟨l2, hl2⟩ : ∃ l2, o2.length = l2 := ⟨_, rfl⟩
            rw [hl2] at u2 u4 hcl hown2 ⊢
            obtain ⟨i, hi⟩ : ∃ i, l2 = i + f := ⟨l2 - f, by have := HfL.out; omega⟩
            obtain rfl := u4 (by omega)
            have hidx : (l2 : Int) - (f : Int) = (i : Int) := by omega
            have hcell : wr.cell? ⟨b2, i, none⟩ = some (.int .u8 ((bt o2 i : Nat) : Int)) := by have := u5.bt i (by omega); rwa [Nat.zero_add] at this
            have hi0 : (0 : Int) ≤ (i : Int) := by omega
            have hi1 : (i : Int) < (l2 : Int) := by omega
            have hx0 : ((bt o2 i : Nat) : Int) = (((o2.getD i 0).toNat : Nat) : Int) := rfl
            have hbl := (Below.refl wr.heap.size wr).alloc (Nat.le_refl _) (.cells #[.int .u8 ((bt o2 i : Nat) : Int)] 5)
            have hOwn2 := Lib.hid (hown2.below hbl)
            have hnew : Bs (wr.alloc (.cells #[.int .u8 ((bt o2 i : Nat) : Int)] 5)) wr.heap.size 0 [o2.getD i 0] := by
              intro j hj
              have hj0 : j = 0 := by simpa using hj
              subst hj0
              rw [cell_of_row _ _ _ _ _ _ (heap_alloc_new wr _)]
              rfl
            have Hnew := Lib.hid hnew
            have Hbel2 := Lib.hid (hbel2.trans (hbl.mono hbel2.size))
            have hsz2 : w.heap.size ≤ (wr.alloc (.cells #[.int .u8 ((bt o2 i : Nat) : Int)] 5)).heap.size := Hbel2.out.size
            have hol : o2.length + 1 ≤ 1099511627776 := by omega
            have Hsucc2 := Lib.hid (show cp out f (k + 1) = o2 ++ [o2.getD i 0] by rw [Hsucc.out, show L7 + k - f = i from by omega])
            generalize hxe : bt o2 i = xb at *
            have HL2 := Lib.hid hl2
            have HCL := Lib.hid hcl
            have hl2b : l2 ≤ 4294967296 := by omega
            have hwi : wrap64 (i : Int) = (i : Int) := by unfold wrap64; omega
            clear hnew hown2 hbel2 u2 u3 u4 u5 u6 hx0 hbl hl2 Hsucc hcl hi
            go_wp2_with (at_builtin; go_loud (refine wpList_app rfl (.tmp 64) (.tmp 72) rfl w.heap.size _ o2 rfl hOwn2.out wr.heap.size 0 1 1 [o2.getD i 0] rfl rfl Hnew.out hol hsz2 ?_); intro v' w' hown' hb'; have HO := Lib.hid hown'; have HB' := Lib.hid hb'; clear hown' hb')
            go_roundw
            case rel =>
              exact ⟨k + 1, int_ext (by omega), by omega, by rw [Hsucc2.out]; exact HO.out, Hbel2.out.trans HB'.out⟩
            case measure => simp only [intOf]; omega
          · obtain rfl : k = m := by omega
            have Hown2 := Lib.hid hown2
            have Hbel2 := Lib.hid hbel2
            clear hown2 hbel2
            go_wp2_with fail
            case roundEnd =>
              refine ⟨⟨s + q0, cp out f k, int_ext (by omega), by rw [Hl.out]; exact Hsq.out, Hown2.out, Hbel2.out, Hev.out⟩, ?_⟩
              have := Hq0.out
              simp only [intOf]
              omega
    · have hsrc : src.drop s = [] := List.drop_eq_nil_of_le (by rw [Hl.out]; omega)
      rw [hsrc] at hev
      have hfo : out = fin := by cases hev with | nil => rfl | cons hs' _ => simp [step] at hs'
      subst hfo
      obtain rfl : s = n := by omega
      obtain rfl : L7 = x := by rw [← HL7.out, Hfin.out]
      clear hev hsrc o2 o3 o4 o5 o6 hown hbel hL7
      go_wp2
      go_ret2
      exact ⟨_, rfl, Hown.out, Hbel.out⟩
end Go.Proofs.YtfnejblenapddaaDoor
