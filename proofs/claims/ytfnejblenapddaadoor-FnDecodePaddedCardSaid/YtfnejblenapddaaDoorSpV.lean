/- The description's Varint and Body. -/
import Derived.Test.YtfnejblenapddaaDoorSpH
set_option linter.unusedVariables false
namespace Go.Proofs.YtfnejblenapddaaDoor
open Go Go.RowKit

/-- Bytes appended to a slice of the call's own. -/
theorem wpList_app {w : World} {ops : Array Oper} {rest : List Oper} {o : Oper} {a : Act} {Q : Exit → Act → World → Prop} (hgd : o.guard = none) (s x : Operand)
    (ho : o.op = .call { callee := .builtin .append, args := #[s, x], argTypes := #[22, 22] }) (B : Nat) (v : Value) (out : List UInt8) (hs : a.eval s = v) (hown : Own B w v out)
    (g off m c : Nat) (news : List UInt8) (hx : a.eval x = .slice (some ⟨g, off, none⟩) m c) (hm : news.length = m) (hnews : Bs w g off news) (hlen : out.length + m ≤ 1099511627776) (hB : B ≤ w.heap.size)
    (h : ∀ v' w', Own B w' v' (out ++ news) → Below B w w' → wpList Tryd.prog ops Q rest (a.put o.dst v') w') : wpList Tryd.prog ops Q (o :: rest) a w := by
  obtain ⟨i, hi, hz, hsz, hby⟩ := info_parts5
  refine wpList_append_own w hgd s x 22 ho B 5 i (.int .u8 0) 1 1 Tryd.underlying22 hi hz hsz hby rfl (by decide) v out.length (bc out) hs hown ⟨g, off, none⟩ m c (bc news) hx (by rw [bc_length, hm, Nat.mul_one]) hnews.src (bc_oneCell news) (by simp only [maxLen]; omega) (by omega) hB ?_
  intro v' w' hown' hg _
  refine h v' w' ?_ ((Below.refl B w).grown hg hB (fun k hk => ?_))
  · unfold Own
    rw [bc_append, List.length_append, hm]
    exact hown'
  · obtain ⟨h1, h2⟩ := hown
    rcases h2 with ⟨rfl, h0⟩ | ⟨g', cap, cur, rfl, hb, hg', hn, hc, hs', ht⟩
    · cases hk
    · have hk' : some g' = some k := hk
      simp only [Option.some.injEq] at hk'
      omega

/-- One new byte. -/
theorem bs_one (w : World) (z : Int) (b : UInt8) (h : z = ((b.toNat : Nat) : Int)) : Bs (w.alloc (.cells #[.int .u8 z] 5)) w.heap.size 0 [b] := by
  intro j hj
  have hj0 : j = 0 := by simpa using hj
  subst hj0
  rw [cell_of_row _ _ _ _ _ _ (heap_alloc_new w _), h]
  rfl

def VaInv (w : World) (x : Nat) (v0 v3 : Value) (wr : World) : Prop :=
  ∃ (xk : Nat) (pre : List UInt8), v0 = .int .i64 (xk : Int) ∧ xk ≤ x ∧ Lib.uvarint x = pre ++ Lib.uvarint xk ∧ Own w.heap.size wr v3 pre ∧ Below w.heap.size w wr

set_option maxRecDepth 10000 in
set_option maxHeartbeats 1600000 in
theorem varint_any (x : Nat) (w : World) (hx : x ≤ 4294967295) : Calls Tryd.prog 22 #[.int .i64 (x : Int)] w fun e w' => ∃ v', e = .returned v' ∧ Own w.heap.size w' v' (Lib.uvarint x) ∧ Below w.heap.size w w' := by
  have hlen := Lib.uvarint_length64 (x := x) (by omega)
  have Hlen := Lib.hid hlen
  clear hlen
  go_enter Tryd.func22, Tryd.ntmps22
  go_wp2
  go_loopw [0, 3] (VaInv w x) (fun v0 _ _ => (intOf v0).toNat)
  case atStart => exact ⟨x, [], rfl, Nat.le_refl _, rfl, World.ownsRow_nil _ _ _ _, Below.refl _ _⟩
  case round =>
    obtain ⟨xk, pre, rfl, hxk, hu, hown, hbel⟩ := hrel
    have h1 := congrArg List.length hu
    rw [List.length_append] at h1
    have hpl : pre.length + 1 ≤ 1099511627776 := by have := Hlen.out; omega
    by_cases hb : 128 ≤ xk
    · have hz : ((xk : Int) % 128 + 128) = ((((xk % 128 + 128).toUInt8).toNat : Nat) : Int) := by rw [u8_nat_cast _ (by omega)]; omega
      have hbl := (Below.refl wr.heap.size wr).alloc (Nat.le_refl _) (.cells #[.int .u8 ((xk : Int) % 128 + 128)] 5)
      have HO1 := Lib.hid (hown.below hbl)
      have Hnew := Lib.hid (bs_one wr ((xk : Int) % 128 + 128) (xk % 128 + 128).toUInt8 hz)
      have HB1 := Lib.hid (hbel.trans (hbl.mono hbel.size))
      have Hu := Lib.hid hu
      have hsz : w.heap.size ≤ (wr.alloc (.cells #[.int .u8 ((xk : Int) % 128 + 128)] 5)).heap.size := HB1.out.size
      clear hz hbl hu hown hbel h1
      go_wp2_with (at_builtin; go_loud (refine wpList_app rfl (.tmp 6) (.tmp 11) rfl w.heap.size _ pre rfl HO1.out wr.heap.size 0 1 1 [(xk % 128 + 128).toUInt8] rfl rfl Hnew.out hpl hsz ?_); intro v' w' hown' hb'; have HO := Lib.hid hown'; have HB' := Lib.hid hb'; clear hown' hb')
      go_roundw
      case rel =>
        exact ⟨xk / 128, pre ++ [(xk % 128 + 128).toUInt8], int_ext (by omega), by omega, by rw [Hu.out, Lib.uvarint_big hb]; simp, HO.out, HB1.out.trans HB'.out⟩
      case measure => simp only [intOf]; omega
    · have hz : (xk : Int) = ((((xk).toUInt8).toNat : Nat) : Int) := by rw [u8_nat_cast _ (by omega)]
      have hbl := (Below.refl wr.heap.size wr).alloc (Nat.le_refl _) (.cells #[.int .u8 (xk : Int)] 5)
      have HO1 := Lib.hid (hown.below hbl)
      have Hnew := Lib.hid (bs_one wr (xk : Int) (xk).toUInt8 hz)
      have HB1 := Lib.hid (hbel.trans (hbl.mono hbel.size))
      have Hu := Lib.hid hu
      have hsz : w.heap.size ≤ (wr.alloc (.cells #[.int .u8 (xk : Int)] 5)).heap.size := HB1.out.size
      clear hz hbl hu hown hbel h1
      go_wp2_with (at_builtin; go_loud (refine wpList_app rfl (.tmp 15) (.tmp 18) rfl w.heap.size _ pre rfl HO1.out wr.heap.size 0 1 1 [(xk).toUInt8] rfl rfl Hnew.out hpl hsz ?_); intro v' w' hown' hb'; have HO := Lib.hid hown'; have HB' := Lib.hid hb'; clear hown' hb')
      go_ret
      refine ⟨_, rfl, ?_, HB1.out.trans HB'.out⟩
      rw [Hu.out, Lib.uvarint_small (by omega)]
      exact HO.out

set_option maxHeartbeats 800000 in
/-- Body of what has a length in front. -/
theorem body_any (v : Value) (h E : List UInt8) (x : Nat) (w : World) (hh : Hdr h x) (h5 : h.length ≤ 5) (hx : x ≤ 4294967295) (hR : Rd w v (h ++ E)) (hn : (h ++ E).length ≤ 1099511627776) :
    Calls Tryd.prog 15 #[v] w fun e w' => ∃ v', e = .returned v' ∧ Rd w' v' E ∧ Drew w w' := by
  obtain ⟨A, c, rfl, h2, h3, h4, h6⟩ := hR
  have hp := hh.pos
  have hlen : (h ++ E).length = h.length + E.length := List.length_append
  obtain ⟨b, off, rfl, hB⟩ := h6 (by omega)
  have hj : h.length - 1 + 1 = h.length := by omega
  have hval : v7 ((h ++ E).take (h.length - 1 + 1)) = x := by rw [hj, List.take_left' rfl, hh.val]
  have hd := head_any (some ⟨b, off, none⟩) c (h ++ E).length (h.length - 1) (h ++ E) w rfl ⟨_, c, rfl, h2, h3, h4, h6⟩ hn (by omega) (by omega)
    (fun i hi => by rw [bt_append_left _ _ _ (by omega)]; exact hh.pre i (by omega)) (by rw [bt_append_left _ _ _ (by omega)]; exact hh.last) (by rw [hval]; exact hx)
  rw [hval, hj] at hd
  obtain ⟨B, hB1, hsl⟩ := slice_from_le b off (h ++ E).length c h.length (by omega) h2
  have hBd := hB.drop h.length
  rw [List.drop_left' rfl] at hBd
  have HBd := Lib.hid hBd
  have HB1 := Lib.hid hB1
  have Hd := Lib.hid hd
  obtain ⟨q, hq⟩ : ∃ q, h.length = q := ⟨_, rfl⟩
  obtain ⟨n, hn0⟩ : ∃ n, (h ++ E).length = n := ⟨_, rfl⟩
  rw [hq] at hsl HBd HB1 Hd hlen
  rw [hn0] at hsl HB1 Hd hlen h2 ⊢
  have Hlen := Lib.hid hlen
  clear hd hB1 hBd hB h6 h4 hval hj hp hn hh h5 hlen hq hn0
  go_enter Tryd.func15, Tryd.ntmps15
  go_wp2_with fail
  refine (Hd.out).mono ?_
  rintro e w1 ⟨hdr, rfl⟩
  have Hdr := Lib.hid hdr
  clear hdr Hd
  go_wp2_with fail
  go_ret
  have hl := Hlen.out
  refine ⟨_, rfl, ⟨B, c - q, ?_, by omega, by omega, fun hB0 => ?_, fun h => ⟨b, off + q, HB1.out (by omega), HBd.out.below (Hdr.out.below _)⟩⟩, Hdr.out⟩
  · rw [show E.length = n - q from by omega]; rfl
  · rcases Nat.eq_zero_or_pos E.length with h0 | h0
    · exact List.eq_nil_of_length_eq_zero h0
    · exact absurd (hB0.symm.trans (HB1.out (by omega))) (by simp)
end Go.Proofs.YtfnejblenapddaaDoor
