/- FnJoin: what its walk leans on. -/
import Derived.Test.YtfnejblenapddaaDoorSpV
import Derived.Test.YtfnejblenapddaaDoorSndF
import Derived.Laws.AppendOwnNone
set_option linter.unusedVariables false
namespace Go.Proofs.YtfnejblenapddaaDoor
open Go Go.RowKit

/-- A slice that an append may take its bytes of. -/
def Arg (v : Value) : Prop := v = .slice none 0 0 ∨ ∃ a l c, v = .slice (some a) l c

theorem Own.blockLt {base : Nat} {w : World} {v : Value} {bs : List UInt8} (h : Own base w v bs) (k : Nat) (hk : v.ownBlock = some k) : k < w.heap.size := by
  obtain ⟨h1, h2⟩ := h
  rcases h2 with ⟨rfl, h0⟩ | ⟨g, cap, cur, rfl, hb, hg, hn, hc, hs, ht⟩
  · cases hk
  · have hk' : some g = some k := hk
    simp only [Option.some.injEq] at hk'
    subst hk'
    exact (Array.getElem?_eq_some_iff.1 hg).1

/-- Bytes of any slice appended to a slice of the call's own. -/
theorem wpList_appA {w : World} {ops : Array Oper} {rest : List Oper} {o : Oper} {a : Act} {Q : Exit → Act → World → Prop} (hgd : o.guard = none) (s x : Operand)
    (ho : o.op = .call { callee := .builtin .append, args := #[s, x], argTypes := #[22, 22] }) (B : Nat) (v : Value) (out : List UInt8) (hs : a.eval s = v) (hown : Own B w v out)
    (vx : Value) (news : List UInt8) (hx : a.eval x = vx) (hR : Rd w vx news) (hA : Arg vx) (hlen : out.length + news.length ≤ 1099511627776) (hB : B ≤ w.heap.size)
    (h : ∀ v' w', Own B w' v' (out ++ news) → Below B w w' → w.grownBy w' v.ownBlock → wpList Tryd.prog ops Q rest (a.put o.dst v') w') : wpList Tryd.prog ops Q (o :: rest) a w := by
  obtain ⟨i, hi, hz, hsz, hby⟩ := info_parts5
  obtain ⟨A, c, rfl, r1, r2, r3, r4⟩ := hR
  rcases hA with hA | ⟨ad, l, c', hA⟩
  · simp only [Value.slice.injEq] at hA
    obtain ⟨rfl, hl0, rfl⟩ := hA
    have hn : news = [] := List.eq_nil_of_length_eq_zero hl0
    subst hn
    refine wpList_append_own_none hgd s x 22 ho B 5 i 1 Tryd.underlying22 hi v out.length (bc out) hs hown hx ?_
    exact h v w (by rw [List.append_nil]; exact hown) (Below.refl _ _) (gb_refl _ _)
  · simp only [Value.slice.injEq] at hA
    obtain ⟨rfl, hl0, rfl⟩ := hA
    refine wpList_append_own w hgd s x 22 ho B 5 i (.int .u8 0) 1 1 Tryd.underlying22 hi hz hsz hby rfl (by decide) v out.length (bc out) hs hown ad news.length c (bc news) hx (by rw [bc_length, Nat.mul_one]) ?_ (bc_oneCell news) (by simp only [maxLen]; omega) (by omega) hB ?_
    · intro j u hu
      have hj : j < news.length := by
        have := (List.getElem?_eq_some_iff.1 hu).1
        simpa [bc] using this
      obtain ⟨b, off, he, hBs⟩ := r4 (by omega)
      simp only [Option.some.injEq] at he
      subst he
      exact hBs.src j u hu
    · intro v' w' hown' hg _
      refine h v' w' ?_ ((Below.refl B w).grown hg hB (fun k hk => ?_)) hg
      · unfold Own
        rw [bc_append, List.length_append]
        exact hown'
      · obtain ⟨h1, h2⟩ := hown
        rcases h2 with ⟨rfl, h0⟩ | ⟨g', cap, cur, rfl, hb, hg', hn, hc, hs', ht⟩
        · cases hk
        · have hk' : some g' = some k := hk
          simp only [Option.some.injEq] at hk'
          omega

theorem slice_from_le2 (g o n c l : Nat) (h : l ≤ n) (hc : n ≤ c) : ∃ B, (l < n → B = ⟨g, o + l, none⟩) ∧ True ∧ ∀ W, (Instr.slice 22 (.slice (some ⟨g, o, none⟩) n c) (some (.int .i64 (l : Int))) none none).run Tryd.prog W = .ok (.slice (some B) (n - l) (c - l)) W := by
  by_cases hlc : l = c
  · subst hlc
    have hn : n = l := by omega
    subst hn
    refine ⟨⟨g, o, none⟩, fun h => absurd h (by omega), trivial, fun W => ?_⟩
    rw [run_slice_l (P := Tryd.prog) W 22 _ n n elem22 .i64 _ (by omega) (by omega), elem22', run_size5]
    simp [sliced]
  · exact ⟨_, fun _ => rfl, trivial, slice_from g o n c l h hlc⟩

theorem varint_at (j : Int) (x : Nat) (w : World) (hj : j = (x : Int)) (hx : x ≤ 4294967295) : Calls Tryd.prog 22 #[.int .i64 j] w fun e w' => ∃ v', e = .returned v' ∧ Own w.heap.size w' v' (Lib.uvarint x) ∧ Below w.heap.size w w' := by
  subst hj
  exact varint_any x w hx

set_option maxHeartbeats 800000 in
/-- Body of what has a length in front. -/
theorem bodyA_any (v : Value) (h E : List UInt8) (x : Nat) (w : World) (hh : Hdr h x) (h5 : h.length ≤ 5) (hx : x ≤ 4294967295) (hR : Rd w v (h ++ E)) (hn : (h ++ E).length ≤ 1099511627776) :
    Calls Tryd.prog 15 #[v] w fun e w' => ∃ v', e = .returned v' ∧ Rd w' v' E ∧ Drew w w' ∧ Arg v' := by
  obtain ⟨A, c, rfl, h2, h3, h4, h6⟩ := hR
  have hp := hh.pos
  have hlen : (h ++ E).length = h.length + E.length := List.length_append
  obtain ⟨b, off, rfl, hB⟩ := h6 (by omega)
  have hj : h.length - 1 + 1 = h.length := by omega
  have hval : v7 ((h ++ E).take (h.length - 1 + 1)) = x := by rw [hj, List.take_left' rfl, hh.val]
  have hd := head_any (some ⟨b, off, none⟩) c (h ++ E).length (h.length - 1) (h ++ E) w rfl ⟨_, c, rfl, h2, h3, h4, h6⟩ hn (by omega) (by omega)
    (fun i hi => by rw [bt_append_left _ _ _ (by omega)]; exact hh.pre i (by omega)) (by rw [bt_append_left _ _ _ (by omega)]; exact hh.last) (by rw [hval]; exact hx)
  rw [hval, hj] at hd
  obtain ⟨B, hB1, hBn, hsl⟩ := slice_from_le2 b off (h ++ E).length c h.length (by omega) h2
  have hBd := hB.drop h.length
  rw [List.drop_left' rfl] at hBd
  have HBd := Lib.hid hBd
  have HB1 := Lib.hid hB1
  have Hd := Lib.hid hd
  obtain ⟨q, hq⟩ : ∃ q, h.length = q := ⟨_, rfl⟩
  obtain ⟨n, hn0⟩ : ∃ n, (h ++ E).length = n := ⟨_, rfl⟩
  rw [hq] at hsl HBd HB1 Hd hlen
  rw [hn0] at hsl HB1 Hd hlen h2 ⊢
  have Hlen := Lib.hid hlen
  clear hBn hd hB1 hBd hB h6 h4 hval hj hp hn hh h5 hlen hq hn0
  go_enter Tryd.func15, Tryd.ntmps15
  go_wp2_with fail
  refine (Hd.out).mono ?_
  rintro e w1 ⟨hdr, rfl⟩
  have Hdr := Lib.hid hdr
  clear hdr Hd
  go_wp2_with fail
  go_ret
  have hl := Hlen.out
  refine ⟨_, rfl, ⟨some B, c - q, ?_, by omega, by omega, (fun hB0 => by cases hB0), fun h => ⟨b, off + q, by rw [HB1.out (by omega)], HBd.out.below (Hdr.out.below _)⟩⟩, Hdr.out, .inr ⟨B, _, _, rfl⟩⟩
  rw [show E.length = n - q from by omega]; rfl

end Go.Proofs.YtfnejblenapddaaDoor
