/- slices.Clone: the same bytes in memory of the call's own. -/
import Derived.Test.YtfnejblenapddaaDoorEmit
import Derived.OwnWalk
import Derived.WalkSpells
set_option linter.unusedVariables false
namespace Go.Proofs.YtfnejblenapddaaDoor
open Go Go.RowKit

/-- A slice that reads as these bytes. -/
def Rd (w : World) (v : Value) (bs : List UInt8) : Prop :=
  ∃ A c, v = .slice A bs.length c ∧ bs.length ≤ c ∧ c ≤ 9223372036854775807 ∧ (A = none → bs = []) ∧ (0 < bs.length → ∃ b off, A = some ⟨b, off, none⟩ ∧ Bs w b off bs)

/-- A slice of the call's own that holds these bytes. -/
def Own (base : Nat) (w : World) (v : Value) (bs : List UInt8) : Prop := w.ownsRow base 5 1 v bs.length (bc bs)

theorem Rd.below {w w' : World} {v : Value} {bs : List UInt8} (h : Rd w v bs) (hb : Below w.heap.size w w') : Rd w' v bs := by
  obtain ⟨A, c, h1, h2, h3, h4, h5⟩ := h
  refine ⟨A, c, h1, h2, h3, h4, fun hp => ?_⟩
  obtain ⟨b, off, h6, h7⟩ := h5 hp
  exact ⟨b, off, h6, h7.below hb⟩
theorem Own.rd {base : Nat} {w : World} {v : Value} {bs : List UInt8} (h : Own base w v bs) : Rd w v bs := by
  obtain ⟨h1, h2⟩ := h
  rcases h2 with ⟨rfl, h0⟩ | ⟨g, cap, cur, rfl, hb, hg, hn, hc, hs, ht⟩
  · exact ⟨none, 0, by rw [h0], by omega, by omega, fun _ => List.eq_nil_of_length_eq_zero h0, fun hp => by omega⟩
  · refine ⟨_, cap, rfl, hn, by simpa [maxLen] using hc, (fun h => by cases h), fun hp => ⟨g, 0, rfl, ?_⟩⟩
    have hB : Blk w g cur.toList := by unfold Blk; simpa using hg
    refine hB.toBs 0 (by simp; omega) ?_
    simpa using ht
theorem Own.below {base : Nat} {w w' : World} {v : Value} {bs : List UInt8} (h : Own base w v bs) (hb : Below w.heap.size w w') : Own base w' v bs :=
  World.ownsRow.kept h (gb_below hb none) (by cases v.ownBlock <;> simp)

theorem info_parts5 : ∃ i, Tryd.prog.info? 5 = some i ∧ i.zero = some (.int .u8 0) ∧ i.size = 1 ∧ i.bytes = 1 := by
  have h : (Tryd.prog.info? 5).map (fun i => (i.zero, i.size, i.bytes)) = some (some (.int .u8 0), 1, 1) := by kernel_rfl
  cases hi : Tryd.prog.info? 5 with
  | none => rw [hi] at h; simp at h
  | some i =>
    rw [hi] at h
    simp at h
    exact ⟨i, rfl, h.1, h.2.1, h.2.2⟩

/-- What Clone leaves. -/
def Cloned (w : World) (bs : List UInt8) (e : Ending) (w' : World) : Prop := ∃ v', e = .returned v' ∧ Own w.heap.size w' v' bs ∧ Below w.heap.size w w'

set_option maxHeartbeats 400000 in
theorem clone_any (v : Value) (bs : List UInt8) (w : World) (hR : Rd w v bs) (hl : bs.length ≤ 1099511627776) : Calls Tryd.prog 27 #[v] w (Cloned w bs) := by
  obtain ⟨A, c, rfl, h2, h3, h4, h5⟩ := hR
  cases A with
  | none =>
    have hb := h4 rfl
    subst hb
    have hrun := fun W : World => Lib.run_eql_slice_nil (P := Tryd.prog) W 22 5 none 0 c 0 0 Tryd.underlying22
    go_enter Tryd.func27, Tryd.ntmps27
    go_wp2
    go_ret
    exact ⟨_, rfl, World.ownsRow_nil _ _ _ _, Below.refl _ _⟩
  | some a =>
    have hrun := fun W : World => Lib.run_eql_slice_nil (P := Tryd.prog) W 22 5 (some a) bs.length c 0 0 Tryd.underlying22
    obtain ⟨i, hi, hz, hs, hby⟩ := info_parts5
    have hown : (w.alloc (.cells #[] 5)).ownsRow w.heap.size 5 1 (.slice (some ⟨w.heap.size, 0, none⟩) 0 0) 0 [] := World.ownsRow_made w #[] 0 (Nat.le_refl _) (by simp [maxLen]) rfl
    have hbl := (Below.refl w.heap.size w).alloc (Nat.le_refl _) (.cells #[] 5)
    have hnews : ∀ j u, (bc bs)[j]? = some u → (w.alloc (.cells #[] 5)).cell? (a.add j) = some u := by
      intro j u hu
      have hj : j < bs.length := by
        have := (List.getElem?_eq_some_iff.1 hu).1
        simpa [bc] using this
      obtain ⟨b, off, he, hB⟩ := h5 (by omega)
      cases he
      exact (hB.below hbl).src j u hu
    have h6 : 0 + bs.length ≤ maxLen := by simp only [maxLen]; omega
    have h7 : (0 + bs.length) * 1 ≤ 140737488355328 := by omega
    have h8 : w.heap.size ≤ (w.alloc (.cells #[] 5)).heap.size := hbl.size
    have hbl1 : (bc bs).length = bs.length * 1 := by rw [bc_length]; omega
    have Hi := Lib.hid hi
    have Hz := Lib.hid hz
    have Hs := Lib.hid hs
    have Hby := Lib.hid hby
    have Hbl1 := Lib.hid hbl1
    have Hnews := Lib.hid hnews
    clear hi hz hs hby hnews hbl1
    go_enter Tryd.func27, Tryd.ntmps27
    go_wp2_with (at_builtin; refine wpList_append_own _ rfl (.tmp 5) (.tmp 6) 22 rfl w.heap.size 5 i (.int .u8 0) 1 1 Tryd.underlying22 Hi.out Hz.out Hs.out Hby.out rfl (by decide) _ 0 [] rfl hown a bs.length c (bc bs) rfl Hbl1.out Hnews.out (bc_oneCell bs) h6 h7 h8 ?_; intro v' w' hown' hg _)
    go_ret
    simp only [Nat.zero_add, List.nil_append] at hown'
    exact ⟨v', rfl, hown', hbl.grown hg h8 (fun k hk => by have hk' : some w.heap.size = some k := hk; simp only [Option.some.injEq] at hk'; omega)⟩
end Go.Proofs.YtfnejblenapddaaDoor
