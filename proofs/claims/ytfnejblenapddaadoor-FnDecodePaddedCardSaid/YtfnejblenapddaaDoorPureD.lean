/- What a decoder does at a place of a block, in the words of the Go text. -/
import Derived.Test.YtfnejblenapddaaDoorPure2
namespace Go.Proofs.YtfnejblenapddaaDoor

/-- The byte at a place. -/
def bt (src : List UInt8) (i : Nat) : Nat := (src.getD i 0).toNat
theorem bt_lt (src : List UInt8) (i : Nat) : bt src i < 256 := (src.getD i 0).toNat_lt
theorem bt_get (src : List UInt8) (i : Nat) (h : i < src.length) : bt src i = src[i].toNat := by simp [bt, h]

theorem drop_at (src : List UInt8) (s : Nat) (h : s < src.length) : src.drop s = src[s] :: src.drop (s + 1) := List.drop_eq_getElem_cons h

theorem le_take (src : List UInt8) : ∀ (k p : Nat), p + k + 1 ≤ src.length → le ((src.drop p).take (k + 1)) = bt src p + 256 * le ((src.drop (p + 1)).take k)
  | k, p, h => by
    rw [drop_at src p (by omega), List.take_succ_cons]
    simp only [le]
    rw [bt_get src p (by omega)]

theorem le_take1 (src : List UInt8) (p : Nat) (h : p + 1 ≤ src.length) : le ((src.drop p).take 1) = bt src p := by
  rw [le_take src 0 p h]; simp [le]
theorem le_take2 (src : List UInt8) (p : Nat) (h : p + 2 ≤ src.length) : le ((src.drop p).take 2) = bt src p + bt src (p + 1) * 256 := by
  rw [le_take src 1 p h, le_take1 src (p + 1) (by omega)]; omega
theorem le_take3 (src : List UInt8) (p : Nat) (h : p + 3 ≤ src.length) : le ((src.drop p).take 3) = bt src p + bt src (p + 1) * 256 + bt src (p + 2) * 65536 := by
  rw [le_take src 2 p h, le_take2 src (p + 1) (by omega), show p + 1 + 1 = p + 2 from rfl]; omega
theorem le_take4 (src : List UInt8) (p : Nat) (h : p + 4 ≤ src.length) : le ((src.drop p).take 4) = bt src p + bt src (p + 1) * 256 + bt src (p + 2) * 65536 + bt src (p + 3) * 16777216 := by
  rw [le_take src 3 p h, le_take3 src (p + 1) (by omega), show p + 1 + 1 = p + 2 from rfl, show p + 1 + 2 = p + 3 from rfl]; omega

/-- An element whose bytes are not all there. -/
theorem D_short {N s k : Nat} {src out : List UInt8} (hs : s < src.length) (hk : ∀ b : UInt8, b.toNat = bt src s → ext b = k) (h : src.length < s + 1 + k) : D N (src.drop s) out = none := by
  have hd := drop_at src s hs
  refine D_none ?_ (by rw [hd]; exact List.cons_ne_nil _ _)
  rw [hd]
  simp only [step]
  rw [hk _ (bt_get src s hs).symm, if_pos (by simp; omega)]

/-- A literal. -/
theorem D_lit {N s k s1 m : Nat} {src out : List UInt8} (hs : s < src.length) (ht : bt src s % 4 = 0) (hk : ∀ b : UInt8, b.toNat = bt src s → ext b = k) (hs1 : s1 = s + 1 + k) (hl : s1 ≤ src.length)
    (hm : ∀ b : UInt8, b.toNat = bt src s → eln b ((src.drop (s + 1)).take k) = m) :
    D N (src.drop s) out = if src.length < s1 + m then none else if N < out.length + m then none else D N (src.drop (s1 + m)) (out ++ (src.drop s1).take m) := by
  subst hs1
  have hd := drop_at src s hs
  have hb := (bt_get src s hs).symm
  have e1 : (src.drop (s + 1)).drop k = src.drop (s + 1 + k) := by rw [List.drop_drop]
  have hstep : step (src.drop s) out = if src.length < s + 1 + k + m then none else some (src.drop (s + 1 + k + m), out ++ (src.drop (s + 1 + k)).take m) := by
    rw [hd]
    simp only [step]
    rw [hk _ hb, if_neg (by simp; omega), if_pos (by omega), hm _ hb, e1]
    by_cases h : src.length < s + 1 + k + m
    · rw [if_pos (by simp; omega), if_pos h]
    · rw [if_neg (by simp; omega), if_neg h, List.drop_drop]
  by_cases h : src.length < s + 1 + k + m
  · rw [if_pos h] at hstep ⊢
    exact D_none hstep (by rw [hd]; exact List.cons_ne_nil _ _)
  · rw [if_neg h] at hstep ⊢
    rw [D_some hstep]
    have hl2 : (out ++ (src.drop (s + 1 + k)).take m).length = out.length + m := by simp; omega
    rw [hl2]

/-- A copy. -/
theorem D_cp {N s k s1 f m : Nat} {src out : List UInt8} (hs : s < src.length) (ht : bt src s % 4 ≠ 0) (hk : ∀ b : UInt8, b.toNat = bt src s → ext b = k) (hs1 : s1 = s + 1 + k) (hl : s1 ≤ src.length)
    (hm : ∀ b : UInt8, b.toNat = bt src s → eln b ((src.drop (s + 1)).take k) = m) (hf : ∀ b : UInt8, b.toNat = bt src s → far b ((src.drop (s + 1)).take k) = f) :
    D N (src.drop s) out = if f = 0 ∨ out.length < f then none else if N < out.length + m then none else D N (src.drop s1) (cp out f m) := by
  subst hs1
  have hd := drop_at src s hs
  have hb := (bt_get src s hs).symm
  have e1 : (src.drop (s + 1)).drop k = src.drop (s + 1 + k) := by rw [List.drop_drop]
  have hstep : step (src.drop s) out = if f = 0 ∨ out.length < f then none else some (src.drop (s + 1 + k), cp out f m) := by
    rw [hd]
    simp only [step]
    rw [hk _ hb, if_neg (by simp; omega), if_neg (by omega), hm _ hb, hf _ hb, e1]
  by_cases h : f = 0 ∨ out.length < f
  · rw [if_pos h] at hstep ⊢
    exact D_none hstep (by rw [hd]; exact List.cons_ne_nil _ _)
  · rw [if_neg h] at hstep ⊢
    rw [D_some hstep, cp_length]

theorem cp_succ (out : List UInt8) (f j : Nat) : cp out f (j + 1) = cp out f j ++ [(cp out f j).getD (out.length + j - f) 0] := by
  simp only [cp, cp_length]

end Go.Proofs.YtfnejblenapddaaDoor
