/- The length at the front of a block: seven bits a byte. -/
import Derived.Test.YtfnejblenapddaaDoorPureD
import Derived.Lib.Varint
namespace Go.Proofs.YtfnejblenapddaaDoor
open Go

/-- What bytes tell of which each tells seven bits. -/
def v7 : List UInt8 → Nat
  | [] => 0
  | b :: r => b.toNat % 128 + 128 * v7 r

theorem v7_append (a : List UInt8) : ∀ b, v7 (a ++ b) = v7 a + 128 ^ a.length * v7 b := by
  induction a with
  | nil => intro b; simp [v7]
  | cons x r ih =>
    intro b
    simp only [List.cons_append, v7, ih, List.length_cons, Nat.pow_succ]
    rw [Nat.mul_add, ← Nat.mul_assoc, Nat.mul_comm 128 (128 ^ r.length)]
    omega
theorem v7_lt (a : List UInt8) : v7 a < 128 ^ a.length := by
  induction a with
  | nil => simp [v7]
  | cons x r ih =>
    simp only [v7, List.length_cons, Nat.pow_succ]
    have := Nat.mod_lt x.toNat (show 0 < 128 by decide)
    have h2 : 128 * v7 r + 128 ≤ 128 ^ r.length * 128 := by
      have : v7 r + 1 ≤ 128 ^ r.length := ih
      have := Nat.mul_le_mul_left 128 this
      omega
    omega
theorem v7_take (bs : List UInt8) (k : Nat) (h : k < bs.length) : v7 (bs.take (k + 1)) = v7 (bs.take k) + 128 ^ k * (bt bs k % 128) := by
  rw [List.take_succ_eq_append_getElem h, v7_append, bt_get bs k h]
  simp only [v7, List.length_take]
  rw [Nat.min_eq_left (by omega), Nat.mul_zero, Nat.add_zero]

/-- A length at the front: all bytes but the last have the highest bit. -/
structure Hdr (h : List UInt8) (x : Nat) : Prop where
  pos : 0 < h.length
  pre : ∀ i, i + 1 < h.length → 128 ≤ bt h i
  last : bt h (h.length - 1) < 128
  val : v7 h = x

theorem bt_cons (b : UInt8) (r : List UInt8) (i : Nat) : bt (b :: r) (i + 1) = bt r i := by simp [bt]
theorem bt_cons0 (b : UInt8) (r : List UInt8) : bt (b :: r) 0 = b.toNat := by simp [bt]
theorem bt_append (a b : List UInt8) (i : Nat) (h : i < a.length) : bt (a ++ b) i = bt a i := by
  simp [bt, List.getElem?_append_left h]

theorem Hdr.one (x : Nat) (h : x < 128) : Hdr [x.toUInt8] x := by
  have e : (x.toUInt8).toNat = x := by simp [Nat.toUInt8]; omega
  refine ⟨by simp, fun i hi => by simp at hi, by simp [bt_cons0, e]; exact h, by simp [v7, e]; omega⟩
theorem Hdr.cons {r : List UInt8} {x : Nat} (b : UInt8) (hb : 128 ≤ b.toNat) (h : Hdr r x) : Hdr (b :: r) (b.toNat % 128 + 128 * x) := by
  have hp := h.pos
  refine ⟨by simp, fun i hi => ?_, ?_, by simp [v7, h.val]⟩
  · cases i with
    | zero => rw [bt_cons0]; exact hb
    | succ i => rw [bt_cons]; exact h.pre i (by simpa using hi)
  · obtain ⟨m, hm⟩ : ∃ m, r.length = m + 1 := ⟨r.length - 1, by omega⟩
    have := h.last
    rw [hm] at this
    simp only [List.length_cons, hm, Nat.add_sub_cancel] at this ⊢
    rw [bt_cons]
    exact this
theorem hdr_uvarint (x : Nat) : Hdr (Lib.uvarint x) x := by
  induction x using Nat.strongRecOn with
  | _ x ih =>
    by_cases h : x < 128
    · rw [Lib.uvarint_small h]; exact Hdr.one x h
    · rw [Lib.uvarint_big (by omega)]
      have e : ((x % 128 + 128).toUInt8).toNat = x % 128 + 128 := by simp [Nat.toUInt8]; omega
      have := (ih (x / 128) (by omega)).cons (x % 128 + 128).toUInt8 (by rw [e]; omega)
      rw [e] at this
      rw [show (x % 128 + 128) % 128 + 128 * (x / 128) = x from by omega] at this
      exact this

end Go.Proofs.YtfnejblenapddaaDoor
