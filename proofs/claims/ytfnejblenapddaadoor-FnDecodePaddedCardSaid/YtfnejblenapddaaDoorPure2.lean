/- The elements that an encoder of the snappy format writes: what each of them says. -/
import Derived.Test.YtfnejblenapddaaDoorPure
namespace Go.Proofs.YtfnejblenapddaaDoor

/-- k bytes of a number, the low ones first. -/
def leB : Nat → Nat → List UInt8
  | 0, _ => []
  | k + 1, n => UInt8.ofNat (n % 256) :: leB k (n / 256)

theorem leB_length (k n : Nat) : (leB k n).length = k := by
  induction k generalizing n with
  | zero => rfl
  | succ k ih => simp [leB, ih]

theorem toNat_ofNat (n : Nat) (h : n < 256) : (UInt8.ofNat n).toNat = n := by
  simp [Nat.mod_eq_of_lt h]

theorem le_leB (k n : Nat) (h : n < 256 ^ k) : le (leB k n) = n := by
  induction k generalizing n with
  | zero => simp at h; subst h; rfl
  | succ k ih =>
    have h2 : n / 256 < 256 ^ k := by
      rw [Nat.pow_succ] at h
      exact Nat.div_lt_of_lt_mul (by rw [Nat.mul_comm]; exact h)
    simp only [leB, le, ih _ h2]
    rw [toNat_ofNat _ (Nat.mod_lt _ (by decide))]
    omega

theorem step_lit0 (l t out : List UInt8) (h1 : 1 ≤ l.length) (h2 : l.length ≤ 60) : step (UInt8.ofNat ((l.length - 1) * 4) :: (l ++ t)) out = some (t, out ++ l) := by
  have hb : (UInt8.ofNat ((l.length - 1) * 4)).toNat = (l.length - 1) * 4 := toNat_ofNat _ (by omega)
  generalize UInt8.ofNat ((l.length - 1) * 4) = b at hb
  have he : ext b = 0 := by unfold ext; rw [if_pos (by omega), if_pos (by omega)]
  have hn : ∀ x, eln b x = l.length := by intro x; unfold eln; rw [if_pos (by omega), if_pos (by omega)]; omega
  simp only [step]
  rw [he, hn, if_neg (by omega), if_pos (by omega), if_neg (by simp)]
  simp

theorem step_litk (k : Nat) (l t out : List UInt8) (h1 : 1 ≤ l.length) (hk1 : 1 ≤ k) (hk : k ≤ 4) (h2 : l.length - 1 < 256 ^ k) :
    step (UInt8.ofNat ((59 + k) * 4) :: (leB k (l.length - 1) ++ (l ++ t))) out = some (t, out ++ l) := by
  have hb : (UInt8.ofNat ((59 + k) * 4)).toNat = (59 + k) * 4 := toNat_ofNat _ (by omega)
  generalize UInt8.ofNat ((59 + k) * 4) = b at hb
  have hl := leB_length k (l.length - 1)
  have he : ext b = k := by unfold ext; rw [if_pos (by omega), if_neg (by omega)]; omega
  have hn : eln b (leB k (l.length - 1)) = l.length := by unfold eln; rw [if_pos (by omega), if_neg (by omega), le_leB _ _ h2]; omega
  simp only [step]
  rw [he, if_neg (by simp [hl])]
  have e1 : List.take k (leB k (l.length - 1) ++ (l ++ t)) = leB k (l.length - 1) := by rw [List.take_append_of_le_length (by omega), List.take_of_length_le (by omega)]
  have e2 : List.drop k (leB k (l.length - 1) ++ (l ++ t)) = l ++ t := by rw [List.drop_append, hl]; simp; omega
  rw [e1, e2, hn, if_pos (by omega), if_neg (by simp)]
  simp

theorem step_cp1 (n f : Nat) (t out : List UInt8) (hn1 : 4 ≤ n) (hn2 : n ≤ 11) (hf1 : 1 ≤ f) (hf2 : f < 2048) (hf : f ≤ out.length) :
    step (UInt8.ofNat (1 + (n - 4) * 4 + f / 256 * 32) :: UInt8.ofNat (f % 256) :: t) out = some (t, cp out f n) := by
  have hb : (UInt8.ofNat (1 + (n - 4) * 4 + f / 256 * 32)).toNat = 1 + (n - 4) * 4 + f / 256 * 32 := toNat_ofNat _ (by omega)
  have hc : (UInt8.ofNat (f % 256)).toNat = f % 256 := toNat_ofNat _ (by omega)
  generalize UInt8.ofNat (1 + (n - 4) * 4 + f / 256 * 32) = b at hb
  generalize UInt8.ofNat (f % 256) = c at hc
  have he : ext b = 1 := by unfold ext; rw [if_neg (by omega), if_pos (by omega)]
  have hn : ∀ x, eln b x = n := by intro x; unfold eln; rw [if_neg (by omega), if_pos (by omega)]; omega
  have hff : far b [c] = f := by unfold far; rw [if_pos (by omega)]; simp only [le]; omega
  simp only [step]
  rw [he, hn, if_neg (by simp), if_neg (by omega)]
  simp only [List.take_succ_cons, List.take_zero, List.drop_succ_cons, List.drop_zero]
  rw [hff, if_neg (by omega)]

/-- A copy of the form 2 (k = 2) or 3 (k = 4). -/
theorem step_cpk (k n f : Nat) (t out : List UInt8) (hk : k = 2 ∨ k = 4) (hn1 : 1 ≤ n) (hn2 : n ≤ 64) (hf1 : 1 ≤ f) (hf2 : f < 256 ^ k) (hf : f ≤ out.length) :
    step (UInt8.ofNat (k / 2 + 1 + (n - 1) * 4) :: (leB k f ++ t)) out = some (t, cp out f n) := by
  have hb : (UInt8.ofNat (k / 2 + 1 + (n - 1) * 4)).toNat = k / 2 + 1 + (n - 1) * 4 := toNat_ofNat _ (by omega)
  generalize UInt8.ofNat (k / 2 + 1 + (n - 1) * 4) = b at hb
  have hl := leB_length k f
  have he : ext b = k := by unfold ext; rw [if_neg (by omega), if_neg (by omega)]; split <;> omega
  have hn : ∀ x, eln b x = n := by intro x; unfold eln; rw [if_neg (by omega), if_neg (by omega)]; omega
  have hff : far b (leB k f) = f := by unfold far; rw [if_neg (by omega), le_leB _ _ hf2]
  have e1 : List.take k (leB k f ++ t) = leB k f := by rw [List.take_append_of_le_length (by omega), List.take_of_length_le (by omega)]
  have e2 : List.drop k (leB k f ++ t) = t := by rw [List.drop_append, hl]; simp; omega
  simp only [step]
  rw [he, hn, if_neg (by simp [hl]), if_neg (by omega), e1, e2, hff, if_neg (by omega)]

/-- What emitLiteral writes ahead of a text of n bytes. -/
def litH (n : Nat) : List UInt8 :=
  if n ≤ 60 then [UInt8.ofNat ((n - 1) * 4)] else if n ≤ 256 then UInt8.ofNat 240 :: leB 1 (n - 1) else UInt8.ofNat 244 :: leB 2 (n - 1)

/-- How many bytes that takes. -/
def litL (n : Nat) : Nat := if n ≤ 60 then 1 else if n ≤ 256 then 2 else 3

theorem litH_length (n : Nat) : (litH n).length = litL n := by
  unfold litH litL; repeat' split
  all_goals simp [leB]

theorem ev_lit (l out : List UInt8) (h1 : 1 ≤ l.length) (h2 : l.length ≤ 65536) : Ev (litH l.length ++ l) out (out ++ l) := by
  unfold litH
  split
  · have := step_lit0 l [] out h1 (by omega)
    rw [List.append_nil] at this
    exact Ev.one this
  split
  · have := step_litk 1 l [] out h1 (by omega) (by omega) (by omega)
    rw [List.append_nil] at this
    exact Ev.one this
  · have := step_litk 2 l [] out h1 (by omega) (by omega) (by omega)
    rw [List.append_nil] at this
    exact Ev.one this

/-- These bytes say a copy. -/
def SaysCp (bs : List UInt8) (f n : Nat) : Prop := ∀ out : List UInt8, f ≤ out.length → Ev bs out (cp out f n)

theorem SaysCp.nil (f : Nat) : SaysCp [] f 0 := fun _ _ => .nil _

theorem SaysCp.add {a b : List UInt8} {f n m : Nat} (h : SaysCp a f n) (h' : SaysCp b f m) : SaysCp (a ++ b) f (n + m) := by
  intro out ho
  rw [← cp_add]
  exact (h out ho).append (h' _ (by rw [cp_length]; omega))

theorem says_cp1 (n f : Nat) (hn1 : 4 ≤ n) (hn2 : n ≤ 11) (hf1 : 1 ≤ f) (hf2 : f < 2048) :
    SaysCp [UInt8.ofNat (1 + (n - 4) * 4 + f / 256 * 32), UInt8.ofNat (f % 256)] f n :=
  fun out ho => Ev.one (step_cp1 n f [] out hn1 hn2 hf1 hf2 ho)

theorem says_cp2 (n f : Nat) (hn1 : 1 ≤ n) (hn2 : n ≤ 64) (hf1 : 1 ≤ f) (hf2 : f < 65536) :
    SaysCp [UInt8.ofNat (2 + (n - 1) * 4), UInt8.ofNat (f % 256), UInt8.ofNat (f / 256 % 256)] f n := by
  intro out ho
  have := step_cpk 2 n f [] out (.inl rfl) hn1 hn2 hf1 (by omega) ho
  rw [List.append_nil] at this
  exact Ev.one this

/-- The room that a block needs. -/
theorem room_copy {d s0 L m c ov : Nat} (hd : d ≤ s0 + s0 / 65) (hov : ov = litL L) (hL : 1 ≤ L) : d + L + ov ≤ (s0 + L) + (s0 + L + 4) / 65 + 1 ∧
    (4 ≤ m → c + 1 ≤ m → d + L + ov + c ≤ (s0 + L + m) + (s0 + L + m) / 65) := by
  subst hov
  unfold litL
  constructor
  · repeat' split
    all_goals omega
  · intro hm hc
    repeat' split
    all_goals omega

theorem room_on {d s m c : Nat} (hd : d ≤ s + (s + 4) / 65 + 1) (hm : 4 ≤ m) (hc : c + 1 ≤ m) : d + c ≤ (s + m) + (s + m) / 65 := by omega

end Go.Proofs.YtfnejblenapddaaDoor
