/- What a block of the snappy format says, in plain lists of bytes: the steps of a decoder, that they can be put one behind the other, that a text in front changes nothing, and that what is cut off is refused. -/
namespace Go.Proofs.YtfnejblenapddaaDoor

/-- The number that some bytes tell, the low ones first. -/
def le : List UInt8 → Nat
  | [] => 0
  | b :: r => b.toNat + 256 * le r

/-- What has been said, and n bytes more, each of which stands so far ahead of its place. -/
def cp (out : List UInt8) (off : Nat) : Nat → List UInt8
  | 0 => out
  | n + 1 => cp out off n ++ [(cp out off n).getD ((cp out off n).length - off) 0]

/-- How many bytes behind the tag belong to it. -/
def ext (b : UInt8) : Nat :=
  if b.toNat % 4 = 0 then (if b.toNat / 4 < 60 then 0 else b.toNat / 4 - 59)
  else if b.toNat % 4 = 1 then 1 else if b.toNat % 4 = 2 then 2 else 4

/-- How long the element is. -/
def eln (b : UInt8) (x : List UInt8) : Nat :=
  if b.toNat % 4 = 0 then (if b.toNat / 4 < 60 then b.toNat / 4 + 1 else le x + 1)
  else if b.toNat % 4 = 1 then b.toNat / 4 % 8 + 4 else b.toNat / 4 + 1

/-- How far the element goes back, if it is a copy. -/
def far (b : UInt8) (x : List UInt8) : Nat :=
  if b.toNat % 4 = 1 then b.toNat / 4 / 8 * 256 + le x else le x

/-- One element of a block: the bytes behind it, and what has been said. -/
def step : List UInt8 → List UInt8 → Option (List UInt8 × List UInt8)
  | [], _ => none
  | b :: r, out =>
    if r.length < ext b then none
    else if b.toNat % 4 = 0 then
      if (r.drop (ext b)).length < eln b (r.take (ext b)) then none
      else some ((r.drop (ext b)).drop (eln b (r.take (ext b))), out ++ (r.drop (ext b)).take (eln b (r.take (ext b))))
    else if far b (r.take (ext b)) = 0 ∨ out.length < far b (r.take (ext b)) then none
    else some (r.drop (ext b), cp out (far b (r.take (ext b))) (eln b (r.take (ext b))))

theorem eln_pos (b : UInt8) (x : List UInt8) : 0 < eln b x := by
  unfold eln; repeat' split
  all_goals omega

theorem cp_length (out : List UInt8) (off n : Nat) : (cp out off n).length = out.length + n := by
  induction n with
  | zero => rfl
  | succ n ih => simp only [cp, List.length_append, ih, List.length_singleton]; omega

theorem cp_add (out : List UInt8) (off a b : Nat) : cp (cp out off a) off b = cp out off (a + b) := by
  induction b with
  | zero => rfl
  | succ b ih => rw [← Nat.add_assoc]; simp only [cp, ih]

theorem cp_pre (p out : List UInt8) (off n : Nat) (h : off ≤ out.length) : cp (p ++ out) off n = p ++ cp out off n := by
  induction n with
  | zero => rfl
  | succ n ih =>
    simp only [cp, ih, List.append_assoc, List.length_append]
    have hl := cp_length out off n
    have e : p.length + (cp out off n).length - off = p.length + ((cp out off n).length - off) := by omega
    rw [e]
    simp [List.getD_eq_getElem?_getD, List.getElem?_append_right]

theorem cp_prefix (out : List UInt8) (off n : Nat) : ∃ t, cp out off n = out ++ t ∧ t.length = n := by
  induction n with
  | zero => exact ⟨[], by simp [cp], rfl⟩
  | succ n ih =>
    obtain ⟨t, ht, hl⟩ := ih
    refine ⟨t ++ [(cp out off n).getD ((cp out off n).length - off) 0], ?_, by simp [hl]⟩
    simp only [cp]; rw [ht]; simp

/-- A copy that does not reach into itself says a part of what has been said. -/
theorem cp_far (out : List UInt8) (off n : Nat) (h : n ≤ off) (ho : off ≤ out.length) : cp out off n = out ++ (out.drop (out.length - off)).take n := by
  induction n with
  | zero => simp [cp]
  | succ n ih =>
    have ih := ih (by omega)
    have hl := cp_length out off n
    simp only [cp]
    have e : (cp out off n).length - off = (out.length - off) + n := by omega
    rw [e, ih]
    have hlt : out.length - off + n < out.length := by omega
    have e2 : (out ++ List.take n (List.drop (out.length - off) out)).getD (out.length - off + n) 0 = out[out.length - off + n] := by
      rw [List.getD_eq_getElem?_getD, List.getElem?_append_left hlt]; simp [hlt]
    rw [e2, List.append_assoc]
    congr 1
    rw [List.take_succ_eq_append_getElem (by simp; omega)]
    simp

/-- A copy of bytes that stand so in a text says the text. -/
theorem cp_match (src : List UInt8) (base off m : Nat) (ho : off ≤ base) (h0 : 0 < off) (hm : base + m ≤ src.length)
    (h : ∀ i, i < m → src[base - off + i]? = src[base + i]?) : cp (src.take base) off m = src.take (base + m) := by
  induction m with
  | zero => rfl
  | succ m ih =>
    have ih := ih (by omega) (fun i hi => h i (by omega))
    have hlt : base + m < src.length := by omega
    simp only [cp]
    rw [ih]
    have e : (src.take (base + m)).length - off = base - off + m := by simp; omega
    rw [e, ← Nat.add_assoc, List.take_succ_eq_append_getElem hlt]
    congr 1
    rw [List.getD_eq_getElem?_getD, List.getElem?_take, if_pos (by omega), h m (by omega)]
    simp [hlt]

theorem step_nil (out : List UInt8) : step [] out = none := rfl

/-- What an element takes, and what it leaves. -/
theorem step_shape {bs out r o : List UInt8} (h : step bs out = some (r, o)) : ∃ c, bs = c ++ r ∧ 0 < c.length ∧ out.length < o.length ∧ (∃ t, o = out ++ t) ∧
    (∀ t, step (c ++ t) out = some (t, o)) ∧ (∀ p, step bs (p ++ out) = some (r, p ++ o)) := by
  cases bs with
  | nil => simp [step] at h
  | cons b q =>
    simp only [step] at h
    split at h
    · cases h
    rename_i he
    have he : ext b ≤ q.length := by omega
    have hq : q.take (ext b) ++ q.drop (ext b) = q := List.take_append_drop _ _
    generalize hx : q.take (ext b) = x at *
    generalize hy : q.drop (ext b) = y at *
    have hxl : x.length = ext b := by rw [← hx]; simp; omega
    have hpos := eln_pos b x
    split at h
    · rename_i ht
      split at h
      · cases h
      rename_i hl
      have hl : eln b x ≤ y.length := by omega
      simp only [Option.some.injEq, Prod.mk.injEq] at h
      obtain ⟨rfl, rfl⟩ := h
      refine ⟨b :: (x ++ y.take (eln b x)), ?_, by simp, ?_, ⟨_, rfl⟩, ?_, ?_⟩
      · simp [← hq]
      · simp; omega
      · intro t
        simp only [List.cons_append, List.append_assoc, step]
        rw [if_neg (by simp; omega)]
        have e1 : List.take (ext b) (x ++ (List.take (eln b x) y ++ t)) = x := by rw [← hxl]; simp
        have e2 : List.drop (ext b) (x ++ (List.take (eln b x) y ++ t)) = List.take (eln b x) y ++ t := by rw [← hxl]; simp
        rw [e1, e2, if_pos ht, if_neg (by simp; omega)]
        have e3 : (List.take (eln b x) y).length = eln b x := by simp; omega
        have e4 : List.drop (eln b x) (List.take (eln b x) y ++ t) = t := by
          rw [List.drop_append, e3]; simp
        have e5 : List.take (eln b x) (List.take (eln b x) y ++ t) = List.take (eln b x) y := by
          rw [List.take_append_of_le_length (by omega), List.take_take, Nat.min_self]
        rw [e4, e5]
      · intro p
        simp only [step]
        rw [hx, hy, if_neg (by omega), if_pos ht, if_neg (by omega), List.append_assoc]
    · rename_i ht
      split at h
      · cases h
      rename_i hf
      have hfl : far b x ≤ out.length := by omega
      simp only [Option.some.injEq, Prod.mk.injEq] at h
      obtain ⟨rfl, rfl⟩ := h
      refine ⟨b :: x, ?_, by simp, ?_, ?_, ?_, ?_⟩
      · simp [← hq]
      · rw [cp_length]; omega
      · obtain ⟨t, ht, _⟩ := cp_prefix out (far b x) (eln b x); exact ⟨t, ht⟩
      · intro t
        simp only [List.cons_append, step]
        rw [if_neg (by simp; omega)]
        have e1 : List.take (ext b) (x ++ t) = x := by rw [← hxl]; simp
        have e2 : List.drop (ext b) (x ++ t) = t := by rw [← hxl]; simp
        rw [e1, e2, if_neg ht, if_neg hf]
      · intro p
        simp only [step]
        rw [hx, hy, if_neg (by omega), if_neg ht, if_neg (by simp; omega), cp_pre p out _ _ hfl]

theorem step_lt {bs out r o : List UInt8} (h : step bs out = some (r, o)) : r.length < bs.length ∧ out.length < o.length := by
  obtain ⟨c, rfl, hc, ho, _⟩ := step_shape h
  exact ⟨by simp; omega, ho⟩

/-- Where bytes lack at the end of an element, nothing is read. -/
theorem step_short {p q out r o : List UInt8} (h : step (p ++ q) out = some (r, o)) (hq : r.length < q.length) : step p out = none := by
  cases hs : step p out with
  | none => rfl
  | some x =>
    obtain ⟨r', o'⟩ := x
    obtain ⟨c, rfl, _, _, _, happ, _⟩ := step_shape hs
    have := happ (r' ++ q)
    rw [← List.append_assoc, h] at this
    simp only [Option.some.injEq, Prod.mk.injEq] at this
    rw [this.1] at hq
    simp at hq
    omega

/-- Elements, one behind the other: what had been said, and what has been said. -/
inductive Ev : List UInt8 → List UInt8 → List UInt8 → Prop
  | nil (out : List UInt8) : Ev [] out out
  | cons {bs out r o e : List UInt8} (h : step bs out = some (r, o)) (t : Ev r o e) : Ev bs out e

theorem Ev.append {a b out o e : List UInt8} (h : Ev a out o) (h' : Ev b o e) : Ev (a ++ b) out e := by
  induction h with
  | nil out => simpa using h'
  | cons hs ht ih =>
    obtain ⟨c, rfl, _, _, _, happ, _⟩ := step_shape hs
    rw [List.append_assoc]
    exact .cons (happ _) (ih h')

theorem Ev.pre {a out o : List UInt8} (h : Ev a out o) (p : List UInt8) : Ev a (p ++ out) (p ++ o) := by
  induction h with
  | nil out => exact .nil _
  | cons hs ht ih =>
    obtain ⟨c, rfl, _, _, _, _, hpre⟩ := step_shape hs
    exact .cons (hpre p) ih

theorem Ev.le {a out o : List UInt8} (h : Ev a out o) : out.length ≤ o.length := by
  induction h with
  | nil out => exact Nat.le_refl _
  | cons hs ht ih => have := (step_lt hs).2; omega

theorem Ev.one {bs out o : List UInt8} (h : step bs out = some ([], o)) : Ev bs out o := .cons h (.nil _)

/-- The elements of one text behind those of another say both. -/
theorem Ev.join {a b x y : List UInt8} (h : Ev a [] x) (h' : Ev b [] y) : Ev (a ++ b) [] (x ++ y) := by
  have := h'.pre x
  rw [List.append_nil] at this
  exact h.append this

/-- What a decoder tells that has room for N bytes. -/
def D (N : Nat) (bs out : List UInt8) : Option (List UInt8) :=
  match _h : step bs out with
  | none => if bs = [] ∧ out.length = N then some out else none
  | some (r, o) => if N < o.length then none else D N r o
termination_by bs.length
decreasing_by exact (step_lt _h).1

theorem D_nil (N : Nat) (out : List UInt8) : D N [] out = if out.length = N then some out else none := by
  rw [D]; simp [step]

theorem D_none {N : Nat} {bs out : List UInt8} (hs : step bs out = none) (hb : bs ≠ []) : D N bs out = none := by
  rw [D]; split
  · simp [hb]
  · rename_i r o h'; rw [hs] at h'; cases h'

theorem D_some {N : Nat} {bs out r o : List UInt8} (h : step bs out = some (r, o)) : D N bs out = if N < o.length then none else D N r o := by
  rw [D]; split
  · rename_i h'; rw [h] at h'; cases h'
  · rename_i r' o' h'; rw [h] at h'; simp only [Option.some.injEq, Prod.mk.injEq] at h'; rw [h'.1, h'.2]

theorem D_len {N : Nat} {bs out o : List UInt8} (h : D N bs out = some o) : o.length = N := by
  induction hn : bs.length using Nat.strongRecOn generalizing bs out with
  | _ n ih =>
    cases hs : step bs out with
    | none =>
      cases bs with
      | nil => rw [D_nil] at h; split at h <;> simp_all
      | cons b r => rw [D_none hs (by simp)] at h; cases h
    | some x =>
      obtain ⟨r, o'⟩ := x
      rw [D_some hs] at h
      split at h
      · cases h
      · exact ih r.length (by have := (step_lt hs).1; omega) h rfl

theorem Ev.D {bs out o : List UInt8} (h : Ev bs out o) : D o.length bs out = some o := by
  induction h with
  | nil out => rw [D_nil, if_pos rfl]
  | cons hs ht ih => rw [D_some hs, if_neg (by have := ht.le; omega)]; exact ih

/-- What is cut off is refused. -/
theorem Ev.cut {a out o : List UInt8} (h : Ev a out o) : ∀ p q : List UInt8, a = p ++ q → q ≠ [] → YtfnejblenapddaaDoor.D o.length p out = none := by
  induction h with
  | nil out => intro p q h hq; have := congrArg List.length h; simp at this; exact absurd (List.eq_nil_of_length_eq_zero (by omega)) hq
  | @cons bs out r o e hs ht ih =>
    intro p q hp hq
    by_cases hpn : p = []
    · subst hpn
      rw [D_nil, if_neg]
      have := (step_lt hs).2; have := ht.le; omega
    by_cases hlen : r.length < q.length
    · exact D_none (step_short (hp ▸ hs) hlen) hpn
    · obtain ⟨c, hc, _, _, _, happ, _⟩ := step_shape hs
      have hr : ∃ p', p = c ++ p' ∧ r = p' ++ q := by
        have e : c ++ r = p ++ q := by rw [← hc, hp]
        rcases List.append_eq_append_iff.1 e with ⟨t, h1, h2⟩ | ⟨t, h1, h2⟩
        · exact ⟨t, h1, h2⟩
        · have : t = [] := by
            have := congrArg List.length h2; simp at this
            exact List.eq_nil_of_length_eq_zero (by omega)
          subst this
          exact ⟨[], by simpa using h1.symm, by simpa using h2.symm⟩
      obtain ⟨p', rfl, rfl⟩ := hr
      rw [D_some (happ p')]
      split
      · rfl
      · exact ih p' q rfl hq

end Go.Proofs.YtfnejblenapddaaDoor
