/- Proved: FnJoin returns true for every input of its row, and what it was given and the listed variables read afterwards as before; stated as the row and as its tied card.
   Conditions: those of the given row and card, no other: when the call begins, the four listed error variables hold what the program's text lays in them (cell laid; the card ties it to the text); an interface value among what is read counts as a token, so of what it leads to nothing more is said (cell ifaces). -/
import Derived.Test.YtfnejblenapddaaDoorRow0
import Derived.Test.YtfnejblenapddaaDoorLawF
set_option linter.unusedVariables false
namespace Go.Proofs.YtfnejblenapddaaDoor.fnJoin
open Go Go.ChangeShapes Go.WideShapes Go.ChangeAt Go.RowKit

theorem rd_arg {H : Type} {enc : TypeId × Value → H} {W : World} {v : Value} {d : DataW H} {p : List MemPlace} {base : Nat} (hok : Value.okWide Tryd.prog W .any base 22 v) (h : DataW.Trod enc Tryd.prog W 0 (fun _ => true) true 22 v d p) : ∃ bs, Rd W v bs ∧ Arg v := by
  obtain ⟨bs, hR⟩ := rd_of_trod hok h
  refine ⟨bs, hR, ?_⟩
  obtain ⟨a', l', c', rfl⟩ := okWide_slice Tryd.underlying22 hok
  obtain ⟨fuel, hf⟩ := h
  rcases open_ints Tryd.underlying22 Tryd.underlying5 cells5 hf with ⟨hcs, -⟩ | ⟨a, len, cap, zs, hcs, -⟩
  · simp [Value.cells] at hcs
    obtain ⟨rfl, rfl, rfl⟩ := hcs
    exact .inl rfl
  · simp [Value.cells] at hcs
    obtain ⟨rfl, rfl, rfl⟩ := hcs
    exact .inr ⟨_, _, _, rfl⟩

theorem types : ∀ t ∈ Tryd.f8.params.toList, Tryd.prog.readableRec t = true ∧ t < Tryd.prog.types.size := by
  intro t ht
  rw [Tryd.params8] at ht
  simp only [List.mem_cons, List.not_mem_nil, or_false, or_self] at ht
  rcases ht with rfl <;> exact ⟨by kernel_rfl, of_decide_eq_true (by kernel_rfl)⟩

/-- What the walk gives, for every argument and every world that the row speaks of. -/
theorem contract (H : Type) (enc : TypeId × Value → H) (W : World) (base : Nat) (args : Array Value) (ds gs : List (DataW H)) (before : List MemPlace)
    (hval : ∀ (j : Nat) t v, Tryd.f8.params[j]? = some t → args[j]? = some v → Value.okWide Tryd.prog W .any base t v)
    (hW : DataW.Whole enc Tryd.prog Tryd.f8.params.toList Rows.fnJoinSpec.vars false W args.toList ds gs before) (hL : laidMetH Tryd.prog theLaid W) :
    Calls Tryd.prog 8 args W fun e W' => ∃ v, e = .returned v ∧ Rows.fnJoinSpec.post enc Tryd.prog Tryd.f8 false true false false W args v W' := by
  have hW' := hW
  obtain ⟨p, q, hA0, hV, rfl, hfz, hnd⟩ := hW
  have hA : DataW.TrodAll enc Tryd.prog W 0 (fun _ => true) true Tryd.f8.params.toList args.toList ds p := hA0
  obtain ⟨a, hEr⟩ := er_of_laid hL
  have hgs : ∃ g1 g2 g3 g4, gs = [g1, g2, g3, g4] := by
    have hl := hV
    match gs, hl with
    | [g1, g2, g3, g4], _ => exact ⟨g1, g2, g3, g4, rfl⟩
    | [], hl => exact hl.elim
    | [_], hl => obtain ⟨_, _, _, _, _, _, _, _, _, _, hl, _⟩ := hl; exact hl.elim
    | [_, _], hl => obtain ⟨_, _, _, _, _, _, _, _, _, _, ⟨_, _, _, _, _, _, _, _, _, _, hl, _⟩, _⟩ := hl; exact hl.elim
    | [_, _, _], hl => obtain ⟨_, _, _, _, _, _, _, _, _, _, ⟨_, _, _, _, _, _, _, _, _, _, ⟨_, _, _, _, _, _, _, _, _, _, hl, _⟩, _⟩, _⟩ := hl; exact hl.elim
    | _ :: _ :: _ :: _ :: _ :: _, hl => obtain ⟨_, _, _, _, _, _, _, _, _, _, ⟨_, _, _, _, _, _, _, _, _, _, ⟨_, _, _, _, _, _, _, _, _, _, ⟨_, _, _, _, _, _, _, _, _, _, hl, _⟩, _⟩, _⟩, _⟩ := hl; exact hl.elim
  obtain ⟨g1, g2, g3, g4, rfl⟩ := hgs
  rw [Tryd.params8] at hA hval
  obtain ⟨v0, vs0, d0, ds0, p0, q0, hargs, rfl, rfl, h0, r0⟩ := trodAll_cons hA
  obtain ⟨v1, vs1, d1, ds1, p1, q1, rfl, rfl, rfl, h1, r1⟩ := trodAll_cons r0
  obtain ⟨rfl, rfl, rfl⟩ := trodAll_nil r1
  obtain rfl : args = #[v0, v1] := by cases args; simp_all
  obtain ⟨bs0, hR0, hArg0⟩ := rd_arg (hval 0 22 v0 rfl rfl) h0
  obtain ⟨bs1, hR1, hArg1⟩ := rd_arg (hval 1 22 v1 rfl rfl) h1
  clear hA0
  refine (lawJoin a v0 v1 bs0 bs1 W hR0 hArg0 hR1 hArg1 hEr).mono fun e W' hl => ?_
  exact post_of_law types (by kernel_rfl) (by kernel_rfl) hW' rfl hl

theorem reads (os : Os) {H : Type} (enc : TypeId × Value → H) : ∃ gs places, DataW.whole enc Tryd.prog ((laidWorld os).forCall (fun _ _ => 0) ⟨#[], #[.slice none 0 0, .slice none 0 0], []⟩).memory Tryd.f8.params.toList Rows.fnJoinSpec.vars false (#[Value.slice none 0 0, Value.slice none 0 0]).toList 8 = some ([.nil, .nil], gs, places) :=
  by
  have hw : (DataW.whole enc Tryd.prog ((laidWorld os).forCall (fun _ _ => 0) ⟨#[], #[.slice none 0 0, .slice none 0 0], []⟩).memory Tryd.f8.params.toList Rows.fnJoinSpec.vars false (#[Value.slice none 0 0, Value.slice none 0 0]).toList 8).map (fun x => x.1) = some ([.nil, .nil]) := by kernel_rfl
  obtain ⟨⟨x1, x2, x3⟩, hx, hx1⟩ := Option.map_eq_some_iff.1 hw
  simp only at hx1
  subst hx1
  exact ⟨x2, x3, hx⟩

set_option maxRecDepth 100000 in
set_option maxHeartbeats 2000000 in
theorem lifted (os : Os) (started : os.Started) (H : Type) (enc : TypeId × Value → H) (F : Stop.Interp) :
    ReturnsInHanded {} Tryd.checked os 8 .any ((OpenSpec.ofChange Rows.fnJoinSpec).preRow enc Tryd.prog Tryd.f8 Rows.fnJoinRow.domain false Rows.fnJoinRow.laid) (((OpenSpec.ofChange Rows.fnJoinSpec).at F).post enc Tryd.prog Tryd.f8 false true false false) := by
  obtain ⟨gs0, places, hx⟩ := reads os enc
  refine returnsInHanded_of_row (C := Tryd.checked) (s := OpenSpec.ofChange Rows.fnJoinSpec) own started (by kernel_rfl) Tryd.func8
    (witness_row_atRef (enc := enc) (C := Tryd.checked) false (laidWorld os) #[.slice none 0 0, .slice none 0 0] rfl (by kernel_rfl) (by kernel_rfl) (by kernel_rfl)
      (OpenSpec.preRow_of_cond 8 hx (by kernel_rfl) (fun k hk => by cases hk) (by kernel_rfl) (laid_met os _))) ?_
  intro W base args ds gs before hval hW _ _ _ hL _ _
  exact contract H enc W base args ds gs before hval hW hL

theorem said : Rows.FnJoinSaid :=
  OpenClaim.holds_of_cond 8 Tryd.f8 rfl rfl rfl rfl rfl rfl rfl ⟨rfl, rfl, rfl, rfl, rfl⟩ rfl rfl rfl rfl rfl (by kernel_rfl) Tryd.func8 (by kernel_rfl)
    (of_decide_eq_true (by kernel_rfl)) (by unfold Func.isWrapper; first | (rw [if_pos (by decide +kernel)]; kernel_rfl) | (rw [if_neg (by decide +kernel)]; exact ⟨rfl, rfl⟩))
    (fun os started H enc _ F => by rw [OpenClaim.pre_eq_preRow]; exact lifted os started H enc F)

/-- No parameter wants a stand-in; the program's own looks are off. -/
theorem plain (f : FuncId) (fn : Func) (hf : Tryd.pinned.checked.prog.funcNamed "loop.example/pub-g01445/laws.FnJoin" = some f) (hfn : Tryd.pinned.checked.prog.funcs[f]? = some fn) :
    true = Tryd.pinned.checked.prog.looks [] ∧ ∀ (j : Nat) t, fn.params[j]? = some t → Tryd.pinned.checked.prog.wantsStandIn t = false := by
  obtain rfl : f = 8 := Option.some.inj ((show Tryd.prog.funcNamed "loop.example/pub-g01445/laws.FnJoin" = some 8 by kernel_rfl).symm.trans hf) |>.symm
  obtain rfl : fn = Tryd.f8 := (Option.some.inj (Tryd.func8.symm.trans hfn)).symm
  refine ⟨by kernel_rfl, fun j t ht => ?_⟩
  rw [Tryd.params8] at ht
  have ht' := Array.mem_of_getElem? ht
  simp only [List.mem_toArray, List.mem_cons, List.not_mem_nil, or_false, or_self] at ht'
  rcases ht' with rfl
  · exact (show Tryd.prog.wantsStandIn 22 = false by kernel_rfl)

/-- The card. -/
theorem card : Rows.FnJoinCardSaid :=
  Claim7.holds_tied_plain_at .later [] _ _ _ _ said (fun _ h => by cases h) (by kernel_rfl) (fun _ h => by cases h) fnJoin_row_tie rfl ⟨rfl, rfl⟩ (by kernel_rfl) rfl plain (by kernel_rfl)
end Go.Proofs.YtfnejblenapddaaDoor.fnJoin
