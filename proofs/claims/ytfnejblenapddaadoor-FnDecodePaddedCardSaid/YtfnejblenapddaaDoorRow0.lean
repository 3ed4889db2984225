/- What a row gives a walk: bytes and errors; what a walk gives a row. -/
import Derived.Test.YtfnejblenapddaaDoorCards
import Derived.Test.YtfnejblenapddaaDoorTie
import Derived.Test.YtfnejblenapddaaDoorLawA
import Derived.WalkKit
import Derived.ProofKit
import Derived.OpenShut
import Derived.OpenVars
import Derived.LaidSub
import Derived.Stop.LaidErr
import Derived.Deep.DeepHandedRow
import Derived.Deep.DeepWitnessRowRef
set_option linter.unusedVariables false
namespace Go.Proofs.YtfnejblenapddaaDoor
open Go Go.ChangeShapes Go.WideShapes Go.ChangeAt Go.RowKit

theorem own : ownKnob Tryd.prog.godebug = none := by kernel_rfl
theorem laidOut : laidOutB Tryd.prog = true := by kernel_rfl
theorem gEr : Tryd.prog.globalNamed "loop.example/pub-g01445/pub/snappy.ErrCorrupt" = some 1 := by kernel_rfl
theorem gErType : (Tryd.prog.globals[1]?).map (·.type) = some 47 := by kernel_rfl
theorem star : "*" ++ "errors.errorString" = "*errors.errorString" := by decide
theorem row79 (u : TypeId) (h : Tryd.prog.typeName? 3 u = some "*errors.errorString") : u = 79 :=
  typeName_ptr_named (nm := "errors.errorString") (by rw [star]; kernel_rfl) (by kernel_rfl) (by decide) u (by rw [star]; exact h)
theorem cells96 : Tryd.prog.cellsOf 96 = 1 := by kernel_rfl
theorem cells9 : Tryd.prog.cellsOf 9 = 1 := by kernel_rfl
theorem cells5 : Tryd.prog.cellsOf 5 = 1 := by kernel_rfl

abbrev theLaid : List (String × DataW Unit) := [("loop.example/pub-g01445/pub/snappy.ErrCorrupt", Rows.laid_loop_example_pub_g01445_pub_snappy_ErrCorrupt), ("loop.example/pub-g01445/pub/snappy.ErrTooLarge", Rows.laid_loop_example_pub_g01445_pub_snappy_ErrTooLarge), ("loop.example/pub-g01445/pub/snappy.ErrUnsupported", Rows.laid_loop_example_pub_g01445_pub_snappy_ErrUnsupported), ("loop.example/pub-g01445/pub/snappy.errUnsupportedLiteralLength", Rows.laid_loop_example_pub_g01445_pub_snappy_errUnsupportedLiteralLength)]

theorem er_of_laid {W : World} (h : laidMetH Tryd.prog theLaid W) : ∃ a, Er a W := by
  have h1 := (laidMetH_iff.1 h).1
  have e : (theLaid.filter fun x => x.2.handleName?.isNone) = theLaid := by
    rw [List.filter_eq_self]
    intro x hx
    simp only [theLaid, List.mem_cons, List.not_mem_nil, or_false] at hx
    rcases hx with rfl | rfl | rfl | rfl <;> rfl
  rw [e] at h1
  obtain ⟨a0, s0, hv0, -⟩ := laid_sentinel h1 gEr gErType Tryd.underlying47 row79 Tryd.underlying79 Tryd.underlying96 rfl rfl Tryd.underlying9 cells96 cells9
  exact ⟨a0, by show W.cell? _ = _; simpa using World.var?_cell gEr hv0 0⟩

theorem rd_of_trod {H : Type} {enc : TypeId × Value → H} {W : World} {v : Value} {d : DataW H} {p : List MemPlace} {base : Nat} (hok : Value.okWide Tryd.prog W .any base 22 v) (h : DataW.Trod enc Tryd.prog W 0 (fun _ => true) true 22 v d p) : ∃ bs, Rd W v bs := by
  obtain ⟨a', l', c', rfl⟩ := okWide_slice Tryd.underlying22 hok
  obtain ⟨fuel, hf⟩ := h
  rcases open_ints Tryd.underlying22 Tryd.underlying5 cells5 hf with ⟨hcs, -⟩ | ⟨a, len, cap, zs, hcs, -, hl, hm, hz, -, hcell, hwf⟩
  · simp [Value.cells] at hcs
    obtain ⟨rfl, rfl, rfl⟩ := hcs
    exact ⟨[], none, 0, rfl, by simp, by omega, fun _ => rfl, fun h => by simp at h⟩
  · simp [Value.cells] at hcs
    obtain ⟨rfl, rfl, rfl⟩ := hcs
    simp only [if_true] at hz
    have hlen : ((zs.take l').map fun z => z.toNat.toUInt8).length = l' := by simp; omega
    refine ⟨(zs.take l').map fun z => z.toNat.toUInt8, some a, c', by rw [hlen], by rw [hlen]; exact hl, by unfold maxLen at hm; exact hm, (fun h => by cases h), fun hp => ?_⟩
    rw [hlen] at hp
    obtain ⟨b, off, spot⟩ := a
    have hspot : spot = none := by simpa [Addr.add] using World.cell?_spot (hcell 0 (by omega))
    subst hspot
    refine ⟨b, off, rfl, fun j hj => ?_⟩
    have hjl : j < l' := by rw [hlen] at hj; exact hj
    have hjz : j < zs.length := by omega
    have h1 := hcell j hjz
    rw [addr_add] at h1
    rw [h1]
    have hw := hwf zs[j] (List.getElem_mem hjz)
    have h2 : 0 ≤ zs[j] ∧ zs[j] ≤ 255 := by simpa [Lit.wf, IntKind.min, IntKind.max, IntKind.signed, IntKind.bits] using hw
    congr 1
    simp only [List.getElem_map, List.getElem_take]
    have h3 : zs.getD j 0 = zs[j] := by simp [List.getD, hjz]
    rw [h3]
    have h4 := u8_nat_cast (zs[j].toNat) (by omega)
    rw [h4]
    exact int_ext (by omega)

theorem below_trodAll {H : Type} {enc : TypeId × Value → H} {W W' : World} (hb : Below W.heap.size W W') (ts : List TypeId) :
    ∀ {vs : List Value} {ds : List (DataW H)} {ps : List MemPlace}, (∀ t ∈ ts, Tryd.prog.readableRec t = true ∧ t < Tryd.prog.types.size) → (∀ x ∈ ps, x.block < W.heap.size) →
      DataW.TrodAll enc Tryd.prog W 0 (fun _ => true) true ts vs ds ps → DataW.TrodAll enc Tryd.prog W' 0 (fun b => decide (b < W.heap.size)) true ts vs ds ps := by
  induction ts with
  | nil =>
    intro vs ds ps _ _ h
    cases vs with
    | nil =>
      cases ds with
      | nil => exact h
      | cons d ds => exact h.elim
    | cons v vs => cases ds <;> exact h.elim
  | cons t ts ih =>
    intro vs ds ps ht hlt h
    obtain ⟨v, vs1, d, ds1, p, q, rfl, rfl, rfl, h1, h2⟩ := trodAll_cons h
    obtain ⟨ha, hb2⟩ := ht t (List.mem_cons_self ..)
    exact trodAll_cons_mk (Below.trod laidOut ha hb2 h1 hb (fun x hx => hlt x (by simp [hx]))) (ih (fun t ht' => ht t (List.mem_cons_of_mem _ ht')) (fun x hx => hlt x (by simp [hx])) h2)

/-- What a law's walk gives its row. -/
theorem post_of_law {H : Type} {enc : TypeId × Value → H} {fn : Func} {s : ChangeSpec} {W W' : World} {args : Array Value} {ds gs : List (DataW H)} {before : List MemPlace} {e : Ending}
    (hts : ∀ t ∈ fn.params.toList, Tryd.prog.readableRec t = true ∧ t < Tryd.prog.types.size) (hvs : varsRowed Tryd.prog s.vars = true) (hr : fn.resultTypes = #[4])
    (hW : DataW.Whole enc Tryd.prog fn.params.toList s.vars false W args.toList ds gs before) (hs : s.fn H (ds ++ gs) = { results := [.lit (.bool true)], args := ds, vars := gs }) (hL : Law W e W') :
    ∃ v, e = .returned v ∧ s.post enc Tryd.prog fn false true false false W args v W' := by
  obtain ⟨rfl, hb⟩ := hL
  have hW' := hW
  obtain ⟨p, q, hA, hV, rfl, -, -⟩ := hW
  have hlt : ∀ x ∈ p ++ q, x.block < W.heap.size := fun x hx => by simpa using hW'.lt x hx
  refine ⟨_, rfl, ds, gs, p ++ q, [], p, q, hW', ?_, ?_, ?_, hb.frame _, fun h => by cases h⟩
  · rw [hs, hr]
    exact trodAll_mk1 (shut_bool Tryd.underlying4 _)
  · rw [hs]
    exact below_trodAll hb _ hts (fun x hx => hlt x (by simp [hx])) hA
  · rw [hs]
    exact Below.trodVars laidOut hb hvs hV

abbrev sCorrupt : ByteArray := { data := #[115, 110, 97, 112, 112, 121, 58, 32, 99, 111, 114, 114, 117, 112, 116, 32, 105, 110, 112, 117, 116] }
abbrev sTooLarge : ByteArray := { data := #[115, 110, 97, 112, 112, 121, 58, 32, 100, 101, 99, 111, 100, 101, 100, 32, 98, 108, 111, 99, 107, 32, 105, 115, 32, 116, 111, 111, 32, 108, 97, 114, 103, 101] }
abbrev sUnsup : ByteArray := { data := #[115, 110, 97, 112, 112, 121, 58, 32, 117, 110, 115, 117, 112, 112, 111, 114, 116, 101, 100, 32, 105, 110, 112, 117, 116] }
abbrev sUnlit : ByteArray := { data := #[115, 110, 97, 112, 112, 121, 58, 32, 117, 110, 115, 117, 112, 112, 111, 114, 116, 101, 100, 32, 108, 105, 116, 101, 114, 97, 108, 32, 108, 101, 110, 103, 116, 104] }
noncomputable def low : Nat := (World.holding Tryd.prog default ⟨#[], #[], []⟩).heap.size
/-- A world for the witness: the four errors hold what their initialisers lay. -/
noncomputable def laidWorld (os : Os) : World :=
  let w0 := World.holding Tryd.prog os ⟨#[.cells #[.string sUnlit] 96, .cells #[.string sCorrupt] 96, .cells #[.string sTooLarge] 96, .cells #[.string sUnsup] 96], #[], []⟩
  let put (h : Array Obj) (g : Nat) : Array Obj := h.modify g fun
    | .cells _ t frozen => .cells #[.iface 79 (.pointer (some ⟨low + g, 0, none⟩))] t frozen
    | o => o
  { w0 with heap := put (put (put (put w0.heap 0) 1) 2) 3 }
theorem laid_met (os : Os) (args : Array Value) : laidMet Tryd.prog theLaid ((laidWorld os).forCall (fun _ _ => 0) ⟨#[], args, []⟩).memory :=
  laidMet_of_run (ps := [.cell 1 0, .cell (low + 1) 0, .cell 2 0, .cell (low + 2) 0, .cell 3 0, .cell (low + 3) 0, .cell 0 0, .cell low 0]) 8 (by kernel_rfl) (by kernel_rfl) (by kernel_rfl)
end Go.Proofs.YtfnejblenapddaaDoor
