/-
  NARROWER THAN 'FOR EVERY INPUT', by the rows' own cells (each row's printed sentence says how): FnDecodePadded: ifaces, laid · FnCut: ifaces, laid · FnEncodeDecode: ifaces, laid · FnEncodeRoom: ifaces, laid · FnEncodeTwice: ifaces, laid · FnJoin: ifaces, laid · FnLossless: ifaces, laid.
  DERIVED. THE GIVEN ROWS OF THIS SEAT. 7 by the template 'for every input the law returns true; each argument reads behind the call as it read before'; 0 by the template 'total and deterministic' (their statements: YtfnejblenapddaaDoorTotals.lean).
  GIVEN WITH THE SEED: the statements are not yours to turn. If you find one false, say at which input.
  Laid BY PROGRAM, IN A SANDBOX (cutbox-rows.mjs): the forced cells as the released guide's own fill.sh prints them over the translation 09bf9247c2133a24… (all of the seat's roots in one cut). By AI agents, Wed Nov 11 2026. No macro, syntax, notation, axiom, sorry.
-/
import Derived.Test.YtfnejblenapddaaDoorChecked
import GoSem.Claim
import GoSem.ClaimJoined
import GoSem.ClaimMapViews
import Derived.JoinedTies
import Derived.KernelRfl
namespace Go.Proofs.YtfnejblenapddaaDoor
/- THE CELL 'sum', in the pinned program and in every row, IS THE sha256 OF THE DUMP (.gsa) THAT YtfnejblenapddaaDoorProg.lean LOADS. Nothing in Lean hashes anything: it is a label: what it is worth is what the hold of that sum in a sandbox is worth. -/
noncomputable def Tryd.pinned : Pinned := { name := "ytfnejblenapddaadoor", sum := "09bf9247c2133a245da7b8ea4cc15a9399f09f6b0c185b739f1285506e587463", checked := Tryd.checked }
namespace Rows
def none {H : Type} : Left H := { results := [], args := [] }

/- WHAT THE LISTED PACKAGE-LEVEL VARIABLES READ AS WHEN THE CALL BEGINS. Each datum BY PROGRAM (the guide's laid-datum.mjs) off the statement by which the dump's own 'gosem.cut.vars' lays the variable. In a bare row this is a premise. The card (YtfnejblenapddaaDoorCards.lean) ties it to the program's text. -/
def laid_loop_example_pub_g01445_pub_snappy_ErrCorrupt {H : Type} : DataW H := .iface "*errors.errorString" (.ptr (.agg [.lit (.string [115, 110, 97, 112, 112, 121, 58, 32, 99, 111, 114, 114, 117, 112, 116, 32, 105, 110, 112, 117, 116])]))
def laid_loop_example_pub_g01445_pub_snappy_ErrTooLarge {H : Type} : DataW H := .iface "*errors.errorString" (.ptr (.agg [.lit (.string [115, 110, 97, 112, 112, 121, 58, 32, 100, 101, 99, 111, 100, 101, 100, 32, 98, 108, 111, 99, 107, 32, 105, 115, 32, 116, 111, 111, 32, 108, 97, 114, 103, 101])]))
def laid_loop_example_pub_g01445_pub_snappy_ErrUnsupported {H : Type} : DataW H := .iface "*errors.errorString" (.ptr (.agg [.lit (.string [115, 110, 97, 112, 112, 121, 58, 32, 117, 110, 115, 117, 112, 112, 111, 114, 116, 101, 100, 32, 105, 110, 112, 117, 116])]))
def laid_loop_example_pub_g01445_pub_snappy_errUnsupportedLiteralLength {H : Type} : DataW H := .iface "*errors.errorString" (.ptr (.agg [.lit (.string [115, 110, 97, 112, 112, 121, 58, 32, 117, 110, 115, 117, 112, 112, 111, 114, 116, 101, 100, 32, 108, 105, 116, 101, 114, 97, 108, 32, 108, 101, 110, 103, 116, 104])]))

/-- 'laws.FnDecodePadded': WHATEVER THE INPUT: true; the input reads as it did. -/
def fnDecodePaddedSpec : ChangeSpec := { name := "fnDecodePadded", vars := ["loop.example/pub-g01445/pub/snappy.errUnsupportedLiteralLength", "loop.example/pub-g01445/pub/snappy.ErrCorrupt", "loop.example/pub-g01445/pub/snappy.ErrTooLarge", "loop.example/pub-g01445/pub/snappy.ErrUnsupported"], fn := fun _ => fun
  | [d1, d2, d3, g1, g2, g3, g4] => { results := [.lit (.bool true)], args := [d1, d2, d3], vars := [g1, g2, g3, g4] }
  | _ => none }
def fnDecodePaddedRow : OpenClaim := { program := "ytfnejblenapddaadoor", sum := "09bf9247c2133a245da7b8ea4cc15a9399f09f6b0c185b739f1285506e587463", func := "loop.example/pub-g01445/laws.FnDecodePadded", spec := "fnDecodePadded", named := ["loop.example/pub-g01445/pub/snappy.errUnsupportedLiteralLength", "loop.example/pub-g01445/pub/snappy.ErrCorrupt", "loop.example/pub-g01445/pub/snappy.ErrTooLarge", "loop.example/pub-g01445/pub/snappy.ErrUnsupported"], ifaces := true, apart := false, laid := [("loop.example/pub-g01445/pub/snappy.ErrCorrupt", laid_loop_example_pub_g01445_pub_snappy_ErrCorrupt), ("loop.example/pub-g01445/pub/snappy.ErrTooLarge", laid_loop_example_pub_g01445_pub_snappy_ErrTooLarge), ("loop.example/pub-g01445/pub/snappy.ErrUnsupported", laid_loop_example_pub_g01445_pub_snappy_ErrUnsupported), ("loop.example/pub-g01445/pub/snappy.errUnsupportedLiteralLength", laid_loop_example_pub_g01445_pub_snappy_errUnsupportedLiteralLength)] }
def FnDecodePaddedSaid : Prop := fnDecodePaddedRow.holds Tryd.pinned (OpenSpec.ofChange fnDecodePaddedSpec)

/-- ITS FALSE NEIGHBOUR: 'it returns false'. Refute it at one input. -/
def fnDecodePaddedWrong : ChangeSpec := { name := "fnDecodePadded", vars := ["loop.example/pub-g01445/pub/snappy.errUnsupportedLiteralLength", "loop.example/pub-g01445/pub/snappy.ErrCorrupt", "loop.example/pub-g01445/pub/snappy.ErrTooLarge", "loop.example/pub-g01445/pub/snappy.ErrUnsupported"], fn := fun _ => fun
  | [d1, d2, d3, g1, g2, g3, g4] => { results := [.lit (.bool false)], args := [d1, d2, d3], vars := [g1, g2, g3, g4] }
  | _ => none }
def FnDecodePaddedWrongFalsely : Prop := fnDecodePaddedRow.holds Tryd.pinned (OpenSpec.ofChange fnDecodePaddedWrong)

/-- 'laws.FnCut': WHATEVER THE INPUT: true; the input reads as it did. -/
def fnCutSpec : ChangeSpec := { name := "fnCut", vars := ["loop.example/pub-g01445/pub/snappy.ErrTooLarge", "loop.example/pub-g01445/pub/snappy.errUnsupportedLiteralLength", "loop.example/pub-g01445/pub/snappy.ErrCorrupt", "loop.example/pub-g01445/pub/snappy.ErrUnsupported"], fn := fun _ => fun
  | [d1, d2, g1, g2, g3, g4] => { results := [.lit (.bool true)], args := [d1, d2], vars := [g1, g2, g3, g4] }
  | _ => none }
def fnCutRow : OpenClaim := { program := "ytfnejblenapddaadoor", sum := "09bf9247c2133a245da7b8ea4cc15a9399f09f6b0c185b739f1285506e587463", func := "loop.example/pub-g01445/laws.FnCut", spec := "fnCut", named := ["loop.example/pub-g01445/pub/snappy.ErrTooLarge", "loop.example/pub-g01445/pub/snappy.errUnsupportedLiteralLength", "loop.example/pub-g01445/pub/snappy.ErrCorrupt", "loop.example/pub-g01445/pub/snappy.ErrUnsupported"], ifaces := true, apart := false, laid := [("loop.example/pub-g01445/pub/snappy.ErrCorrupt", laid_loop_example_pub_g01445_pub_snappy_ErrCorrupt), ("loop.example/pub-g01445/pub/snappy.ErrTooLarge", laid_loop_example_pub_g01445_pub_snappy_ErrTooLarge), ("loop.example/pub-g01445/pub/snappy.ErrUnsupported", laid_loop_example_pub_g01445_pub_snappy_ErrUnsupported), ("loop.example/pub-g01445/pub/snappy.errUnsupportedLiteralLength", laid_loop_example_pub_g01445_pub_snappy_errUnsupportedLiteralLength)] }
def FnCutSaid : Prop := fnCutRow.holds Tryd.pinned (OpenSpec.ofChange fnCutSpec)

/-- ITS FALSE NEIGHBOUR: 'it returns false'. Refute it at one input. -/
def fnCutWrong : ChangeSpec := { name := "fnCut", vars := ["loop.example/pub-g01445/pub/snappy.ErrTooLarge", "loop.example/pub-g01445/pub/snappy.errUnsupportedLiteralLength", "loop.example/pub-g01445/pub/snappy.ErrCorrupt", "loop.example/pub-g01445/pub/snappy.ErrUnsupported"], fn := fun _ => fun
  | [d1, d2, g1, g2, g3, g4] => { results := [.lit (.bool false)], args := [d1, d2], vars := [g1, g2, g3, g4] }
  | _ => none }
def FnCutWrongFalsely : Prop := fnCutRow.holds Tryd.pinned (OpenSpec.ofChange fnCutWrong)

/-- 'laws.FnEncodeDecode': WHATEVER THE INPUT: true; the input reads as it did. -/
def fnEncodeDecodeSpec : ChangeSpec := { name := "fnEncodeDecode", vars := ["loop.example/pub-g01445/pub/snappy.ErrTooLarge", "loop.example/pub-g01445/pub/snappy.errUnsupportedLiteralLength", "loop.example/pub-g01445/pub/snappy.ErrCorrupt", "loop.example/pub-g01445/pub/snappy.ErrUnsupported"], fn := fun _ => fun
  | [d, g1, g2, g3, g4] => { results := [.lit (.bool true)], args := [d], vars := [g1, g2, g3, g4] }
  | _ => none }
def fnEncodeDecodeRow : OpenClaim := { program := "ytfnejblenapddaadoor", sum := "09bf9247c2133a245da7b8ea4cc15a9399f09f6b0c185b739f1285506e587463", func := "loop.example/pub-g01445/laws.FnEncodeDecode", spec := "fnEncodeDecode", named := ["loop.example/pub-g01445/pub/snappy.ErrTooLarge", "loop.example/pub-g01445/pub/snappy.errUnsupportedLiteralLength", "loop.example/pub-g01445/pub/snappy.ErrCorrupt", "loop.example/pub-g01445/pub/snappy.ErrUnsupported"], ifaces := true, apart := false, laid := [("loop.example/pub-g01445/pub/snappy.ErrCorrupt", laid_loop_example_pub_g01445_pub_snappy_ErrCorrupt), ("loop.example/pub-g01445/pub/snappy.ErrTooLarge", laid_loop_example_pub_g01445_pub_snappy_ErrTooLarge), ("loop.example/pub-g01445/pub/snappy.ErrUnsupported", laid_loop_example_pub_g01445_pub_snappy_ErrUnsupported), ("loop.example/pub-g01445/pub/snappy.errUnsupportedLiteralLength", laid_loop_example_pub_g01445_pub_snappy_errUnsupportedLiteralLength)] }
def FnEncodeDecodeSaid : Prop := fnEncodeDecodeRow.holds Tryd.pinned (OpenSpec.ofChange fnEncodeDecodeSpec)

/-- ITS FALSE NEIGHBOUR: 'it returns false'. Refute it at one input. -/
def fnEncodeDecodeWrong : ChangeSpec := { name := "fnEncodeDecode", vars := ["loop.example/pub-g01445/pub/snappy.ErrTooLarge", "loop.example/pub-g01445/pub/snappy.errUnsupportedLiteralLength", "loop.example/pub-g01445/pub/snappy.ErrCorrupt", "loop.example/pub-g01445/pub/snappy.ErrUnsupported"], fn := fun _ => fun
  | [d, g1, g2, g3, g4] => { results := [.lit (.bool false)], args := [d], vars := [g1, g2, g3, g4] }
  | _ => none }
def FnEncodeDecodeWrongFalsely : Prop := fnEncodeDecodeRow.holds Tryd.pinned (OpenSpec.ofChange fnEncodeDecodeWrong)

/-- 'laws.FnEncodeRoom': WHATEVER THE INPUT: true; the input reads as it did. -/
def fnEncodeRoomSpec : ChangeSpec := { name := "fnEncodeRoom", vars := ["loop.example/pub-g01445/pub/snappy.ErrTooLarge", "loop.example/pub-g01445/pub/snappy.errUnsupportedLiteralLength", "loop.example/pub-g01445/pub/snappy.ErrCorrupt", "loop.example/pub-g01445/pub/snappy.ErrUnsupported"], fn := fun _ => fun
  | [d1, d2, g1, g2, g3, g4] => { results := [.lit (.bool true)], args := [d1, d2], vars := [g1, g2, g3, g4] }
  | _ => none }
def fnEncodeRoomRow : OpenClaim := { program := "ytfnejblenapddaadoor", sum := "09bf9247c2133a245da7b8ea4cc15a9399f09f6b0c185b739f1285506e587463", func := "loop.example/pub-g01445/laws.FnEncodeRoom", spec := "fnEncodeRoom", named := ["loop.example/pub-g01445/pub/snappy.ErrTooLarge", "loop.example/pub-g01445/pub/snappy.errUnsupportedLiteralLength", "loop.example/pub-g01445/pub/snappy.ErrCorrupt", "loop.example/pub-g01445/pub/snappy.ErrUnsupported"], ifaces := true, apart := false, laid := [("loop.example/pub-g01445/pub/snappy.ErrCorrupt", laid_loop_example_pub_g01445_pub_snappy_ErrCorrupt), ("loop.example/pub-g01445/pub/snappy.ErrTooLarge", laid_loop_example_pub_g01445_pub_snappy_ErrTooLarge), ("loop.example/pub-g01445/pub/snappy.ErrUnsupported", laid_loop_example_pub_g01445_pub_snappy_ErrUnsupported), ("loop.example/pub-g01445/pub/snappy.errUnsupportedLiteralLength", laid_loop_example_pub_g01445_pub_snappy_errUnsupportedLiteralLength)] }
def FnEncodeRoomSaid : Prop := fnEncodeRoomRow.holds Tryd.pinned (OpenSpec.ofChange fnEncodeRoomSpec)

/-- ITS FALSE NEIGHBOUR: 'it returns false'. Refute it at one input. -/
def fnEncodeRoomWrong : ChangeSpec := { name := "fnEncodeRoom", vars := ["loop.example/pub-g01445/pub/snappy.ErrTooLarge", "loop.example/pub-g01445/pub/snappy.errUnsupportedLiteralLength", "loop.example/pub-g01445/pub/snappy.ErrCorrupt", "loop.example/pub-g01445/pub/snappy.ErrUnsupported"], fn := fun _ => fun
  | [d1, d2, g1, g2, g3, g4] => { results := [.lit (.bool false)], args := [d1, d2], vars := [g1, g2, g3, g4] }
  | _ => none }
def FnEncodeRoomWrongFalsely : Prop := fnEncodeRoomRow.holds Tryd.pinned (OpenSpec.ofChange fnEncodeRoomWrong)

/-- 'laws.FnEncodeTwice': WHATEVER THE INPUT: true; the input reads as it did. -/
def fnEncodeTwiceSpec : ChangeSpec := { name := "fnEncodeTwice", vars := ["loop.example/pub-g01445/pub/snappy.ErrTooLarge", "loop.example/pub-g01445/pub/snappy.errUnsupportedLiteralLength", "loop.example/pub-g01445/pub/snappy.ErrCorrupt", "loop.example/pub-g01445/pub/snappy.ErrUnsupported"], fn := fun _ => fun
  | [d, g1, g2, g3, g4] => { results := [.lit (.bool true)], args := [d], vars := [g1, g2, g3, g4] }
  | _ => none }
def fnEncodeTwiceRow : OpenClaim := { program := "ytfnejblenapddaadoor", sum := "09bf9247c2133a245da7b8ea4cc15a9399f09f6b0c185b739f1285506e587463", func := "loop.example/pub-g01445/laws.FnEncodeTwice", spec := "fnEncodeTwice", named := ["loop.example/pub-g01445/pub/snappy.ErrTooLarge", "loop.example/pub-g01445/pub/snappy.errUnsupportedLiteralLength", "loop.example/pub-g01445/pub/snappy.ErrCorrupt", "loop.example/pub-g01445/pub/snappy.ErrUnsupported"], ifaces := true, apart := false, laid := [("loop.example/pub-g01445/pub/snappy.ErrCorrupt", laid_loop_example_pub_g01445_pub_snappy_ErrCorrupt), ("loop.example/pub-g01445/pub/snappy.ErrTooLarge", laid_loop_example_pub_g01445_pub_snappy_ErrTooLarge), ("loop.example/pub-g01445/pub/snappy.ErrUnsupported", laid_loop_example_pub_g01445_pub_snappy_ErrUnsupported), ("loop.example/pub-g01445/pub/snappy.errUnsupportedLiteralLength", laid_loop_example_pub_g01445_pub_snappy_errUnsupportedLiteralLength)] }
def FnEncodeTwiceSaid : Prop := fnEncodeTwiceRow.holds Tryd.pinned (OpenSpec.ofChange fnEncodeTwiceSpec)

/-- ITS FALSE NEIGHBOUR: 'it returns false'. Refute it at one input. -/
def fnEncodeTwiceWrong : ChangeSpec := { name := "fnEncodeTwice", vars := ["loop.example/pub-g01445/pub/snappy.ErrTooLarge", "loop.example/pub-g01445/pub/snappy.errUnsupportedLiteralLength", "loop.example/pub-g01445/pub/snappy.ErrCorrupt", "loop.example/pub-g01445/pub/snappy.ErrUnsupported"], fn := fun _ => fun
  | [d, g1, g2, g3, g4] => { results := [.lit (.bool false)], args := [d], vars := [g1, g2, g3, g4] }
  | _ => none }
def FnEncodeTwiceWrongFalsely : Prop := fnEncodeTwiceRow.holds Tryd.pinned (OpenSpec.ofChange fnEncodeTwiceWrong)

/-- 'laws.FnJoin': WHATEVER THE INPUT: true; the input reads as it did. -/
def fnJoinSpec : ChangeSpec := { name := "fnJoin", vars := ["loop.example/pub-g01445/pub/snappy.ErrTooLarge", "loop.example/pub-g01445/pub/snappy.errUnsupportedLiteralLength", "loop.example/pub-g01445/pub/snappy.ErrCorrupt", "loop.example/pub-g01445/pub/snappy.ErrUnsupported"], fn := fun _ => fun
  | [d1, d2, g1, g2, g3, g4] => { results := [.lit (.bool true)], args := [d1, d2], vars := [g1, g2, g3, g4] }
  | _ => none }
def fnJoinRow : OpenClaim := { program := "ytfnejblenapddaadoor", sum := "09bf9247c2133a245da7b8ea4cc15a9399f09f6b0c185b739f1285506e587463", func := "loop.example/pub-g01445/laws.FnJoin", spec := "fnJoin", named := ["loop.example/pub-g01445/pub/snappy.ErrTooLarge", "loop.example/pub-g01445/pub/snappy.errUnsupportedLiteralLength", "loop.example/pub-g01445/pub/snappy.ErrCorrupt", "loop.example/pub-g01445/pub/snappy.ErrUnsupported"], ifaces := true, apart := false, laid := [("loop.example/pub-g01445/pub/snappy.ErrCorrupt", laid_loop_example_pub_g01445_pub_snappy_ErrCorrupt), ("loop.example/pub-g01445/pub/snappy.ErrTooLarge", laid_loop_example_pub_g01445_pub_snappy_ErrTooLarge), ("loop.example/pub-g01445/pub/snappy.ErrUnsupported", laid_loop_example_pub_g01445_pub_snappy_ErrUnsupported), ("loop.example/pub-g01445/pub/snappy.errUnsupportedLiteralLength", laid_loop_example_pub_g01445_pub_snappy_errUnsupportedLiteralLength)] }
def FnJoinSaid : Prop := fnJoinRow.holds Tryd.pinned (OpenSpec.ofChange fnJoinSpec)

/-- ITS FALSE NEIGHBOUR: 'it returns false'. Refute it at one input. -/
def fnJoinWrong : ChangeSpec := { name := "fnJoin", vars := ["loop.example/pub-g01445/pub/snappy.ErrTooLarge", "loop.example/pub-g01445/pub/snappy.errUnsupportedLiteralLength", "loop.example/pub-g01445/pub/snappy.ErrCorrupt", "loop.example/pub-g01445/pub/snappy.ErrUnsupported"], fn := fun _ => fun
  | [d1, d2, g1, g2, g3, g4] => { results := [.lit (.bool false)], args := [d1, d2], vars := [g1, g2, g3, g4] }
  | _ => none }
def FnJoinWrongFalsely : Prop := fnJoinRow.holds Tryd.pinned (OpenSpec.ofChange fnJoinWrong)

/-- 'laws.FnLossless': WHATEVER THE INPUT: true; the input reads as it did. -/
def fnLosslessSpec : ChangeSpec := { name := "fnLossless", vars := ["loop.example/pub-g01445/pub/snappy.ErrTooLarge", "loop.example/pub-g01445/pub/snappy.ErrCorrupt", "loop.example/pub-g01445/pub/snappy.ErrUnsupported", "loop.example/pub-g01445/pub/snappy.errUnsupportedLiteralLength"], fn := fun _ => fun
  | [d, g1, g2, g3, g4] => { results := [.lit (.bool true)], args := [d], vars := [g1, g2, g3, g4] }
  | _ => none }
def fnLosslessRow : OpenClaim := { program := "ytfnejblenapddaadoor", sum := "09bf9247c2133a245da7b8ea4cc15a9399f09f6b0c185b739f1285506e587463", func := "loop.example/pub-g01445/laws.FnLossless", spec := "fnLossless", named := ["loop.example/pub-g01445/pub/snappy.ErrTooLarge", "loop.example/pub-g01445/pub/snappy.ErrCorrupt", "loop.example/pub-g01445/pub/snappy.ErrUnsupported", "loop.example/pub-g01445/pub/snappy.errUnsupportedLiteralLength"], ifaces := true, apart := false, laid := [("loop.example/pub-g01445/pub/snappy.ErrCorrupt", laid_loop_example_pub_g01445_pub_snappy_ErrCorrupt), ("loop.example/pub-g01445/pub/snappy.ErrTooLarge", laid_loop_example_pub_g01445_pub_snappy_ErrTooLarge), ("loop.example/pub-g01445/pub/snappy.ErrUnsupported", laid_loop_example_pub_g01445_pub_snappy_ErrUnsupported), ("loop.example/pub-g01445/pub/snappy.errUnsupportedLiteralLength", laid_loop_example_pub_g01445_pub_snappy_errUnsupportedLiteralLength)] }
def FnLosslessSaid : Prop := fnLosslessRow.holds Tryd.pinned (OpenSpec.ofChange fnLosslessSpec)

/-- ITS FALSE NEIGHBOUR: 'it returns false'. Refute it at one input. -/
def fnLosslessWrong : ChangeSpec := { name := "fnLossless", vars := ["loop.example/pub-g01445/pub/snappy.ErrTooLarge", "loop.example/pub-g01445/pub/snappy.ErrCorrupt", "loop.example/pub-g01445/pub/snappy.ErrUnsupported", "loop.example/pub-g01445/pub/snappy.errUnsupportedLiteralLength"], fn := fun _ => fun
  | [d, g1, g2, g3, g4] => { results := [.lit (.bool false)], args := [d], vars := [g1, g2, g3, g4] }
  | _ => none }
def FnLosslessWrongFalsely : Prop := fnLosslessRow.holds Tryd.pinned (OpenSpec.ofChange fnLosslessWrong)

/- THE SECOND FORM. 'bulk': how many values and letters a reading holds, each counted each time it is reached (what is shared counts as often as it is met; a slice's spare places count too). A statement '..UptoSaid' is the law's where the arguments, and the package variables that the reading takes, are together of bulk at most 1048576: NARROWER than '..Said'. Prove '..Said' where nothing that the law and all that it calls make is longer than what came in: it says more and counts as full. Else prove '..UptoSaid'. A law counts once. -/
mutual
def uptoBulk {H : Type} : DataW H → Nat
  | .lit (.string bytes) => bytes.length + 1
  | .lit _ => 1
  | .nil => 1
  | .ptr d => uptoBulk d + 1
  | .slice elems spare => uptoBulkAll elems + uptoBulkAll spare + 1
  | .agg parts => uptoBulkAll parts + 1
  | .iface _ d => uptoBulk d + 1
  | .map entries => uptoBulkEntries entries + 1
  | .held _ => 1
def uptoBulkAll {H : Type} : List (DataW H) → Nat
  | [] => 0
  | d :: r => uptoBulk d + uptoBulkAll r
def uptoBulkEntries {H : Type} : List (Lit × DataW H) → Nat
  | [] => 0
  | x :: r => uptoBulkEntry x + uptoBulkEntries r
def uptoBulkEntry {H : Type} : Lit × DataW H → Nat
  | (.string bytes, d) => bytes.length + uptoBulk d + 1
  | (_, d) => uptoBulk d + 1
 end
def uptoSmall : (H : Type) → List (DataW H) → Bool := fun _ ds => decide (uptoBulkAll ds ≤ 1048576)
def OpenSpec.upto (s : _root_.Go.ChangeSpec) : _root_.Go.OpenSpec := { _root_.Go.OpenSpec.ofChange s with cond := some uptoSmall }

/-- 'laws.FnDecodePadded', WHERE WHAT IT READS IS OF BULK AT MOST 1048576: true; the input reads as it did. -/
def fnDecodePaddedUptoRow : OpenClaim := { program := "ytfnejblenapddaadoor", sum := "09bf9247c2133a245da7b8ea4cc15a9399f09f6b0c185b739f1285506e587463", func := "loop.example/pub-g01445/laws.FnDecodePadded", spec := "fnDecodePadded", named := ["loop.example/pub-g01445/pub/snappy.errUnsupportedLiteralLength", "loop.example/pub-g01445/pub/snappy.ErrCorrupt", "loop.example/pub-g01445/pub/snappy.ErrTooLarge", "loop.example/pub-g01445/pub/snappy.ErrUnsupported"], ifaces := true, apart := false, laid := [("loop.example/pub-g01445/pub/snappy.ErrCorrupt", laid_loop_example_pub_g01445_pub_snappy_ErrCorrupt), ("loop.example/pub-g01445/pub/snappy.ErrTooLarge", laid_loop_example_pub_g01445_pub_snappy_ErrTooLarge), ("loop.example/pub-g01445/pub/snappy.ErrUnsupported", laid_loop_example_pub_g01445_pub_snappy_ErrUnsupported), ("loop.example/pub-g01445/pub/snappy.errUnsupportedLiteralLength", laid_loop_example_pub_g01445_pub_snappy_errUnsupportedLiteralLength)], narrowed := true }
def FnDecodePaddedUptoSaid : Prop := fnDecodePaddedUptoRow.holds Tryd.pinned (OpenSpec.upto fnDecodePaddedSpec)

/-- 'laws.FnCut', WHERE WHAT IT READS IS OF BULK AT MOST 1048576: true; the input reads as it did. -/
def fnCutUptoRow : OpenClaim := { program := "ytfnejblenapddaadoor", sum := "09bf9247c2133a245da7b8ea4cc15a9399f09f6b0c185b739f1285506e587463", func := "loop.example/pub-g01445/laws.FnCut", spec := "fnCut", named := ["loop.example/pub-g01445/pub/snappy.ErrTooLarge", "loop.example/pub-g01445/pub/snappy.errUnsupportedLiteralLength", "loop.example/pub-g01445/pub/snappy.ErrCorrupt", "loop.example/pub-g01445/pub/snappy.ErrUnsupported"], ifaces := true, apart := false, laid := [("loop.example/pub-g01445/pub/snappy.ErrCorrupt", laid_loop_example_pub_g01445_pub_snappy_ErrCorrupt), ("loop.example/pub-g01445/pub/snappy.ErrTooLarge", laid_loop_example_pub_g01445_pub_snappy_ErrTooLarge), ("loop.example/pub-g01445/pub/snappy.ErrUnsupported", laid_loop_example_pub_g01445_pub_snappy_ErrUnsupported), ("loop.example/pub-g01445/pub/snappy.errUnsupportedLiteralLength", laid_loop_example_pub_g01445_pub_snappy_errUnsupportedLiteralLength)], narrowed := true }
def FnCutUptoSaid : Prop := fnCutUptoRow.holds Tryd.pinned (OpenSpec.upto fnCutSpec)

/-- 'laws.FnEncodeDecode', WHERE WHAT IT READS IS OF BULK AT MOST 1048576: true; the input reads as it did. -/
def fnEncodeDecodeUptoRow : OpenClaim := { program := "ytfnejblenapddaadoor", sum := "09bf9247c2133a245da7b8ea4cc15a9399f09f6b0c185b739f1285506e587463", func := "loop.example/pub-g01445/laws.FnEncodeDecode", spec := "fnEncodeDecode", named := ["loop.example/pub-g01445/pub/snappy.ErrTooLarge", "loop.example/pub-g01445/pub/snappy.errUnsupportedLiteralLength", "loop.example/pub-g01445/pub/snappy.ErrCorrupt", "loop.example/pub-g01445/pub/snappy.ErrUnsupported"], ifaces := true, apart := false, laid := [("loop.example/pub-g01445/pub/snappy.ErrCorrupt", laid_loop_example_pub_g01445_pub_snappy_ErrCorrupt), ("loop.example/pub-g01445/pub/snappy.ErrTooLarge", laid_loop_example_pub_g01445_pub_snappy_ErrTooLarge), ("loop.example/pub-g01445/pub/snappy.ErrUnsupported", laid_loop_example_pub_g01445_pub_snappy_ErrUnsupported), ("loop.example/pub-g01445/pub/snappy.errUnsupportedLiteralLength", laid_loop_example_pub_g01445_pub_snappy_errUnsupportedLiteralLength)], narrowed := true }
def FnEncodeDecodeUptoSaid : Prop := fnEncodeDecodeUptoRow.holds Tryd.pinned (OpenSpec.upto fnEncodeDecodeSpec)

/-- 'laws.FnEncodeRoom', WHERE WHAT IT READS IS OF BULK AT MOST 1048576: true; the input reads as it did. -/
def fnEncodeRoomUptoRow : OpenClaim := { program := "ytfnejblenapddaadoor", sum := "09bf9247c2133a245da7b8ea4cc15a9399f09f6b0c185b739f1285506e587463", func := "loop.example/pub-g01445/laws.FnEncodeRoom", spec := "fnEncodeRoom", named := ["loop.example/pub-g01445/pub/snappy.ErrTooLarge", "loop.example/pub-g01445/pub/snappy.errUnsupportedLiteralLength", "loop.example/pub-g01445/pub/snappy.ErrCorrupt", "loop.example/pub-g01445/pub/snappy.ErrUnsupported"], ifaces := true, apart := false, laid := [("loop.example/pub-g01445/pub/snappy.ErrCorrupt", laid_loop_example_pub_g01445_pub_snappy_ErrCorrupt), ("loop.example/pub-g01445/pub/snappy.ErrTooLarge", laid_loop_example_pub_g01445_pub_snappy_ErrTooLarge), ("loop.example/pub-g01445/pub/snappy.ErrUnsupported", laid_loop_example_pub_g01445_pub_snappy_ErrUnsupported), ("loop.example/pub-g01445/pub/snappy.errUnsupportedLiteralLength", laid_loop_example_pub_g01445_pub_snappy_errUnsupportedLiteralLength)], narrowed := true }
def FnEncodeRoomUptoSaid : Prop := fnEncodeRoomUptoRow.holds Tryd.pinned (OpenSpec.upto fnEncodeRoomSpec)

/-- 'laws.FnEncodeTwice', WHERE WHAT IT READS IS OF BULK AT MOST 1048576: true; the input reads as it did. -/
def fnEncodeTwiceUptoRow : OpenClaim := { program := "ytfnejblenapddaadoor", sum := "09bf9247c2133a245da7b8ea4cc15a9399f09f6b0c185b739f1285506e587463", func := "loop.example/pub-g01445/laws.FnEncodeTwice", spec := "fnEncodeTwice", named := ["loop.example/pub-g01445/pub/snappy.ErrTooLarge", "loop.example/pub-g01445/pub/snappy.errUnsupportedLiteralLength", "loop.example/pub-g01445/pub/snappy.ErrCorrupt", "loop.example/pub-g01445/pub/snappy.ErrUnsupported"], ifaces := true, apart := false, laid := [("loop.example/pub-g01445/pub/snappy.ErrCorrupt", laid_loop_example_pub_g01445_pub_snappy_ErrCorrupt), ("loop.example/pub-g01445/pub/snappy.ErrTooLarge", laid_loop_example_pub_g01445_pub_snappy_ErrTooLarge), ("loop.example/pub-g01445/pub/snappy.ErrUnsupported", laid_loop_example_pub_g01445_pub_snappy_ErrUnsupported), ("loop.example/pub-g01445/pub/snappy.errUnsupportedLiteralLength", laid_loop_example_pub_g01445_pub_snappy_errUnsupportedLiteralLength)], narrowed := true }
def FnEncodeTwiceUptoSaid : Prop := fnEncodeTwiceUptoRow.holds Tryd.pinned (OpenSpec.upto fnEncodeTwiceSpec)

/-- 'laws.FnJoin', WHERE WHAT IT READS IS OF BULK AT MOST 1048576: true; the input reads as it did. -/
def fnJoinUptoRow : OpenClaim := { program := "ytfnejblenapddaadoor", sum := "09bf9247c2133a245da7b8ea4cc15a9399f09f6b0c185b739f1285506e587463", func := "loop.example/pub-g01445/laws.FnJoin", spec := "fnJoin", named := ["loop.example/pub-g01445/pub/snappy.ErrTooLarge", "loop.example/pub-g01445/pub/snappy.errUnsupportedLiteralLength", "loop.example/pub-g01445/pub/snappy.ErrCorrupt", "loop.example/pub-g01445/pub/snappy.ErrUnsupported"], ifaces := true, apart := false, laid := [("loop.example/pub-g01445/pub/snappy.ErrCorrupt", laid_loop_example_pub_g01445_pub_snappy_ErrCorrupt), ("loop.example/pub-g01445/pub/snappy.ErrTooLarge", laid_loop_example_pub_g01445_pub_snappy_ErrTooLarge), ("loop.example/pub-g01445/pub/snappy.ErrUnsupported", laid_loop_example_pub_g01445_pub_snappy_ErrUnsupported), ("loop.example/pub-g01445/pub/snappy.errUnsupportedLiteralLength", laid_loop_example_pub_g01445_pub_snappy_errUnsupportedLiteralLength)], narrowed := true }
def FnJoinUptoSaid : Prop := fnJoinUptoRow.holds Tryd.pinned (OpenSpec.upto fnJoinSpec)

/-- 'laws.FnLossless', WHERE WHAT IT READS IS OF BULK AT MOST 1048576: true; the input reads as it did. -/
def fnLosslessUptoRow : OpenClaim := { program := "ytfnejblenapddaadoor", sum := "09bf9247c2133a245da7b8ea4cc15a9399f09f6b0c185b739f1285506e587463", func := "loop.example/pub-g01445/laws.FnLossless", spec := "fnLossless", named := ["loop.example/pub-g01445/pub/snappy.ErrTooLarge", "loop.example/pub-g01445/pub/snappy.ErrCorrupt", "loop.example/pub-g01445/pub/snappy.ErrUnsupported", "loop.example/pub-g01445/pub/snappy.errUnsupportedLiteralLength"], ifaces := true, apart := false, laid := [("loop.example/pub-g01445/pub/snappy.ErrCorrupt", laid_loop_example_pub_g01445_pub_snappy_ErrCorrupt), ("loop.example/pub-g01445/pub/snappy.ErrTooLarge", laid_loop_example_pub_g01445_pub_snappy_ErrTooLarge), ("loop.example/pub-g01445/pub/snappy.ErrUnsupported", laid_loop_example_pub_g01445_pub_snappy_ErrUnsupported), ("loop.example/pub-g01445/pub/snappy.errUnsupportedLiteralLength", laid_loop_example_pub_g01445_pub_snappy_errUnsupportedLiteralLength)], narrowed := true }
def FnLosslessUptoSaid : Prop := fnLosslessUptoRow.holds Tryd.pinned (OpenSpec.upto fnLosslessSpec)

end Rows
end Go.Proofs.YtfnejblenapddaaDoor
