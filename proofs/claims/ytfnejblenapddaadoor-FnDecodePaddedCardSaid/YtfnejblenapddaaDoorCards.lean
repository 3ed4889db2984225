/-
  DERIVED. GIVEN WITH THE SEED: THE CARDS: each row of YtfnejblenapddaaDoorRows.lean that lists a variable, with what it lists TIED to the program's text (the seventh form; the later family's looks); each row that meets fmt, with fmt's text TOLD by the authors' own Lean function (tested against real Go, not proved from fmt's source: count such statements apart). THE CARD IS WHAT COUNTS. Prove the row's statement (the work); the ties are given (YtfnejblenapddaaDoorTie.lean); close each card by the builder's one call (the guide's Derived/Test/ToyasCard.lean, 'card_holds'). Laid BY PROGRAM, IN A SANDBOX (cutbox-door.mjs). By AI agents, Wed Nov 11 2026. No macro, syntax, notation, axiom, sorry.
-/
import Derived.Test.YtfnejblenapddaaDoorRows
import GoSem.ClaimSeven
namespace Go.Proofs.YtfnejblenapddaaDoor
namespace Rows

/-- THE TIED CARD OF 'laws.FnDecodePadded'. -/
def fnDecodePaddedCard : Claim7 := { stood := { row := fnDecodePaddedRow, standIns := [], harness := (true, "074ac426e453cd3477b2f450dc9de4b45139d1815f771e5b7b889a57d0dde450"), looks := true }, kinds := [], alts := [], laidByText := true, laidKinds := [.sentinel, .sentinel, .sentinel, .sentinel], laidTests := true, laidLooks := .later }
def FnDecodePaddedCardSaid : Prop := Claim7.holds Tryd.pinned (.plain (OpenSpec.ofChange fnDecodePaddedSpec)) fnDecodePaddedCard

/-- THE TIED CARD OF 'laws.FnCut'. -/
def fnCutCard : Claim7 := { stood := { row := fnCutRow, standIns := [], harness := (true, "074ac426e453cd3477b2f450dc9de4b45139d1815f771e5b7b889a57d0dde450"), looks := true }, kinds := [], alts := [], laidByText := true, laidKinds := [.sentinel, .sentinel, .sentinel, .sentinel], laidTests := true, laidLooks := .later }
def FnCutCardSaid : Prop := Claim7.holds Tryd.pinned (.plain (OpenSpec.ofChange fnCutSpec)) fnCutCard

/-- THE TIED CARD OF 'laws.FnEncodeDecode'. -/
def fnEncodeDecodeCard : Claim7 := { stood := { row := fnEncodeDecodeRow, standIns := [], harness := (true, "074ac426e453cd3477b2f450dc9de4b45139d1815f771e5b7b889a57d0dde450"), looks := true }, kinds := [], alts := [], laidByText := true, laidKinds := [.sentinel, .sentinel, .sentinel, .sentinel], laidTests := true, laidLooks := .later }
def FnEncodeDecodeCardSaid : Prop := Claim7.holds Tryd.pinned (.plain (OpenSpec.ofChange fnEncodeDecodeSpec)) fnEncodeDecodeCard

/-- THE TIED CARD OF 'laws.FnEncodeRoom'. -/
def fnEncodeRoomCard : Claim7 := { stood := { row := fnEncodeRoomRow, standIns := [], harness := (true, "074ac426e453cd3477b2f450dc9de4b45139d1815f771e5b7b889a57d0dde450"), looks := true }, kinds := [], alts := [], laidByText := true, laidKinds := [.sentinel, .sentinel, .sentinel, .sentinel], laidTests := true, laidLooks := .later }
def FnEncodeRoomCardSaid : Prop := Claim7.holds Tryd.pinned (.plain (OpenSpec.ofChange fnEncodeRoomSpec)) fnEncodeRoomCard

/-- THE TIED CARD OF 'laws.FnEncodeTwice'. -/
def fnEncodeTwiceCard : Claim7 := { stood := { row := fnEncodeTwiceRow, standIns := [], harness := (true, "074ac426e453cd3477b2f450dc9de4b45139d1815f771e5b7b889a57d0dde450"), looks := true }, kinds := [], alts := [], laidByText := true, laidKinds := [.sentinel, .sentinel, .sentinel, .sentinel], laidTests := true, laidLooks := .later }
def FnEncodeTwiceCardSaid : Prop := Claim7.holds Tryd.pinned (.plain (OpenSpec.ofChange fnEncodeTwiceSpec)) fnEncodeTwiceCard

/-- THE TIED CARD OF 'laws.FnJoin'. -/
def fnJoinCard : Claim7 := { stood := { row := fnJoinRow, standIns := [], harness := (true, "074ac426e453cd3477b2f450dc9de4b45139d1815f771e5b7b889a57d0dde450"), looks := true }, kinds := [], alts := [], laidByText := true, laidKinds := [.sentinel, .sentinel, .sentinel, .sentinel], laidTests := true, laidLooks := .later }
def FnJoinCardSaid : Prop := Claim7.holds Tryd.pinned (.plain (OpenSpec.ofChange fnJoinSpec)) fnJoinCard

/-- THE TIED CARD OF 'laws.FnLossless'. -/
def fnLosslessCard : Claim7 := { stood := { row := fnLosslessRow, standIns := [], harness := (true, "074ac426e453cd3477b2f450dc9de4b45139d1815f771e5b7b889a57d0dde450"), looks := true }, kinds := [], alts := [], laidByText := true, laidKinds := [.sentinel, .sentinel, .sentinel, .sentinel], laidTests := true, laidLooks := .later }
def FnLosslessCardSaid : Prop := Claim7.holds Tryd.pinned (.plain (OpenSpec.ofChange fnLosslessSpec)) fnLosslessCard

/-- THE SECOND FORM's CARD OF 'laws.FnDecodePadded'. -/
def fnDecodePaddedUptoCard : Claim7 := { stood := { row := fnDecodePaddedUptoRow, standIns := [], harness := (true, "074ac426e453cd3477b2f450dc9de4b45139d1815f771e5b7b889a57d0dde450"), looks := true }, kinds := [], alts := [], laidByText := true, laidKinds := [.sentinel, .sentinel, .sentinel, .sentinel], laidTests := true, laidLooks := .later }
def FnDecodePaddedUptoCardSaid : Prop := Claim7.holds Tryd.pinned (.plain (OpenSpec.upto fnDecodePaddedSpec)) fnDecodePaddedUptoCard

/-- THE SECOND FORM's CARD OF 'laws.FnCut'. -/
def fnCutUptoCard : Claim7 := { stood := { row := fnCutUptoRow, standIns := [], harness := (true, "074ac426e453cd3477b2f450dc9de4b45139d1815f771e5b7b889a57d0dde450"), looks := true }, kinds := [], alts := [], laidByText := true, laidKinds := [.sentinel, .sentinel, .sentinel, .sentinel], laidTests := true, laidLooks := .later }
def FnCutUptoCardSaid : Prop := Claim7.holds Tryd.pinned (.plain (OpenSpec.upto fnCutSpec)) fnCutUptoCard

/-- THE SECOND FORM's CARD OF 'laws.FnEncodeDecode'. -/
def fnEncodeDecodeUptoCard : Claim7 := { stood := { row := fnEncodeDecodeUptoRow, standIns := [], harness := (true, "074ac426e453cd3477b2f450dc9de4b45139d1815f771e5b7b889a57d0dde450"), looks := true }, kinds := [], alts := [], laidByText := true, laidKinds := [.sentinel, .sentinel, .sentinel, .sentinel], laidTests := true, laidLooks := .later }
def FnEncodeDecodeUptoCardSaid : Prop := Claim7.holds Tryd.pinned (.plain (OpenSpec.upto fnEncodeDecodeSpec)) fnEncodeDecodeUptoCard

/-- THE SECOND FORM's CARD OF 'laws.FnEncodeRoom'. -/
def fnEncodeRoomUptoCard : Claim7 := { stood := { row := fnEncodeRoomUptoRow, standIns := [], harness := (true, "074ac426e453cd3477b2f450dc9de4b45139d1815f771e5b7b889a57d0dde450"), looks := true }, kinds := [], alts := [], laidByText := true, laidKinds := [.sentinel, .sentinel, .sentinel, .sentinel], laidTests := true, laidLooks := .later }
def FnEncodeRoomUptoCardSaid : Prop := Claim7.holds Tryd.pinned (.plain (OpenSpec.upto fnEncodeRoomSpec)) fnEncodeRoomUptoCard

/-- THE SECOND FORM's CARD OF 'laws.FnEncodeTwice'. -/
def fnEncodeTwiceUptoCard : Claim7 := { stood := { row := fnEncodeTwiceUptoRow, standIns := [], harness := (true, "074ac426e453cd3477b2f450dc9de4b45139d1815f771e5b7b889a57d0dde450"), looks := true }, kinds := [], alts := [], laidByText := true, laidKinds := [.sentinel, .sentinel, .sentinel, .sentinel], laidTests := true, laidLooks := .later }
def FnEncodeTwiceUptoCardSaid : Prop := Claim7.holds Tryd.pinned (.plain (OpenSpec.upto fnEncodeTwiceSpec)) fnEncodeTwiceUptoCard

/-- THE SECOND FORM's CARD OF 'laws.FnJoin'. -/
def fnJoinUptoCard : Claim7 := { stood := { row := fnJoinUptoRow, standIns := [], harness := (true, "074ac426e453cd3477b2f450dc9de4b45139d1815f771e5b7b889a57d0dde450"), looks := true }, kinds := [], alts := [], laidByText := true, laidKinds := [.sentinel, .sentinel, .sentinel, .sentinel], laidTests := true, laidLooks := .later }
def FnJoinUptoCardSaid : Prop := Claim7.holds Tryd.pinned (.plain (OpenSpec.upto fnJoinSpec)) fnJoinUptoCard

/-- THE SECOND FORM's CARD OF 'laws.FnLossless'. -/
def fnLosslessUptoCard : Claim7 := { stood := { row := fnLosslessUptoRow, standIns := [], harness := (true, "074ac426e453cd3477b2f450dc9de4b45139d1815f771e5b7b889a57d0dde450"), looks := true }, kinds := [], alts := [], laidByText := true, laidKinds := [.sentinel, .sentinel, .sentinel, .sentinel], laidTests := true, laidLooks := .later }
def FnLosslessUptoCardSaid : Prop := Claim7.holds Tryd.pinned (.plain (OpenSpec.upto fnLosslessSpec)) fnLosslessUptoCard
end Rows
end Go.Proofs.YtfnejblenapddaaDoor
