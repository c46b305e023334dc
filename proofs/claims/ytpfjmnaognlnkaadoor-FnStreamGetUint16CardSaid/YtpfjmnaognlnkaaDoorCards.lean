/-
  DERIVED. GIVEN WITH THE SEED: THE CARDS: each row of YtpfjmnaognlnkaaDoorRows.lean that lists a variable, with what it lists TIED to the program's text (the seventh form; the later family's looks); each row that meets fmt, with fmt's text TOLD by the authors' own Lean function (tested against real Go, not proved from fmt's source: count such statements apart). THE CARD IS WHAT COUNTS. Prove the row's statement (the work); the ties are given (YtpfjmnaognlnkaaDoorTie.lean); close each card by the builder's one call (the guide's Derived/Test/ToyasCard.lean, 'card_holds'). Laid BY PROGRAM, IN A SANDBOX (cutbox-door.mjs). By AI agents, Wed Nov 11 2026. No macro, syntax, notation, axiom, sorry.
-/
import Derived.Test.YtpfjmnaognlnkaaDoorRows
import GoSem.ClaimSeven
namespace Go.Proofs.YtpfjmnaognlnkaaDoor
namespace Rows

/-- THE TIED CARD OF 'laws.FnStreamGetInt16'. -/
def fnStreamGetInt16Card : Claim7 := { stood := { row := fnStreamGetInt16Row, standIns := [], harness := (true, "5d1f6e7417b676099b8adc374b0e48a214a8d4c76f968fb0d720005eaa467155"), looks := true }, kinds := [], alts := [], laidByText := true, laidKinds := [.sentinel, .sentinel], laidTests := true, laidLooks := .later }
def FnStreamGetInt16CardSaid : Prop := Claim7.holds Tryd.pinned (.plain (OpenSpec.ofChange fnStreamGetInt16Spec)) fnStreamGetInt16Card

/-- THE TIED CARD OF 'laws.FnStreamGetUint16'. -/
def fnStreamGetUint16Card : Claim7 := { stood := { row := fnStreamGetUint16Row, standIns := [], harness := (true, "5d1f6e7417b676099b8adc374b0e48a214a8d4c76f968fb0d720005eaa467155"), looks := true }, kinds := [], alts := [], laidByText := true, laidKinds := [.sentinel, .sentinel], laidTests := true, laidLooks := .later }
def FnStreamGetUint16CardSaid : Prop := Claim7.holds Tryd.pinned (.plain (OpenSpec.ofChange fnStreamGetUint16Spec)) fnStreamGetUint16Card

/-- THE SECOND FORM's CARD OF 'laws.FnStreamGetInt16'. -/
def fnStreamGetInt16UptoCard : Claim7 := { stood := { row := fnStreamGetInt16UptoRow, standIns := [], harness := (true, "5d1f6e7417b676099b8adc374b0e48a214a8d4c76f968fb0d720005eaa467155"), looks := true }, kinds := [], alts := [], laidByText := true, laidKinds := [.sentinel, .sentinel], laidTests := true, laidLooks := .later }
def FnStreamGetInt16UptoCardSaid : Prop := Claim7.holds Tryd.pinned (.plain (OpenSpec.upto fnStreamGetInt16Spec)) fnStreamGetInt16UptoCard

/-- THE SECOND FORM's CARD OF 'laws.FnStreamGetUint16'. -/
def fnStreamGetUint16UptoCard : Claim7 := { stood := { row := fnStreamGetUint16UptoRow, standIns := [], harness := (true, "5d1f6e7417b676099b8adc374b0e48a214a8d4c76f968fb0d720005eaa467155"), looks := true }, kinds := [], alts := [], laidByText := true, laidKinds := [.sentinel, .sentinel], laidTests := true, laidLooks := .later }
def FnStreamGetUint16UptoCardSaid : Prop := Claim7.holds Tryd.pinned (.plain (OpenSpec.upto fnStreamGetUint16Spec)) fnStreamGetUint16UptoCard
end Rows
end Go.Proofs.YtpfjmnaognlnkaaDoor
