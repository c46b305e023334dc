/-
  DERIVED. GIVEN WITH THE SEED: THE CARDS: each row of YtikpmeedjdddoaaDoorRows.lean that lists a variable, with what it lists TIED to the program's text (the seventh form; the later family's looks); each row that meets fmt, with fmt's text TOLD by the authors' own Lean function (tested against real Go, not proved from fmt's source: count such statements apart). THE CARD IS WHAT COUNTS. Prove the row's statement (the work); the ties are given (YtikpmeedjdddoaaDoorTie.lean); close each card by the builder's one call (the guide's Derived/Test/ToyasCard.lean, 'card_holds'). Laid BY PROGRAM, IN A SANDBOX (cutbox-door.mjs). By AI agents, Wed Nov 11 2026. No macro, syntax, notation, axiom, sorry.
-/
import Derived.Test.YtikpmeedjdddoaaDoorRows
import GoSem.ClaimSeven
namespace Go.Proofs.YtikpmeedjdddoaaDoor
namespace Rows

/-- THE TIED CARD OF 'laws.FnJSONSetUint32'. -/
def fnJSONSetUint32Card : Claim7 := { stood := { row := fnJSONSetUint32Row, standIns := [], harness := (true, "bcf052c1ae6539be2732da7fd257f9da65a680d630b7a390b434e70ddb5b7d04"), looks := true }, kinds := [], alts := [], laidByText := true, laidKinds := [.data, .data, .data, .data, .pinned], laidTests := true, laidLooks := .later }
def FnJSONSetUint32CardSaid : Prop := Claim7.holds Tryd.pinned (.plain (OpenSpec.ofChange fnJSONSetUint32Spec)) fnJSONSetUint32Card

/-- THE TIED CARD OF 'laws.FnJSONSetInt8'. -/
def fnJSONSetInt8Card : Claim7 := { stood := { row := fnJSONSetInt8Row, standIns := [], harness := (true, "bcf052c1ae6539be2732da7fd257f9da65a680d630b7a390b434e70ddb5b7d04"), looks := true }, kinds := [], alts := [], laidByText := true, laidKinds := [.data, .data, .data, .data, .pinned], laidTests := true, laidLooks := .later }
def FnJSONSetInt8CardSaid : Prop := Claim7.holds Tryd.pinned (.plain (OpenSpec.ofChange fnJSONSetInt8Spec)) fnJSONSetInt8Card

/-- THE TIED CARD OF 'laws.FnSetOfJSONUint32'. -/
def fnSetOfJSONUint32Card : Claim7 := { stood := { row := fnSetOfJSONUint32Row, standIns := [], harness := (true, "bcf052c1ae6539be2732da7fd257f9da65a680d630b7a390b434e70ddb5b7d04"), looks := true }, kinds := [], alts := [], laidByText := true, laidKinds := [.data, .data, .data, .sentinel, .sentinel], laidTests := true, laidLooks := .later }
def FnSetOfJSONUint32CardSaid : Prop := Claim7.holds Tryd.pinned (.plain (OpenSpec.ofChange fnSetOfJSONUint32Spec)) fnSetOfJSONUint32Card

/-- THE TIED CARD OF 'laws.FnSetOfJSONInt8'. -/
def fnSetOfJSONInt8Card : Claim7 := { stood := { row := fnSetOfJSONInt8Row, standIns := [], harness := (true, "bcf052c1ae6539be2732da7fd257f9da65a680d630b7a390b434e70ddb5b7d04"), looks := true }, kinds := [], alts := [], laidByText := true, laidKinds := [.data, .data, .data, .sentinel, .sentinel], laidTests := true, laidLooks := .later }
def FnSetOfJSONInt8CardSaid : Prop := Claim7.holds Tryd.pinned (.plain (OpenSpec.ofChange fnSetOfJSONInt8Spec)) fnSetOfJSONInt8Card

/-- THE SECOND FORM's CARD OF 'laws.FnJSONSetUint32'. -/
def fnJSONSetUint32UptoCard : Claim7 := { stood := { row := fnJSONSetUint32UptoRow, standIns := [], harness := (true, "bcf052c1ae6539be2732da7fd257f9da65a680d630b7a390b434e70ddb5b7d04"), looks := true }, kinds := [], alts := [], laidByText := true, laidKinds := [.data, .data, .data, .data, .pinned], laidTests := true, laidLooks := .later }
def FnJSONSetUint32UptoCardSaid : Prop := Claim7.holds Tryd.pinned (.plain (OpenSpec.upto fnJSONSetUint32Spec)) fnJSONSetUint32UptoCard

/-- THE SECOND FORM's CARD OF 'laws.FnJSONSetInt8'. -/
def fnJSONSetInt8UptoCard : Claim7 := { stood := { row := fnJSONSetInt8UptoRow, standIns := [], harness := (true, "bcf052c1ae6539be2732da7fd257f9da65a680d630b7a390b434e70ddb5b7d04"), looks := true }, kinds := [], alts := [], laidByText := true, laidKinds := [.data, .data, .data, .data, .pinned], laidTests := true, laidLooks := .later }
def FnJSONSetInt8UptoCardSaid : Prop := Claim7.holds Tryd.pinned (.plain (OpenSpec.upto fnJSONSetInt8Spec)) fnJSONSetInt8UptoCard

/-- THE SECOND FORM's CARD OF 'laws.FnSetOfJSONUint32'. -/
def fnSetOfJSONUint32UptoCard : Claim7 := { stood := { row := fnSetOfJSONUint32UptoRow, standIns := [], harness := (true, "bcf052c1ae6539be2732da7fd257f9da65a680d630b7a390b434e70ddb5b7d04"), looks := true }, kinds := [], alts := [], laidByText := true, laidKinds := [.data, .data, .data, .sentinel, .sentinel], laidTests := true, laidLooks := .later }
def FnSetOfJSONUint32UptoCardSaid : Prop := Claim7.holds Tryd.pinned (.plain (OpenSpec.upto fnSetOfJSONUint32Spec)) fnSetOfJSONUint32UptoCard

/-- THE SECOND FORM's CARD OF 'laws.FnSetOfJSONInt8'. -/
def fnSetOfJSONInt8UptoCard : Claim7 := { stood := { row := fnSetOfJSONInt8UptoRow, standIns := [], harness := (true, "bcf052c1ae6539be2732da7fd257f9da65a680d630b7a390b434e70ddb5b7d04"), looks := true }, kinds := [], alts := [], laidByText := true, laidKinds := [.data, .data, .data, .sentinel, .sentinel], laidTests := true, laidLooks := .later }
def FnSetOfJSONInt8UptoCardSaid : Prop := Claim7.holds Tryd.pinned (.plain (OpenSpec.upto fnSetOfJSONInt8Spec)) fnSetOfJSONInt8UptoCard
end Rows
end Go.Proofs.YtikpmeedjdddoaaDoor
