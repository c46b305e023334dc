/-
  DERIVED. GIVEN WITH THE SEED: THE CARDS: each row of YtlpnaifagiddlaaDoorRows.lean that lists a variable, with what it lists TIED to the program's text (the seventh form; the later family's looks); each row that meets fmt, with fmt's text TOLD by the authors' own Lean function (tested against real Go, not proved from fmt's source: count such statements apart). THE CARD IS WHAT COUNTS. Prove the row's statement (the work); the ties are given (YtlpnaifagiddlaaDoorTie.lean); close each card by the builder's one call (the guide's Derived/Test/ToyasCard.lean, 'card_holds'). Laid BY PROGRAM, IN A SANDBOX (cutbox-door.mjs). By AI agents, Wed Nov 11 2026. No macro, syntax, notation, axiom, sorry.
-/
import Derived.Test.YtlpnaifagiddlaaDoorRows
import GoSem.ClaimSeven
namespace Go.Proofs.YtlpnaifagiddlaaDoor
namespace Rows

/-- THE TIED CARD OF 'laws.FnGetFloat64'. -/
def fnGetFloat64Card : Claim7 := { stood := { row := fnGetFloat64Row, standIns := [], harness := (true, "61d107ea9bf129d9a76c2355e411169188f70673bbaaa9b5600a9920b475a8ef"), looks := false }, kinds := [], alts := [], laidByText := true, laidKinds := [.wider], laidTests := true, laidLooks := .later }
def FnGetFloat64CardSaid : Prop := Claim7.holds Tryd.pinned (.plain (OpenSpec.ofChange fnGetFloat64Spec)) fnGetFloat64Card

/-- THE TIED CARD OF 'laws.FnGetTextBytes'. -/
def fnGetTextBytesCard : Claim7 := { stood := { row := fnGetTextBytesRow, standIns := [], harness := (true, "61d107ea9bf129d9a76c2355e411169188f70673bbaaa9b5600a9920b475a8ef"), looks := false }, kinds := [], alts := [], laidByText := true, laidKinds := [.wider], laidTests := true, laidLooks := .later }
def FnGetTextBytesCardSaid : Prop := Claim7.holds Tryd.pinned (.plain (OpenSpec.ofChange fnGetTextBytesSpec)) fnGetTextBytesCard

/-- THE TIED CARD OF 'laws.FnGetDuration'. -/
def fnGetDurationCard : Claim7 := { stood := { row := fnGetDurationRow, standIns := [], harness := (true, "61d107ea9bf129d9a76c2355e411169188f70673bbaaa9b5600a9920b475a8ef"), looks := false }, kinds := [], alts := [], laidByText := true, laidKinds := [.wider], laidTests := true, laidLooks := .later }
def FnGetDurationCardSaid : Prop := Claim7.holds Tryd.pinned (.plain (OpenSpec.ofChange fnGetDurationSpec)) fnGetDurationCard

/-- THE TIED CARD OF 'laws.FnGetInt16'. -/
def fnGetInt16Card : Claim7 := { stood := { row := fnGetInt16Row, standIns := [], harness := (true, "61d107ea9bf129d9a76c2355e411169188f70673bbaaa9b5600a9920b475a8ef"), looks := false }, kinds := [], alts := [], laidByText := true, laidKinds := [.wider], laidTests := true, laidLooks := .later }
def FnGetInt16CardSaid : Prop := Claim7.holds Tryd.pinned (.plain (OpenSpec.ofChange fnGetInt16Spec)) fnGetInt16Card

/-- THE TIED CARD OF 'laws.FnGetUint16'. -/
def fnGetUint16Card : Claim7 := { stood := { row := fnGetUint16Row, standIns := [], harness := (true, "61d107ea9bf129d9a76c2355e411169188f70673bbaaa9b5600a9920b475a8ef"), looks := false }, kinds := [], alts := [], laidByText := true, laidKinds := [.wider], laidTests := true, laidLooks := .later }
def FnGetUint16CardSaid : Prop := Claim7.holds Tryd.pinned (.plain (OpenSpec.ofChange fnGetUint16Spec)) fnGetUint16Card

/-- THE TIED CARD OF 'laws.FnCopyReplace'. -/
def fnCopyReplaceCard : Claim7 := { stood := { row := fnCopyReplaceRow, standIns := [], harness := (true, "61d107ea9bf129d9a76c2355e411169188f70673bbaaa9b5600a9920b475a8ef"), looks := false }, kinds := [], alts := [], laidByText := true, laidKinds := [.wider, .wider, .wider], laidTests := true, laidLooks := .later }
def FnCopyReplaceCardSaid : Prop := Claim7.holds Tryd.pinned (.plain (OpenSpec.ofChange fnCopyReplaceSpec)) fnCopyReplaceCard

/-- THE SECOND FORM's CARD OF 'laws.FnGetFloat64'. -/
def fnGetFloat64UptoCard : Claim7 := { stood := { row := fnGetFloat64UptoRow, standIns := [], harness := (true, "61d107ea9bf129d9a76c2355e411169188f70673bbaaa9b5600a9920b475a8ef"), looks := false }, kinds := [], alts := [], laidByText := true, laidKinds := [.wider], laidTests := true, laidLooks := .later }
def FnGetFloat64UptoCardSaid : Prop := Claim7.holds Tryd.pinned (.plain (OpenSpec.upto fnGetFloat64Spec)) fnGetFloat64UptoCard

/-- THE SECOND FORM's CARD OF 'laws.FnGetTextBytes'. -/
def fnGetTextBytesUptoCard : Claim7 := { stood := { row := fnGetTextBytesUptoRow, standIns := [], harness := (true, "61d107ea9bf129d9a76c2355e411169188f70673bbaaa9b5600a9920b475a8ef"), looks := false }, kinds := [], alts := [], laidByText := true, laidKinds := [.wider], laidTests := true, laidLooks := .later }
def FnGetTextBytesUptoCardSaid : Prop := Claim7.holds Tryd.pinned (.plain (OpenSpec.upto fnGetTextBytesSpec)) fnGetTextBytesUptoCard

/-- THE SECOND FORM's CARD OF 'laws.FnGetDuration'. -/
def fnGetDurationUptoCard : Claim7 := { stood := { row := fnGetDurationUptoRow, standIns := [], harness := (true, "61d107ea9bf129d9a76c2355e411169188f70673bbaaa9b5600a9920b475a8ef"), looks := false }, kinds := [], alts := [], laidByText := true, laidKinds := [.wider], laidTests := true, laidLooks := .later }
def FnGetDurationUptoCardSaid : Prop := Claim7.holds Tryd.pinned (.plain (OpenSpec.upto fnGetDurationSpec)) fnGetDurationUptoCard

/-- THE SECOND FORM's CARD OF 'laws.FnGetInt16'. -/
def fnGetInt16UptoCard : Claim7 := { stood := { row := fnGetInt16UptoRow, standIns := [], harness := (true, "61d107ea9bf129d9a76c2355e411169188f70673bbaaa9b5600a9920b475a8ef"), looks := false }, kinds := [], alts := [], laidByText := true, laidKinds := [.wider], laidTests := true, laidLooks := .later }
def FnGetInt16UptoCardSaid : Prop := Claim7.holds Tryd.pinned (.plain (OpenSpec.upto fnGetInt16Spec)) fnGetInt16UptoCard

/-- THE SECOND FORM's CARD OF 'laws.FnGetUint16'. -/
def fnGetUint16UptoCard : Claim7 := { stood := { row := fnGetUint16UptoRow, standIns := [], harness := (true, "61d107ea9bf129d9a76c2355e411169188f70673bbaaa9b5600a9920b475a8ef"), looks := false }, kinds := [], alts := [], laidByText := true, laidKinds := [.wider], laidTests := true, laidLooks := .later }
def FnGetUint16UptoCardSaid : Prop := Claim7.holds Tryd.pinned (.plain (OpenSpec.upto fnGetUint16Spec)) fnGetUint16UptoCard

/-- THE SECOND FORM's CARD OF 'laws.FnCopyReplace'. -/
def fnCopyReplaceUptoCard : Claim7 := { stood := { row := fnCopyReplaceUptoRow, standIns := [], harness := (true, "61d107ea9bf129d9a76c2355e411169188f70673bbaaa9b5600a9920b475a8ef"), looks := false }, kinds := [], alts := [], laidByText := true, laidKinds := [.wider, .wider, .wider], laidTests := true, laidLooks := .later }
def FnCopyReplaceUptoCardSaid : Prop := Claim7.holds Tryd.pinned (.plain (OpenSpec.upto fnCopyReplaceSpec)) fnCopyReplaceUptoCard
end Rows
end Go.Proofs.YtlpnaifagiddlaaDoor
