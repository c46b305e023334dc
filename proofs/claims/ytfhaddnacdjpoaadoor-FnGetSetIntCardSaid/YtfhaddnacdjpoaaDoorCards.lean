/-
  DERIVED. GIVEN WITH THE SEED: THE CARDS: each row of YtfhaddnacdjpoaaDoorRows.lean that lists a variable, with what it lists TIED to the program's text (the seventh form; the later family's looks); each row that meets fmt, with fmt's text TOLD by the authors' own Lean function (tested against real Go, not proved from fmt's source: count such statements apart). THE CARD IS WHAT COUNTS. Prove the row's statement (the work); the ties are given (YtfhaddnacdjpoaaDoorTie.lean); close each card by the builder's one call (the guide's Derived/Test/ToyasCard.lean, 'card_holds'). Laid BY PROGRAM, IN A SANDBOX (cutbox-door.mjs). By AI agents, Wed Nov 11 2026. No macro, syntax, notation, axiom, sorry.
-/
import Derived.Test.YtfhaddnacdjpoaaDoorRows
import GoSem.ClaimSeven
namespace Go.Proofs.YtfhaddnacdjpoaaDoor
namespace Rows

/-- THE TIED CARD OF 'laws.FnGetSetInt16'. -/
def fnGetSetInt16Card : Claim7 := { stood := { row := fnGetSetInt16Row, standIns := [], harness := (true, "0d4708743a84d1214b3534b55cf114c8d1328b1bcb1384585fdcd2ad220c577d"), looks := false }, kinds := [], alts := [], laidByText := true, laidKinds := [.wider], laidTests := true, laidLooks := .later }
def FnGetSetInt16CardSaid : Prop := Claim7.holds Tryd.pinned (.plain (OpenSpec.ofChange fnGetSetInt16Spec)) fnGetSetInt16Card

/-- THE TIED CARD OF 'laws.FnGetSetUint64'. -/
def fnGetSetUint64Card : Claim7 := { stood := { row := fnGetSetUint64Row, standIns := [], harness := (true, "0d4708743a84d1214b3534b55cf114c8d1328b1bcb1384585fdcd2ad220c577d"), looks := false }, kinds := [], alts := [], laidByText := true, laidKinds := [.wider], laidTests := true, laidLooks := .later }
def FnGetSetUint64CardSaid : Prop := Claim7.holds Tryd.pinned (.plain (OpenSpec.ofChange fnGetSetUint64Spec)) fnGetSetUint64Card

/-- THE TIED CARD OF 'laws.FnGetSetInt'. -/
def fnGetSetIntCard : Claim7 := { stood := { row := fnGetSetIntRow, standIns := [], harness := (true, "0d4708743a84d1214b3534b55cf114c8d1328b1bcb1384585fdcd2ad220c577d"), looks := false }, kinds := [], alts := [], laidByText := true, laidKinds := [.wider], laidTests := true, laidLooks := .later }
def FnGetSetIntCardSaid : Prop := Claim7.holds Tryd.pinned (.plain (OpenSpec.ofChange fnGetSetIntSpec)) fnGetSetIntCard

/-- THE SECOND FORM's CARD OF 'laws.FnGetSetInt16'. -/
def fnGetSetInt16UptoCard : Claim7 := { stood := { row := fnGetSetInt16UptoRow, standIns := [], harness := (true, "0d4708743a84d1214b3534b55cf114c8d1328b1bcb1384585fdcd2ad220c577d"), looks := false }, kinds := [], alts := [], laidByText := true, laidKinds := [.wider], laidTests := true, laidLooks := .later }
def FnGetSetInt16UptoCardSaid : Prop := Claim7.holds Tryd.pinned (.plain (OpenSpec.upto fnGetSetInt16Spec)) fnGetSetInt16UptoCard

/-- THE SECOND FORM's CARD OF 'laws.FnGetSetUint64'. -/
def fnGetSetUint64UptoCard : Claim7 := { stood := { row := fnGetSetUint64UptoRow, standIns := [], harness := (true, "0d4708743a84d1214b3534b55cf114c8d1328b1bcb1384585fdcd2ad220c577d"), looks := false }, kinds := [], alts := [], laidByText := true, laidKinds := [.wider], laidTests := true, laidLooks := .later }
def FnGetSetUint64UptoCardSaid : Prop := Claim7.holds Tryd.pinned (.plain (OpenSpec.upto fnGetSetUint64Spec)) fnGetSetUint64UptoCard

/-- THE SECOND FORM's CARD OF 'laws.FnGetSetInt'. -/
def fnGetSetIntUptoCard : Claim7 := { stood := { row := fnGetSetIntUptoRow, standIns := [], harness := (true, "0d4708743a84d1214b3534b55cf114c8d1328b1bcb1384585fdcd2ad220c577d"), looks := false }, kinds := [], alts := [], laidByText := true, laidKinds := [.wider], laidTests := true, laidLooks := .later }
def FnGetSetIntUptoCardSaid : Prop := Claim7.holds Tryd.pinned (.plain (OpenSpec.upto fnGetSetIntSpec)) fnGetSetIntUptoCard
end Rows
end Go.Proofs.YtfhaddnacdjpoaaDoor
