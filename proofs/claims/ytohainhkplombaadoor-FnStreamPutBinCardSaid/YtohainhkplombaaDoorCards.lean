/-
  DERIVED. GIVEN WITH THE SEED: THE CARDS: each row of YtohainhkplombaaDoorRows.lean that lists a variable, with what it lists TIED to the program's text (the seventh form; the later family's looks); each row that meets fmt, with fmt's text TOLD by the authors' own Lean function (tested against real Go, not proved from fmt's source: count such statements apart). THE CARD IS WHAT COUNTS. Prove the row's statement (the work); the ties are given (YtohainhkplombaaDoorTie.lean); close each card by the builder's one call (the guide's Derived/Test/ToyasCard.lean, 'card_holds'). Laid BY PROGRAM, IN A SANDBOX (cutbox-door.mjs). By AI agents, Wed Nov 11 2026. No macro, syntax, notation, axiom, sorry.
-/
import Derived.Test.YtohainhkplombaaDoorRows
import GoSem.ClaimSeven
namespace Go.Proofs.YtohainhkplombaaDoor
namespace Rows

/-- THE TIED CARD OF 'laws.FnStreamPutBin'. -/
def fnStreamPutBinCard : Claim7 := { stood := { row := fnStreamPutBinRow, standIns := [], harness := (true, "7c0c3f4489771bc5e9901b176aec5997c689096647d0aa0497f9730fcbe1fc72"), looks := false }, kinds := [], alts := [], laidByText := true, laidKinds := [.wider], laidTests := true, laidLooks := .later }
def FnStreamPutBinCardSaid : Prop := Claim7.holds Tryd.pinned (.plain (OpenSpec.ofChange fnStreamPutBinSpec)) fnStreamPutBinCard

/-- THE SECOND FORM's CARD OF 'laws.FnStreamPutBin'. -/
def fnStreamPutBinUptoCard : Claim7 := { stood := { row := fnStreamPutBinUptoRow, standIns := [], harness := (true, "7c0c3f4489771bc5e9901b176aec5997c689096647d0aa0497f9730fcbe1fc72"), looks := false }, kinds := [], alts := [], laidByText := true, laidKinds := [.wider], laidTests := true, laidLooks := .later }
def FnStreamPutBinUptoCardSaid : Prop := Claim7.holds Tryd.pinned (.plain (OpenSpec.upto fnStreamPutBinSpec)) fnStreamPutBinUptoCard
end Rows
end Go.Proofs.YtohainhkplombaaDoor
