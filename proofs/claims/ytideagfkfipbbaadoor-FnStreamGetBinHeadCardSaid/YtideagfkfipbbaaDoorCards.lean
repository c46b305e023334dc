/-
  DERIVED. GIVEN WITH THE SEED: THE CARDS: each row of YtideagfkfipbbaaDoorRows.lean that lists a variable, with what it lists TIED to the program's text (the seventh form; the later family's looks); each row that meets fmt, with fmt's text TOLD by the authors' own Lean function (tested against real Go, not proved from fmt's source: count such statements apart). THE CARD IS WHAT COUNTS. Prove the row's statement (the work); the ties are given (YtideagfkfipbbaaDoorTie.lean); close each card by the builder's one call (the guide's Derived/Test/ToyasCard.lean, 'card_holds'). Laid BY PROGRAM, IN A SANDBOX (cutbox-door.mjs). By AI agents, Wed Nov 11 2026. No macro, syntax, notation, axiom, sorry.
-/
import Derived.Test.YtideagfkfipbbaaDoorRows
import GoSem.ClaimSeven
namespace Go.Proofs.YtideagfkfipbbaaDoor
namespace Rows

/-- THE TIED CARD OF 'laws.FnStreamGetBool'. -/
def fnStreamGetBoolCard : Claim7 := { stood := { row := fnStreamGetBoolRow, standIns := [], harness := (true, "350a204d2a9068948ea091e7d580b2e9fb08e9a505f9b95d9dc24ffe3ca02aba"), looks := true }, kinds := [], alts := [], laidByText := true, laidKinds := [.sentinel, .sentinel], laidTests := true, laidLooks := .later }
def FnStreamGetBoolCardSaid : Prop := Claim7.holds Tryd.pinned (.plain (OpenSpec.ofChange fnStreamGetBoolSpec)) fnStreamGetBoolCard

/-- THE TIED CARD OF 'laws.FnStreamGetBinHead'. -/
def fnStreamGetBinHeadCard : Claim7 := { stood := { row := fnStreamGetBinHeadRow, standIns := [], harness := (true, "350a204d2a9068948ea091e7d580b2e9fb08e9a505f9b95d9dc24ffe3ca02aba"), looks := true }, kinds := [], alts := [], laidByText := true, laidKinds := [.sentinel, .sentinel], laidTests := true, laidLooks := .later }
def FnStreamGetBinHeadCardSaid : Prop := Claim7.holds Tryd.pinned (.plain (OpenSpec.ofChange fnStreamGetBinHeadSpec)) fnStreamGetBinHeadCard

/-- THE SECOND FORM's CARD OF 'laws.FnStreamGetBool'. -/
def fnStreamGetBoolUptoCard : Claim7 := { stood := { row := fnStreamGetBoolUptoRow, standIns := [], harness := (true, "350a204d2a9068948ea091e7d580b2e9fb08e9a505f9b95d9dc24ffe3ca02aba"), looks := true }, kinds := [], alts := [], laidByText := true, laidKinds := [.sentinel, .sentinel], laidTests := true, laidLooks := .later }
def FnStreamGetBoolUptoCardSaid : Prop := Claim7.holds Tryd.pinned (.plain (OpenSpec.upto fnStreamGetBoolSpec)) fnStreamGetBoolUptoCard

/-- THE SECOND FORM's CARD OF 'laws.FnStreamGetBinHead'. -/
def fnStreamGetBinHeadUptoCard : Claim7 := { stood := { row := fnStreamGetBinHeadUptoRow, standIns := [], harness := (true, "350a204d2a9068948ea091e7d580b2e9fb08e9a505f9b95d9dc24ffe3ca02aba"), looks := true }, kinds := [], alts := [], laidByText := true, laidKinds := [.sentinel, .sentinel], laidTests := true, laidLooks := .later }
def FnStreamGetBinHeadUptoCardSaid : Prop := Claim7.holds Tryd.pinned (.plain (OpenSpec.upto fnStreamGetBinHeadSpec)) fnStreamGetBinHeadUptoCard
end Rows
end Go.Proofs.YtideagfkfipbbaaDoor
