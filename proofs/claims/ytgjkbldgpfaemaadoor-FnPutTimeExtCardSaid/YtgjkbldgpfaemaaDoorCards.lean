/-
  DERIVED. GIVEN WITH THE SEED: THE CARDS: each row of YtgjkbldgpfaemaaDoorRows.lean that lists a variable, with what it lists TIED to the program's text (the seventh form; the later family's looks); each row that meets fmt, with fmt's text TOLD by the authors' own Lean function (tested against real Go, not proved from fmt's source: count such statements apart). THE CARD IS WHAT COUNTS. Prove the row's statement (the work); the ties are given (YtgjkbldgpfaemaaDoorTie.lean); close each card by the builder's one call (the guide's Derived/Test/ToyasCard.lean, 'card_holds'). Laid BY PROGRAM, IN A SANDBOX (cutbox-door.mjs). By AI agents, Wed Nov 11 2026. No macro, syntax, notation, axiom, sorry.
-/
import Derived.Test.YtgjkbldgpfaemaaDoorRows
import GoSem.ClaimSeven
namespace Go.Proofs.YtgjkbldgpfaemaaDoor
namespace Rows

/-- THE TIED CARD OF 'laws.FnPutTimeExt'. -/
def fnPutTimeExtCard : Claim7 := { stood := { row := fnPutTimeExtRow, standIns := [], harness := (true, "2bc812aa12f363906d4d750c97fc7b1c40929b087eabbc8c197599ce7f56c6e6"), looks := false }, kinds := [], alts := [], laidByText := true, laidKinds := [.data], laidTests := true, laidLooks := .later }
def FnPutTimeExtCardSaid : Prop := Claim7.holds Tryd.pinned (.plain (OpenSpec.ofChange fnPutTimeExtSpec)) fnPutTimeExtCard

/-- THE SECOND FORM's CARD OF 'laws.FnPutTimeExt'. -/
def fnPutTimeExtUptoCard : Claim7 := { stood := { row := fnPutTimeExtUptoRow, standIns := [], harness := (true, "2bc812aa12f363906d4d750c97fc7b1c40929b087eabbc8c197599ce7f56c6e6"), looks := false }, kinds := [], alts := [], laidByText := true, laidKinds := [.data], laidTests := true, laidLooks := .later }
def FnPutTimeExtUptoCardSaid : Prop := Claim7.holds Tryd.pinned (.plain (OpenSpec.upto fnPutTimeExtSpec)) fnPutTimeExtUptoCard
end Rows
end Go.Proofs.YtgjkbldgpfaemaaDoor
