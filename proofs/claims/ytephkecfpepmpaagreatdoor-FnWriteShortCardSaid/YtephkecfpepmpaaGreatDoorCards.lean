/-
  DERIVED. GIVEN WITH THE SEED: THE CARDS: each row of YtephkecfpepmpaaGreatDoorRows.lean that lists a variable, with what it lists TIED to the program's text (the seventh form; the later family's looks); each row that meets fmt, with fmt's text TOLD by the authors' own Lean function (tested against real Go, not proved from fmt's source: count such statements apart). THE CARD IS WHAT COUNTS. Prove the row's statement (the work); the ties are given (YtephkecfpepmpaaGreatDoorTie.lean); close each card by the builder's one call (the guide's Derived/Test/ToyasCard.lean, 'card_holds'). Laid BY PROGRAM, IN A SANDBOX (cutbox-door.mjs). By AI agents, Wed Nov 11 2026. No macro, syntax, notation, axiom, sorry.
-/
import Derived.Test.YtephkecfpepmpaaGreatDoorRows
import GoSem.ClaimSeven
namespace Go.Proofs.YtephkecfpepmpaaGreatDoor
namespace Rows

/-- THE TIED CARD OF 'laws.FnWriteShort'. -/
def fnWriteShortCard : Claim7 := { stood := { row := fnWriteShortRow, standIns := [], harness := (true, "07c8e530797d8e7f3e0c9cef12d1e68185d7856c3efd05ac9456d75149c12d91"), looks := true }, kinds := [], alts := [], laidByText := true, laidKinds := [.data, .pinned], laidTests := true, laidLooks := .later }
def FnWriteShortCardSaid : Prop := Claim7.holds Tryz.pinned (.plain (OpenSpec.ofChange fnWriteShortSpec)) fnWriteShortCard

/-- THE TIED CARD OF 'laws.FnWriteUbyte'. -/
def fnWriteUbyteCard : Claim7 := { stood := { row := fnWriteUbyteRow, standIns := [], harness := (true, "07c8e530797d8e7f3e0c9cef12d1e68185d7856c3efd05ac9456d75149c12d91"), looks := true }, kinds := [], alts := [], laidByText := true, laidKinds := [.data, .pinned], laidTests := true, laidLooks := .later }
def FnWriteUbyteCardSaid : Prop := Claim7.holds Tryz.pinned (.plain (OpenSpec.ofChange fnWriteUbyteSpec)) fnWriteUbyteCard

/-- THE TIED CARD OF 'laws.FnWriteMechanisms'. -/
def fnWriteMechanismsCard : Claim7 := { stood := { row := fnWriteMechanismsRow, standIns := [], harness := (true, "07c8e530797d8e7f3e0c9cef12d1e68185d7856c3efd05ac9456d75149c12d91"), looks := true }, kinds := [], alts := [], laidByText := true, laidKinds := [.data, .pinned], laidTests := true, laidLooks := .later }
def FnWriteMechanismsCardSaid : Prop := Claim7.holds Tryz.pinned (.plain (OpenSpec.ofChange fnWriteMechanismsSpec)) fnWriteMechanismsCard

/-- THE SECOND FORM's CARD OF 'laws.FnWriteShort'. -/
def fnWriteShortUptoCard : Claim7 := { stood := { row := fnWriteShortUptoRow, standIns := [], harness := (true, "07c8e530797d8e7f3e0c9cef12d1e68185d7856c3efd05ac9456d75149c12d91"), looks := true }, kinds := [], alts := [], laidByText := true, laidKinds := [.data, .pinned], laidTests := true, laidLooks := .later }
def FnWriteShortUptoCardSaid : Prop := Claim7.holds Tryz.pinned (.plain (OpenSpec.upto fnWriteShortSpec)) fnWriteShortUptoCard

/-- THE SECOND FORM's CARD OF 'laws.FnWriteUbyte'. -/
def fnWriteUbyteUptoCard : Claim7 := { stood := { row := fnWriteUbyteUptoRow, standIns := [], harness := (true, "07c8e530797d8e7f3e0c9cef12d1e68185d7856c3efd05ac9456d75149c12d91"), looks := true }, kinds := [], alts := [], laidByText := true, laidKinds := [.data, .pinned], laidTests := true, laidLooks := .later }
def FnWriteUbyteUptoCardSaid : Prop := Claim7.holds Tryz.pinned (.plain (OpenSpec.upto fnWriteUbyteSpec)) fnWriteUbyteUptoCard

/-- THE SECOND FORM's CARD OF 'laws.FnWriteMechanisms'. -/
def fnWriteMechanismsUptoCard : Claim7 := { stood := { row := fnWriteMechanismsUptoRow, standIns := [], harness := (true, "07c8e530797d8e7f3e0c9cef12d1e68185d7856c3efd05ac9456d75149c12d91"), looks := true }, kinds := [], alts := [], laidByText := true, laidKinds := [.data, .pinned], laidTests := true, laidLooks := .later }
def FnWriteMechanismsUptoCardSaid : Prop := Claim7.holds Tryz.pinned (.plain (OpenSpec.upto fnWriteMechanismsSpec)) fnWriteMechanismsUptoCard
end Rows
end Go.Proofs.YtephkecfpepmpaaGreatDoor
