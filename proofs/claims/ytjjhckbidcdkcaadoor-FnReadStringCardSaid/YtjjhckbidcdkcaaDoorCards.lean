/-
  DERIVED. GIVEN WITH THE SEED: THE CARDS: each row of YtjjhckbidcdkcaaDoorRows.lean that lists a variable, with what it lists TIED to the program's text (the seventh form; the later family's looks); each row that meets fmt, with fmt's text TOLD by the authors' own Lean function (tested against real Go, not proved from fmt's source: count such statements apart). THE CARD IS WHAT COUNTS. Prove the row's statement (the work); the ties are given (YtjjhckbidcdkcaaDoorTie.lean); close each card by the builder's one call (the guide's Derived/Test/ToyasCard.lean, 'card_holds'). Laid BY PROGRAM, IN A SANDBOX (cutbox-door.mjs). By AI agents, Wed Nov 11 2026. No macro, syntax, notation, axiom, sorry.
-/
import Derived.Test.YtjjhckbidcdkcaaDoorRows
import GoSem.ClaimSeven
namespace Go.Proofs.YtjjhckbidcdkcaaDoor
namespace Rows

/-- THE TIED CARD OF 'laws.FnReadUnsigned'. -/
def fnReadUnsignedCard : Claim7 := { stood := { row := fnReadUnsignedRow, standIns := [], harness := (true, "e653c01de4e8227003e7d5cb6003116477b1836d6d39dfb9557fec9ef05d68a2"), looks := false }, kinds := [], alts := [], laidByText := true, laidKinds := [.data, .sentinel, .pinned], laidTests := true, laidLooks := .later }
def FnReadUnsignedCardSaid : Prop := Claim7.holds Tryd.pinned (.plain (OpenSpec.ofChange fnReadUnsignedSpec)) fnReadUnsignedCard

/-- THE TIED CARD OF 'laws.FnReadInt'. -/
def fnReadIntCard : Claim7 := { stood := { row := fnReadIntRow, standIns := [], harness := (true, "e653c01de4e8227003e7d5cb6003116477b1836d6d39dfb9557fec9ef05d68a2"), looks := false }, kinds := [], alts := [], laidByText := true, laidKinds := [.data, .sentinel, .pinned], laidTests := true, laidLooks := .later }
def FnReadIntCardSaid : Prop := Claim7.holds Tryd.pinned (.plain (OpenSpec.ofChange fnReadIntSpec)) fnReadIntCard

/-- THE TIED CARD OF 'laws.FnReadString'. -/
def fnReadStringCard : Claim7 := { stood := { row := fnReadStringRow, standIns := [], harness := (true, "e653c01de4e8227003e7d5cb6003116477b1836d6d39dfb9557fec9ef05d68a2"), looks := false }, kinds := [], alts := [], laidByText := true, laidKinds := [.data, .sentinel, .pinned], laidTests := true, laidLooks := .later }
def FnReadStringCardSaid : Prop := Claim7.holds Tryd.pinned (.plain (OpenSpec.ofChange fnReadStringSpec)) fnReadStringCard

/-- THE TIED CARD OF 'laws.FnReadArrayFloat'. -/
def fnReadArrayFloatCard : Claim7 := { stood := { row := fnReadArrayFloatRow, standIns := [], harness := (true, "e653c01de4e8227003e7d5cb6003116477b1836d6d39dfb9557fec9ef05d68a2"), looks := false }, kinds := [], alts := [], laidByText := true, laidKinds := [.data, .sentinel, .pinned], laidTests := true, laidLooks := .later }
def FnReadArrayFloatCardSaid : Prop := Claim7.holds Tryd.pinned (.plain (OpenSpec.ofChange fnReadArrayFloatSpec)) fnReadArrayFloatCard

/-- THE TIED CARD OF 'laws.FnReadArraySymbol'. -/
def fnReadArraySymbolCard : Claim7 := { stood := { row := fnReadArraySymbolRow, standIns := [], harness := (true, "e653c01de4e8227003e7d5cb6003116477b1836d6d39dfb9557fec9ef05d68a2"), looks := false }, kinds := [], alts := [], laidByText := true, laidKinds := [.data, .sentinel, .pinned], laidTests := true, laidLooks := .later }
def FnReadArraySymbolCardSaid : Prop := Claim7.holds Tryd.pinned (.plain (OpenSpec.ofChange fnReadArraySymbolSpec)) fnReadArraySymbolCard

/-- THE TIED CARD OF 'laws.FnReadArrayUlong'. -/
def fnReadArrayUlongCard : Claim7 := { stood := { row := fnReadArrayUlongRow, standIns := [], harness := (true, "e653c01de4e8227003e7d5cb6003116477b1836d6d39dfb9557fec9ef05d68a2"), looks := false }, kinds := [], alts := [], laidByText := true, laidKinds := [.data, .sentinel, .pinned], laidTests := true, laidLooks := .later }
def FnReadArrayUlongCardSaid : Prop := Claim7.holds Tryd.pinned (.plain (OpenSpec.ofChange fnReadArrayUlongSpec)) fnReadArrayUlongCard

/-- THE SECOND FORM's CARD OF 'laws.FnReadUnsigned'. -/
def fnReadUnsignedUptoCard : Claim7 := { stood := { row := fnReadUnsignedUptoRow, standIns := [], harness := (true, "e653c01de4e8227003e7d5cb6003116477b1836d6d39dfb9557fec9ef05d68a2"), looks := false }, kinds := [], alts := [], laidByText := true, laidKinds := [.data, .sentinel, .pinned], laidTests := true, laidLooks := .later }
def FnReadUnsignedUptoCardSaid : Prop := Claim7.holds Tryd.pinned (.plain (OpenSpec.upto fnReadUnsignedSpec)) fnReadUnsignedUptoCard

/-- THE SECOND FORM's CARD OF 'laws.FnReadInt'. -/
def fnReadIntUptoCard : Claim7 := { stood := { row := fnReadIntUptoRow, standIns := [], harness := (true, "e653c01de4e8227003e7d5cb6003116477b1836d6d39dfb9557fec9ef05d68a2"), looks := false }, kinds := [], alts := [], laidByText := true, laidKinds := [.data, .sentinel, .pinned], laidTests := true, laidLooks := .later }
def FnReadIntUptoCardSaid : Prop := Claim7.holds Tryd.pinned (.plain (OpenSpec.upto fnReadIntSpec)) fnReadIntUptoCard

/-- THE SECOND FORM's CARD OF 'laws.FnReadString'. -/
def fnReadStringUptoCard : Claim7 := { stood := { row := fnReadStringUptoRow, standIns := [], harness := (true, "e653c01de4e8227003e7d5cb6003116477b1836d6d39dfb9557fec9ef05d68a2"), looks := false }, kinds := [], alts := [], laidByText := true, laidKinds := [.data, .sentinel, .pinned], laidTests := true, laidLooks := .later }
def FnReadStringUptoCardSaid : Prop := Claim7.holds Tryd.pinned (.plain (OpenSpec.upto fnReadStringSpec)) fnReadStringUptoCard

/-- THE SECOND FORM's CARD OF 'laws.FnReadArrayFloat'. -/
def fnReadArrayFloatUptoCard : Claim7 := { stood := { row := fnReadArrayFloatUptoRow, standIns := [], harness := (true, "e653c01de4e8227003e7d5cb6003116477b1836d6d39dfb9557fec9ef05d68a2"), looks := false }, kinds := [], alts := [], laidByText := true, laidKinds := [.data, .sentinel, .pinned], laidTests := true, laidLooks := .later }
def FnReadArrayFloatUptoCardSaid : Prop := Claim7.holds Tryd.pinned (.plain (OpenSpec.upto fnReadArrayFloatSpec)) fnReadArrayFloatUptoCard

/-- THE SECOND FORM's CARD OF 'laws.FnReadArraySymbol'. -/
def fnReadArraySymbolUptoCard : Claim7 := { stood := { row := fnReadArraySymbolUptoRow, standIns := [], harness := (true, "e653c01de4e8227003e7d5cb6003116477b1836d6d39dfb9557fec9ef05d68a2"), looks := false }, kinds := [], alts := [], laidByText := true, laidKinds := [.data, .sentinel, .pinned], laidTests := true, laidLooks := .later }
def FnReadArraySymbolUptoCardSaid : Prop := Claim7.holds Tryd.pinned (.plain (OpenSpec.upto fnReadArraySymbolSpec)) fnReadArraySymbolUptoCard

/-- THE SECOND FORM's CARD OF 'laws.FnReadArrayUlong'. -/
def fnReadArrayUlongUptoCard : Claim7 := { stood := { row := fnReadArrayUlongUptoRow, standIns := [], harness := (true, "e653c01de4e8227003e7d5cb6003116477b1836d6d39dfb9557fec9ef05d68a2"), looks := false }, kinds := [], alts := [], laidByText := true, laidKinds := [.data, .sentinel, .pinned], laidTests := true, laidLooks := .later }
def FnReadArrayUlongUptoCardSaid : Prop := Claim7.holds Tryd.pinned (.plain (OpenSpec.upto fnReadArrayUlongSpec)) fnReadArrayUlongUptoCard
end Rows
end Go.Proofs.YtjjhckbidcdkcaaDoor
