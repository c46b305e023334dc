/-
  NARROWER THAN 'FOR EVERY INPUT', by the rows' own cells (each row's printed sentence says how): FnReadUnsigned: loops, laid · FnReadInt: loops, laid · FnReadString: loops, laid · FnReadArrayFloat: loops, laid · FnReadArraySymbol: loops, laid · FnReadArrayUlong: loops, laid.
  DERIVED. THE GIVEN ROWS OF THIS SEAT. 6 by the template 'for every input the law returns true; each argument reads behind the call as it read before'; 0 by the template 'total and deterministic' (their statements: YtjjhckbidcdkcaaDoorTotals.lean).
  GIVEN WITH THE SEED: the statements are not yours to turn. If you find one false, say at which input.
  Laid BY PROGRAM, IN A SANDBOX (cutbox-rows.mjs): the forced cells as the released guide's own fill.sh prints them over the translation fec3fb02d0e6d8f7… (all of the seat's roots in one cut). By AI agents, Wed Nov 11 2026. No macro, syntax, notation, axiom, sorry.
-/
import Derived.Test.YtjjhckbidcdkcaaDoorChecked
import GoSem.PinnedTables
import GoSem.Claim
import GoSem.ClaimJoined
import GoSem.ClaimMapViews
import Derived.JoinedTies
import Derived.KernelRfl
namespace Go.Proofs.YtjjhckbidcdkcaaDoor
/- THE CELL 'sum', in the pinned program and in every row, IS THE sha256 OF THE DUMP (.gsa) THAT YtjjhckbidcdkcaaDoorProg.lean LOADS. Nothing in Lean hashes anything: it is a label: what it is worth is what the hold of that sum in a sandbox is worth. -/
noncomputable def Tryd.pinned : Pinned := { name := "ytjjhckbidcdkcaadoor", sum := "fec3fb02d0e6d8f765a0df377713fa0630d6d57ffd541670f6923ab081c1a836", checked := Tryd.checked }
namespace Rows
def none {H : Type} : Left H := { results := [], args := [] }

/- WHAT THE LISTED PACKAGE-LEVEL VARIABLES READ AS WHEN THE CALL BEGINS. Each datum BY PROGRAM (the guide's laid-datum.mjs) off the statement by which the dump's own 'gosem.cut.vars' lays the variable. In a bare row this is a premise. The card (YtjjhckbidcdkcaaDoorCards.lean) ties it to the program's text. -/
def laid_unicode_utf8_acceptRanges {H : Type} : DataW H := .agg [.agg [.lit (.int .u8 128), .lit (.int .u8 191)], .agg [.lit (.int .u8 160), .lit (.int .u8 191)], .agg [.lit (.int .u8 128), .lit (.int .u8 159)], .agg [.lit (.int .u8 144), .lit (.int .u8 191)], .agg [.lit (.int .u8 128), .lit (.int .u8 143)], .agg [.lit (.int .u8 0), .lit (.int .u8 0)], .agg [.lit (.int .u8 0), .lit (.int .u8 0)], .agg [.lit (.int .u8 0), .lit (.int .u8 0)], .agg [.lit (.int .u8 0), .lit (.int .u8 0)], .agg [.lit (.int .u8 0), .lit (.int .u8 0)], .agg [.lit (.int .u8 0), .lit (.int .u8 0)], .agg [.lit (.int .u8 0), .lit (.int .u8 0)], .agg [.lit (.int .u8 0), .lit (.int .u8 0)], .agg [.lit (.int .u8 0), .lit (.int .u8 0)], .agg [.lit (.int .u8 0), .lit (.int .u8 0)], .agg [.lit (.int .u8 0), .lit (.int .u8 0)]]
def laid_io_EOF {H : Type} : DataW H := .iface "*errors.errorString" (.ptr (.agg [.lit (.string [69, 79, 70])]))
/-- One of Go's own tables, pinned by name: the form's constant. -/
def laid_unicode_utf8_first : DataW Unit := Go.Pinned.utf8First

/-- 'laws.FnReadUnsigned': WHATEVER THE INPUT: true; the input reads as it did. -/
def fnReadUnsignedSpec : ChangeSpec := { name := "fnReadUnsigned", fn := fun _ => fun
  | [d] => { results := [.lit (.bool true)], args := [d] }
  | _ => none }
def fnReadUnsignedRow : OpenClaim := { program := "ytjjhckbidcdkcaadoor", sum := "fec3fb02d0e6d8f765a0df377713fa0630d6d57ffd541670f6923ab081c1a836", func := "given.example/pub-saddlebag/laws.FnReadUnsigned", spec := "fnReadUnsigned", recurses := true, named := ["io.EOF", "encoding/binary.BigEndian", "unicode/utf8.first", "unicode/utf8.acceptRanges"], loops := true, apart := false, laid := [("unicode/utf8.acceptRanges", laid_unicode_utf8_acceptRanges), ("io.EOF", laid_io_EOF), ("unicode/utf8.first", laid_unicode_utf8_first)] }
def FnReadUnsignedSaid : Prop := fnReadUnsignedRow.holds Tryd.pinned (OpenSpec.ofChange fnReadUnsignedSpec)

/-- ITS FALSE NEIGHBOUR: 'it returns false'. Refute it at one input. -/
def fnReadUnsignedWrong : ChangeSpec := { name := "fnReadUnsigned", fn := fun _ => fun
  | [d] => { results := [.lit (.bool false)], args := [d] }
  | _ => none }
def FnReadUnsignedWrongFalsely : Prop := fnReadUnsignedRow.holds Tryd.pinned (OpenSpec.ofChange fnReadUnsignedWrong)

/-- 'laws.FnReadInt': WHATEVER THE INPUT: true; the input reads as it did. -/
def fnReadIntSpec : ChangeSpec := { name := "fnReadInt", fn := fun _ => fun
  | [d] => { results := [.lit (.bool true)], args := [d] }
  | _ => none }
def fnReadIntRow : OpenClaim := { program := "ytjjhckbidcdkcaadoor", sum := "fec3fb02d0e6d8f765a0df377713fa0630d6d57ffd541670f6923ab081c1a836", func := "given.example/pub-saddlebag/laws.FnReadInt", spec := "fnReadInt", recurses := true, named := ["io.EOF", "encoding/binary.BigEndian", "unicode/utf8.first", "unicode/utf8.acceptRanges"], loops := true, apart := false, laid := [("unicode/utf8.acceptRanges", laid_unicode_utf8_acceptRanges), ("io.EOF", laid_io_EOF), ("unicode/utf8.first", laid_unicode_utf8_first)] }
def FnReadIntSaid : Prop := fnReadIntRow.holds Tryd.pinned (OpenSpec.ofChange fnReadIntSpec)

/-- ITS FALSE NEIGHBOUR: 'it returns false'. Refute it at one input. -/
def fnReadIntWrong : ChangeSpec := { name := "fnReadInt", fn := fun _ => fun
  | [d] => { results := [.lit (.bool false)], args := [d] }
  | _ => none }
def FnReadIntWrongFalsely : Prop := fnReadIntRow.holds Tryd.pinned (OpenSpec.ofChange fnReadIntWrong)

/-- 'laws.FnReadString': WHATEVER THE INPUT: true; the input reads as it did. -/
def fnReadStringSpec : ChangeSpec := { name := "fnReadString", fn := fun _ => fun
  | [d] => { results := [.lit (.bool true)], args := [d] }
  | _ => none }
def fnReadStringRow : OpenClaim := { program := "ytjjhckbidcdkcaadoor", sum := "fec3fb02d0e6d8f765a0df377713fa0630d6d57ffd541670f6923ab081c1a836", func := "given.example/pub-saddlebag/laws.FnReadString", spec := "fnReadString", recurses := true, named := ["unicode/utf8.first", "unicode/utf8.acceptRanges", "encoding/binary.BigEndian", "io.EOF"], loops := true, apart := false, laid := [("unicode/utf8.acceptRanges", laid_unicode_utf8_acceptRanges), ("io.EOF", laid_io_EOF), ("unicode/utf8.first", laid_unicode_utf8_first)] }
def FnReadStringSaid : Prop := fnReadStringRow.holds Tryd.pinned (OpenSpec.ofChange fnReadStringSpec)

/-- ITS FALSE NEIGHBOUR: 'it returns false'. Refute it at one input. -/
def fnReadStringWrong : ChangeSpec := { name := "fnReadString", fn := fun _ => fun
  | [d] => { results := [.lit (.bool false)], args := [d] }
  | _ => none }
def FnReadStringWrongFalsely : Prop := fnReadStringRow.holds Tryd.pinned (OpenSpec.ofChange fnReadStringWrong)

/-- 'laws.FnReadArrayFloat': WHATEVER THE INPUT: true; the input reads as it did. -/
def fnReadArrayFloatSpec : ChangeSpec := { name := "fnReadArrayFloat", fn := fun _ => fun
  | [d] => { results := [.lit (.bool true)], args := [d] }
  | _ => none }
def fnReadArrayFloatRow : OpenClaim := { program := "ytjjhckbidcdkcaadoor", sum := "fec3fb02d0e6d8f765a0df377713fa0630d6d57ffd541670f6923ab081c1a836", func := "given.example/pub-saddlebag/laws.FnReadArrayFloat", spec := "fnReadArrayFloat", inPlace := ["math.Float32frombits", "math.Float32bits"], recurses := true, named := ["encoding/binary.BigEndian", "io.EOF", "unicode/utf8.first", "unicode/utf8.acceptRanges"], loops := true, apart := false, laid := [("unicode/utf8.acceptRanges", laid_unicode_utf8_acceptRanges), ("io.EOF", laid_io_EOF), ("unicode/utf8.first", laid_unicode_utf8_first)] }
def FnReadArrayFloatSaid : Prop := fnReadArrayFloatRow.holds Tryd.pinned (OpenSpec.ofChange fnReadArrayFloatSpec)

/-- ITS FALSE NEIGHBOUR: 'it returns false'. Refute it at one input. -/
def fnReadArrayFloatWrong : ChangeSpec := { name := "fnReadArrayFloat", fn := fun _ => fun
  | [d] => { results := [.lit (.bool false)], args := [d] }
  | _ => none }
def FnReadArrayFloatWrongFalsely : Prop := fnReadArrayFloatRow.holds Tryd.pinned (OpenSpec.ofChange fnReadArrayFloatWrong)

/-- 'laws.FnReadArraySymbol': WHATEVER THE INPUT: true; the input reads as it did. -/
def fnReadArraySymbolSpec : ChangeSpec := { name := "fnReadArraySymbol", fn := fun _ => fun
  | [d] => { results := [.lit (.bool true)], args := [d] }
  | _ => none }
def fnReadArraySymbolRow : OpenClaim := { program := "ytjjhckbidcdkcaadoor", sum := "fec3fb02d0e6d8f765a0df377713fa0630d6d57ffd541670f6923ab081c1a836", func := "given.example/pub-saddlebag/laws.FnReadArraySymbol", spec := "fnReadArraySymbol", recurses := true, named := ["encoding/binary.BigEndian", "io.EOF", "unicode/utf8.first", "unicode/utf8.acceptRanges"], loops := true, apart := false, laid := [("unicode/utf8.acceptRanges", laid_unicode_utf8_acceptRanges), ("io.EOF", laid_io_EOF), ("unicode/utf8.first", laid_unicode_utf8_first)] }
def FnReadArraySymbolSaid : Prop := fnReadArraySymbolRow.holds Tryd.pinned (OpenSpec.ofChange fnReadArraySymbolSpec)

/-- ITS FALSE NEIGHBOUR: 'it returns false'. Refute it at one input. -/
def fnReadArraySymbolWrong : ChangeSpec := { name := "fnReadArraySymbol", fn := fun _ => fun
  | [d] => { results := [.lit (.bool false)], args := [d] }
  | _ => none }
def FnReadArraySymbolWrongFalsely : Prop := fnReadArraySymbolRow.holds Tryd.pinned (OpenSpec.ofChange fnReadArraySymbolWrong)

/-- 'laws.FnReadArrayUlong': WHATEVER THE INPUT: true; the input reads as it did. -/
def fnReadArrayUlongSpec : ChangeSpec := { name := "fnReadArrayUlong", fn := fun _ => fun
  | [d] => { results := [.lit (.bool true)], args := [d] }
  | _ => none }
def fnReadArrayUlongRow : OpenClaim := { program := "ytjjhckbidcdkcaadoor", sum := "fec3fb02d0e6d8f765a0df377713fa0630d6d57ffd541670f6923ab081c1a836", func := "given.example/pub-saddlebag/laws.FnReadArrayUlong", spec := "fnReadArrayUlong", recurses := true, named := ["encoding/binary.BigEndian", "io.EOF", "unicode/utf8.first", "unicode/utf8.acceptRanges"], loops := true, apart := false, laid := [("unicode/utf8.acceptRanges", laid_unicode_utf8_acceptRanges), ("io.EOF", laid_io_EOF), ("unicode/utf8.first", laid_unicode_utf8_first)] }
def FnReadArrayUlongSaid : Prop := fnReadArrayUlongRow.holds Tryd.pinned (OpenSpec.ofChange fnReadArrayUlongSpec)

/-- ITS FALSE NEIGHBOUR: 'it returns false'. Refute it at one input. -/
def fnReadArrayUlongWrong : ChangeSpec := { name := "fnReadArrayUlong", fn := fun _ => fun
  | [d] => { results := [.lit (.bool false)], args := [d] }
  | _ => none }
def FnReadArrayUlongWrongFalsely : Prop := fnReadArrayUlongRow.holds Tryd.pinned (OpenSpec.ofChange fnReadArrayUlongWrong)

/- THE SECOND FORM. 'bulk': how many values and letters a reading holds, each counted each time it is reached (what is shared counts as often as it is met; a slice's spare places count too). A statement '..UptoSaid' is the law's where the arguments, and the package variables that the reading takes, are together of bulk at most 1048576: NARROWER than '..Said'. Prove '..Said' where nothing that the law and all that it calls make is longer than what came in: it says more and counts as full. Else prove '..UptoSaid'. A law counts once. -/
mutual
def uptoBulk {H : Type} : DataW H → Nat
  | .lit (.string bytes) => bytes.length + 1
  | .lit _ => 1
  | .nil => 1
  | .ptr d => uptoBulk d + 1
  | .slice elems spare => uptoBulkAll elems + uptoBulkAll spare + 1
  | .agg parts => uptoBulkAll parts + 1
  | .iface _ d => uptoBulk d + 1
  | .map entries => uptoBulkEntries entries + 1
  | .held _ => 1
def uptoBulkAll {H : Type} : List (DataW H) → Nat
  | [] => 0
  | d :: r => uptoBulk d + uptoBulkAll r
def uptoBulkEntries {H : Type} : List (Lit × DataW H) → Nat
  | [] => 0
  | x :: r => uptoBulkEntry x + uptoBulkEntries r
def uptoBulkEntry {H : Type} : Lit × DataW H → Nat
  | (.string bytes, d) => bytes.length + uptoBulk d + 1
  | (_, d) => uptoBulk d + 1
 end
def uptoSmall : (H : Type) → List (DataW H) → Bool := fun _ ds => decide (uptoBulkAll ds ≤ 1048576)
def OpenSpec.upto (s : _root_.Go.ChangeSpec) : _root_.Go.OpenSpec := { _root_.Go.OpenSpec.ofChange s with cond := some uptoSmall }

/-- 'laws.FnReadUnsigned', WHERE WHAT IT READS IS OF BULK AT MOST 1048576: true; the input reads as it did. -/
def fnReadUnsignedUptoRow : OpenClaim := { program := "ytjjhckbidcdkcaadoor", sum := "fec3fb02d0e6d8f765a0df377713fa0630d6d57ffd541670f6923ab081c1a836", func := "given.example/pub-saddlebag/laws.FnReadUnsigned", spec := "fnReadUnsigned", recurses := true, named := ["io.EOF", "encoding/binary.BigEndian", "unicode/utf8.first", "unicode/utf8.acceptRanges"], loops := true, apart := false, laid := [("unicode/utf8.acceptRanges", laid_unicode_utf8_acceptRanges), ("io.EOF", laid_io_EOF), ("unicode/utf8.first", laid_unicode_utf8_first)], narrowed := true }
def FnReadUnsignedUptoSaid : Prop := fnReadUnsignedUptoRow.holds Tryd.pinned (OpenSpec.upto fnReadUnsignedSpec)

/-- 'laws.FnReadInt', WHERE WHAT IT READS IS OF BULK AT MOST 1048576: true; the input reads as it did. -/
def fnReadIntUptoRow : OpenClaim := { program := "ytjjhckbidcdkcaadoor", sum := "fec3fb02d0e6d8f765a0df377713fa0630d6d57ffd541670f6923ab081c1a836", func := "given.example/pub-saddlebag/laws.FnReadInt", spec := "fnReadInt", recurses := true, named := ["io.EOF", "encoding/binary.BigEndian", "unicode/utf8.first", "unicode/utf8.acceptRanges"], loops := true, apart := false, laid := [("unicode/utf8.acceptRanges", laid_unicode_utf8_acceptRanges), ("io.EOF", laid_io_EOF), ("unicode/utf8.first", laid_unicode_utf8_first)], narrowed := true }
def FnReadIntUptoSaid : Prop := fnReadIntUptoRow.holds Tryd.pinned (OpenSpec.upto fnReadIntSpec)

/-- 'laws.FnReadString', WHERE WHAT IT READS IS OF BULK AT MOST 1048576: true; the input reads as it did. -/
def fnReadStringUptoRow : OpenClaim := { program := "ytjjhckbidcdkcaadoor", sum := "fec3fb02d0e6d8f765a0df377713fa0630d6d57ffd541670f6923ab081c1a836", func := "given.example/pub-saddlebag/laws.FnReadString", spec := "fnReadString", recurses := true, named := ["unicode/utf8.first", "unicode/utf8.acceptRanges", "encoding/binary.BigEndian", "io.EOF"], loops := true, apart := false, laid := [("unicode/utf8.acceptRanges", laid_unicode_utf8_acceptRanges), ("io.EOF", laid_io_EOF), ("unicode/utf8.first", laid_unicode_utf8_first)], narrowed := true }
def FnReadStringUptoSaid : Prop := fnReadStringUptoRow.holds Tryd.pinned (OpenSpec.upto fnReadStringSpec)

/-- 'laws.FnReadArrayFloat', WHERE WHAT IT READS IS OF BULK AT MOST 1048576: true; the input reads as it did. -/
def fnReadArrayFloatUptoRow : OpenClaim := { program := "ytjjhckbidcdkcaadoor", sum := "fec3fb02d0e6d8f765a0df377713fa0630d6d57ffd541670f6923ab081c1a836", func := "given.example/pub-saddlebag/laws.FnReadArrayFloat", spec := "fnReadArrayFloat", inPlace := ["math.Float32frombits", "math.Float32bits"], recurses := true, named := ["encoding/binary.BigEndian", "io.EOF", "unicode/utf8.first", "unicode/utf8.acceptRanges"], loops := true, apart := false, laid := [("unicode/utf8.acceptRanges", laid_unicode_utf8_acceptRanges), ("io.EOF", laid_io_EOF), ("unicode/utf8.first", laid_unicode_utf8_first)], narrowed := true }
def FnReadArrayFloatUptoSaid : Prop := fnReadArrayFloatUptoRow.holds Tryd.pinned (OpenSpec.upto fnReadArrayFloatSpec)

/-- 'laws.FnReadArraySymbol', WHERE WHAT IT READS IS OF BULK AT MOST 1048576: true; the input reads as it did. -/
def fnReadArraySymbolUptoRow : OpenClaim := { program := "ytjjhckbidcdkcaadoor", sum := "fec3fb02d0e6d8f765a0df377713fa0630d6d57ffd541670f6923ab081c1a836", func := "given.example/pub-saddlebag/laws.FnReadArraySymbol", spec := "fnReadArraySymbol", recurses := true, named := ["encoding/binary.BigEndian", "io.EOF", "unicode/utf8.first", "unicode/utf8.acceptRanges"], loops := true, apart := false, laid := [("unicode/utf8.acceptRanges", laid_unicode_utf8_acceptRanges), ("io.EOF", laid_io_EOF), ("unicode/utf8.first", laid_unicode_utf8_first)], narrowed := true }
def FnReadArraySymbolUptoSaid : Prop := fnReadArraySymbolUptoRow.holds Tryd.pinned (OpenSpec.upto fnReadArraySymbolSpec)

/-- 'laws.FnReadArrayUlong', WHERE WHAT IT READS IS OF BULK AT MOST 1048576: true; the input reads as it did. -/
def fnReadArrayUlongUptoRow : OpenClaim := { program := "ytjjhckbidcdkcaadoor", sum := "fec3fb02d0e6d8f765a0df377713fa0630d6d57ffd541670f6923ab081c1a836", func := "given.example/pub-saddlebag/laws.FnReadArrayUlong", spec := "fnReadArrayUlong", recurses := true, named := ["encoding/binary.BigEndian", "io.EOF", "unicode/utf8.first", "unicode/utf8.acceptRanges"], loops := true, apart := false, laid := [("unicode/utf8.acceptRanges", laid_unicode_utf8_acceptRanges), ("io.EOF", laid_io_EOF), ("unicode/utf8.first", laid_unicode_utf8_first)], narrowed := true }
def FnReadArrayUlongUptoSaid : Prop := fnReadArrayUlongUptoRow.holds Tryd.pinned (OpenSpec.upto fnReadArrayUlongSpec)

end Rows
end Go.Proofs.YtjjhckbidcdkcaaDoor
