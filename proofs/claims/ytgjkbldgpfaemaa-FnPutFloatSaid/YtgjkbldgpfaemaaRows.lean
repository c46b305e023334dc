/-
  No cell of these rows narrows 'for every input' (looked for: loops, veiled, ifaces, maps, wideKeys, modest, calm, conditions, laid).
  DERIVED. THE GIVEN ROWS OF THIS SEAT. 7 by the template 'for every input the law returns true; each argument reads behind the call as it read before'; 0 by the template 'total and deterministic' (their statements: YtgjkbldgpfaemaaTotals.lean).
  GIVEN WITH THE SEED: the statements are not yours to turn. If you find one false, say at which input.
  Laid BY PROGRAM, IN A SANDBOX (cutbox-rows.mjs): the forced cells as the released guide's own fill.sh prints them over the translation 8af5713a99af984b… (all of the seat's roots in one cut). By AI agents, Wed Nov 11 2026. No macro, syntax, notation, axiom, sorry.
-/
import Derived.Test.YtgjkbldgpfaemaaChecked
import GoSem.Claim
import GoSem.ClaimJoined
import GoSem.ClaimMapViews
import Derived.JoinedTies
import Derived.KernelRfl
namespace Go.Proofs.Ytgjkbldgpfaemaa
/- THE CELL 'sum', in the pinned program and in every row, IS THE sha256 OF THE DUMP (.gsa) THAT YtgjkbldgpfaemaaProg.lean LOADS. Nothing in Lean hashes anything: it is a label: what it is worth is what the hold of that sum in a sandbox is worth. -/
noncomputable def Try.pinned : Pinned := { name := "ytgjkbldgpfaemaa", sum := "8af5713a99af984bf605d176dc95c1a3d7629a1d23152cfc80dd5b2ce6b92440", checked := Try.checked }
namespace Rows
def none {H : Type} : Left H := { results := [], args := [] }

/-- 'laws.FnIsNil': WHATEVER THE INPUT: true; the input reads as it did. -/
def fnIsNilSpec : ChangeSpec := { name := "fnIsNil", fn := fun _ => fun
  | [d] => { results := [.lit (.bool true)], args := [d] }
  | _ => none }
def fnIsNilRow : OpenClaim := { program := "ytgjkbldgpfaemaa", sum := "8af5713a99af984bf605d176dc95c1a3d7629a1d23152cfc80dd5b2ce6b92440", func := "given.example/pub-saddlebag/laws.FnIsNil", spec := "fnIsNil", apart := false }
def FnIsNilSaid : Prop := fnIsNilRow.holds Try.pinned (OpenSpec.ofChange fnIsNilSpec)

/-- ITS FALSE NEIGHBOUR: 'it returns false'. Refute it at one input. -/
def fnIsNilWrong : ChangeSpec := { name := "fnIsNil", fn := fun _ => fun
  | [d] => { results := [.lit (.bool false)], args := [d] }
  | _ => none }
def FnIsNilWrongFalsely : Prop := fnIsNilRow.holds Try.pinned (OpenSpec.ofChange fnIsNilWrong)

/-- 'laws.FnPutRaw': WHATEVER THE INPUT: true; the input reads as it did. -/
def fnPutRawSpec : ChangeSpec := { name := "fnPutRaw", fn := fun _ => fun
  | [d1, d2] => { results := [.lit (.bool true)], args := [d1, d2] }
  | _ => none }
def fnPutRawRow : OpenClaim := { program := "ytgjkbldgpfaemaa", sum := "8af5713a99af984bf605d176dc95c1a3d7629a1d23152cfc80dd5b2ce6b92440", func := "given.example/pub-saddlebag/laws.FnPutRaw", spec := "fnPutRaw", apart := false }
def FnPutRawSaid : Prop := fnPutRawRow.holds Try.pinned (OpenSpec.ofChange fnPutRawSpec)

/-- ITS FALSE NEIGHBOUR: 'it returns false'. Refute it at one input. -/
def fnPutRawWrong : ChangeSpec := { name := "fnPutRaw", fn := fun _ => fun
  | [d1, d2] => { results := [.lit (.bool false)], args := [d1, d2] }
  | _ => none }
def FnPutRawWrongFalsely : Prop := fnPutRawRow.holds Try.pinned (OpenSpec.ofChange fnPutRawWrong)

/-- 'laws.FnPutBin': WHATEVER THE INPUT: true; the input reads as it did. -/
def fnPutBinSpec : ChangeSpec := { name := "fnPutBin", fn := fun _ => fun
  | [d1, d2] => { results := [.lit (.bool true)], args := [d1, d2] }
  | _ => none }
def fnPutBinRow : OpenClaim := { program := "ytgjkbldgpfaemaa", sum := "8af5713a99af984bf605d176dc95c1a3d7629a1d23152cfc80dd5b2ce6b92440", func := "given.example/pub-saddlebag/laws.FnPutBin", spec := "fnPutBin", recurses := true, apart := false }
def FnPutBinSaid : Prop := fnPutBinRow.holds Try.pinned (OpenSpec.ofChange fnPutBinSpec)

/-- ITS FALSE NEIGHBOUR: 'it returns false'. Refute it at one input. -/
def fnPutBinWrong : ChangeSpec := { name := "fnPutBin", fn := fun _ => fun
  | [d1, d2] => { results := [.lit (.bool false)], args := [d1, d2] }
  | _ => none }
def FnPutBinWrongFalsely : Prop := fnPutBinRow.holds Try.pinned (OpenSpec.ofChange fnPutBinWrong)

/-- 'laws.FnPutFloat': WHATEVER THE INPUT: true; the input reads as it did. -/
def fnPutFloatSpec : ChangeSpec := { name := "fnPutFloat", fn := fun _ => fun
  | [d1, d2] => { results := [.lit (.bool true)], args := [d1, d2] }
  | _ => none }
def fnPutFloatRow : OpenClaim := { program := "ytgjkbldgpfaemaa", sum := "8af5713a99af984bf605d176dc95c1a3d7629a1d23152cfc80dd5b2ce6b92440", func := "given.example/pub-saddlebag/laws.FnPutFloat", spec := "fnPutFloat", inPlace := ["math.Float64bits", "math.Float64frombits", "math.Float32bits"], recurses := true, apart := false }
def FnPutFloatSaid : Prop := fnPutFloatRow.holds Try.pinned (OpenSpec.ofChange fnPutFloatSpec)

/-- ITS FALSE NEIGHBOUR: 'it returns false'. Refute it at one input. -/
def fnPutFloatWrong : ChangeSpec := { name := "fnPutFloat", fn := fun _ => fun
  | [d1, d2] => { results := [.lit (.bool false)], args := [d1, d2] }
  | _ => none }
def FnPutFloatWrongFalsely : Prop := fnPutFloatRow.holds Try.pinned (OpenSpec.ofChange fnPutFloatWrong)

/-- 'laws.FnPutUint': WHATEVER THE INPUT: true; the input reads as it did. -/
def fnPutUintSpec : ChangeSpec := { name := "fnPutUint", fn := fun _ => fun
  | [d1, d2] => { results := [.lit (.bool true)], args := [d1, d2] }
  | _ => none }
def fnPutUintRow : OpenClaim := { program := "ytgjkbldgpfaemaa", sum := "8af5713a99af984bf605d176dc95c1a3d7629a1d23152cfc80dd5b2ce6b92440", func := "given.example/pub-saddlebag/laws.FnPutUint", spec := "fnPutUint", recurses := true, apart := false }
def FnPutUintSaid : Prop := fnPutUintRow.holds Try.pinned (OpenSpec.ofChange fnPutUintSpec)

/-- ITS FALSE NEIGHBOUR: 'it returns false'. Refute it at one input. -/
def fnPutUintWrong : ChangeSpec := { name := "fnPutUint", fn := fun _ => fun
  | [d1, d2] => { results := [.lit (.bool false)], args := [d1, d2] }
  | _ => none }
def FnPutUintWrongFalsely : Prop := fnPutUintRow.holds Try.pinned (OpenSpec.ofChange fnPutUintWrong)

/-- 'laws.FnPutByte': WHATEVER THE INPUT: true; the input reads as it did. -/
def fnPutByteSpec : ChangeSpec := { name := "fnPutByte", fn := fun _ => fun
  | [d1, d2] => { results := [.lit (.bool true)], args := [d1, d2] }
  | _ => none }
def fnPutByteRow : OpenClaim := { program := "ytgjkbldgpfaemaa", sum := "8af5713a99af984bf605d176dc95c1a3d7629a1d23152cfc80dd5b2ce6b92440", func := "given.example/pub-saddlebag/laws.FnPutByte", spec := "fnPutByte", recurses := true, apart := false }
def FnPutByteSaid : Prop := fnPutByteRow.holds Try.pinned (OpenSpec.ofChange fnPutByteSpec)

/-- ITS FALSE NEIGHBOUR: 'it returns false'. Refute it at one input. -/
def fnPutByteWrong : ChangeSpec := { name := "fnPutByte", fn := fun _ => fun
  | [d1, d2] => { results := [.lit (.bool false)], args := [d1, d2] }
  | _ => none }
def FnPutByteWrongFalsely : Prop := fnPutByteRow.holds Try.pinned (OpenSpec.ofChange fnPutByteWrong)

/-- 'laws.FnPutInt': WHATEVER THE INPUT: true; the input reads as it did. -/
def fnPutIntSpec : ChangeSpec := { name := "fnPutInt", fn := fun _ => fun
  | [d1, d2] => { results := [.lit (.bool true)], args := [d1, d2] }
  | _ => none }
def fnPutIntRow : OpenClaim := { program := "ytgjkbldgpfaemaa", sum := "8af5713a99af984bf605d176dc95c1a3d7629a1d23152cfc80dd5b2ce6b92440", func := "given.example/pub-saddlebag/laws.FnPutInt", spec := "fnPutInt", recurses := true, apart := false }
def FnPutIntSaid : Prop := fnPutIntRow.holds Try.pinned (OpenSpec.ofChange fnPutIntSpec)

/-- ITS FALSE NEIGHBOUR: 'it returns false'. Refute it at one input. -/
def fnPutIntWrong : ChangeSpec := { name := "fnPutInt", fn := fun _ => fun
  | [d1, d2] => { results := [.lit (.bool false)], args := [d1, d2] }
  | _ => none }
def FnPutIntWrongFalsely : Prop := fnPutIntRow.holds Try.pinned (OpenSpec.ofChange fnPutIntWrong)

/- THE SECOND FORM. 'bulk': how many values and letters a reading holds, each counted each time it is reached (what is shared counts as often as it is met; a slice's spare places count too). A statement '..UptoSaid' is the law's where the arguments, and the package variables that the reading takes, are together of bulk at most 1048576: NARROWER than '..Said'. Prove '..Said' where nothing that the law and all that it calls make is longer than what came in: it says more and counts as full. Else prove '..UptoSaid'. A law counts once. -/
mutual
def uptoBulk {H : Type} : DataW H → Nat
  | .lit (.string bytes) => bytes.length + 1
  | .lit _ => 1
  | .nil => 1
  | .ptr d => uptoBulk d + 1
  | .slice elems spare => uptoBulkAll elems + uptoBulkAll spare + 1
  | .agg parts => uptoBulkAll parts + 1
  | .iface _ d => uptoBulk d + 1
  | .map entries => uptoBulkEntries entries + 1
  | .held _ => 1
def uptoBulkAll {H : Type} : List (DataW H) → Nat
  | [] => 0
  | d :: r => uptoBulk d + uptoBulkAll r
def uptoBulkEntries {H : Type} : List (Lit × DataW H) → Nat
  | [] => 0
  | x :: r => uptoBulkEntry x + uptoBulkEntries r
def uptoBulkEntry {H : Type} : Lit × DataW H → Nat
  | (.string bytes, d) => bytes.length + uptoBulk d + 1
  | (_, d) => uptoBulk d + 1
 end
def uptoSmall : (H : Type) → List (DataW H) → Bool := fun _ ds => decide (uptoBulkAll ds ≤ 1048576)
def OpenSpec.upto (s : _root_.Go.ChangeSpec) : _root_.Go.OpenSpec := { _root_.Go.OpenSpec.ofChange s with cond := some uptoSmall }

/-- 'laws.FnIsNil', WHERE WHAT IT READS IS OF BULK AT MOST 1048576: true; the input reads as it did. -/
def fnIsNilUptoRow : OpenClaim := { program := "ytgjkbldgpfaemaa", sum := "8af5713a99af984bf605d176dc95c1a3d7629a1d23152cfc80dd5b2ce6b92440", func := "given.example/pub-saddlebag/laws.FnIsNil", spec := "fnIsNil", apart := false, narrowed := true }
def FnIsNilUptoSaid : Prop := fnIsNilUptoRow.holds Try.pinned (OpenSpec.upto fnIsNilSpec)

/-- 'laws.FnPutRaw', WHERE WHAT IT READS IS OF BULK AT MOST 1048576: true; the input reads as it did. -/
def fnPutRawUptoRow : OpenClaim := { program := "ytgjkbldgpfaemaa", sum := "8af5713a99af984bf605d176dc95c1a3d7629a1d23152cfc80dd5b2ce6b92440", func := "given.example/pub-saddlebag/laws.FnPutRaw", spec := "fnPutRaw", apart := false, narrowed := true }
def FnPutRawUptoSaid : Prop := fnPutRawUptoRow.holds Try.pinned (OpenSpec.upto fnPutRawSpec)

/-- 'laws.FnPutBin', WHERE WHAT IT READS IS OF BULK AT MOST 1048576: true; the input reads as it did. -/
def fnPutBinUptoRow : OpenClaim := { program := "ytgjkbldgpfaemaa", sum := "8af5713a99af984bf605d176dc95c1a3d7629a1d23152cfc80dd5b2ce6b92440", func := "given.example/pub-saddlebag/laws.FnPutBin", spec := "fnPutBin", recurses := true, apart := false, narrowed := true }
def FnPutBinUptoSaid : Prop := fnPutBinUptoRow.holds Try.pinned (OpenSpec.upto fnPutBinSpec)

/-- 'laws.FnPutFloat', WHERE WHAT IT READS IS OF BULK AT MOST 1048576: true; the input reads as it did. -/
def fnPutFloatUptoRow : OpenClaim := { program := "ytgjkbldgpfaemaa", sum := "8af5713a99af984bf605d176dc95c1a3d7629a1d23152cfc80dd5b2ce6b92440", func := "given.example/pub-saddlebag/laws.FnPutFloat", spec := "fnPutFloat", inPlace := ["math.Float64bits", "math.Float64frombits", "math.Float32bits"], recurses := true, apart := false, narrowed := true }
def FnPutFloatUptoSaid : Prop := fnPutFloatUptoRow.holds Try.pinned (OpenSpec.upto fnPutFloatSpec)

/-- 'laws.FnPutUint', WHERE WHAT IT READS IS OF BULK AT MOST 1048576: true; the input reads as it did. -/
def fnPutUintUptoRow : OpenClaim := { program := "ytgjkbldgpfaemaa", sum := "8af5713a99af984bf605d176dc95c1a3d7629a1d23152cfc80dd5b2ce6b92440", func := "given.example/pub-saddlebag/laws.FnPutUint", spec := "fnPutUint", recurses := true, apart := false, narrowed := true }
def FnPutUintUptoSaid : Prop := fnPutUintUptoRow.holds Try.pinned (OpenSpec.upto fnPutUintSpec)

/-- 'laws.FnPutByte', WHERE WHAT IT READS IS OF BULK AT MOST 1048576: true; the input reads as it did. -/
def fnPutByteUptoRow : OpenClaim := { program := "ytgjkbldgpfaemaa", sum := "8af5713a99af984bf605d176dc95c1a3d7629a1d23152cfc80dd5b2ce6b92440", func := "given.example/pub-saddlebag/laws.FnPutByte", spec := "fnPutByte", recurses := true, apart := false, narrowed := true }
def FnPutByteUptoSaid : Prop := fnPutByteUptoRow.holds Try.pinned (OpenSpec.upto fnPutByteSpec)

/-- 'laws.FnPutInt', WHERE WHAT IT READS IS OF BULK AT MOST 1048576: true; the input reads as it did. -/
def fnPutIntUptoRow : OpenClaim := { program := "ytgjkbldgpfaemaa", sum := "8af5713a99af984bf605d176dc95c1a3d7629a1d23152cfc80dd5b2ce6b92440", func := "given.example/pub-saddlebag/laws.FnPutInt", spec := "fnPutInt", recurses := true, apart := false, narrowed := true }
def FnPutIntUptoSaid : Prop := fnPutIntUptoRow.holds Try.pinned (OpenSpec.upto fnPutIntSpec)

end Rows
end Go.Proofs.Ytgjkbldgpfaemaa
