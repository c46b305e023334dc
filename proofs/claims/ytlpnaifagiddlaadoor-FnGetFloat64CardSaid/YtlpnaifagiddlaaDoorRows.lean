/-
  NARROWER THAN 'FOR EVERY INPUT', by the rows' own cells (each row's printed sentence says how): FnGetFloat64: loops, ifaces, laid · FnGetTextBytes: loops, ifaces, laid · FnGetDuration: loops, ifaces, laid · FnGetInt16: loops, ifaces, laid · FnGetUint16: loops, ifaces, laid · FnCopyReplace: loops, ifaces, laid.
  DERIVED. THE GIVEN ROWS OF THIS SEAT. 6 by the template 'for every input the law returns true; each argument reads behind the call as it read before'; 0 by the template 'total and deterministic' (their statements: YtlpnaifagiddlaaDoorTotals.lean).
  GIVEN WITH THE SEED: the statements are not yours to turn. If you find one false, say at which input.
  Laid BY PROGRAM, IN A SANDBOX (cutbox-rows.mjs): the forced cells as the released guide's own fill.sh prints them over the translation 3f8c23c77a739d11… (all of the seat's roots in one cut). By AI agents, Wed Nov 11 2026. No macro, syntax, notation, axiom, sorry.
-/
import Derived.Test.YtlpnaifagiddlaaDoorChecked
import GoSem.Claim
import GoSem.ClaimJoined
import GoSem.ClaimMapViews
import Derived.JoinedTies
import Derived.KernelRfl
namespace Go.Proofs.YtlpnaifagiddlaaDoor
/- THE CELL 'sum', in the pinned program and in every row, IS THE sha256 OF THE DUMP (.gsa) THAT YtlpnaifagiddlaaDoorProg.lean LOADS. Nothing in Lean hashes anything: it is a label: what it is worth is what the hold of that sum in a sandbox is worth. -/
noncomputable def Tryd.pinned : Pinned := { name := "ytlpnaifagiddlaadoor", sum := "3f8c23c77a739d11896837154abf45d6d0e4662ccd7bbc630a14b983caa77d4b", checked := Tryd.checked }
namespace Rows
def none {H : Type} : Left H := { results := [], args := [] }

/- WHAT THE LISTED PACKAGE-LEVEL VARIABLES READ AS WHEN THE CALL BEGINS. Each datum BY PROGRAM (the guide's laid-datum.mjs) off the statement by which the dump's own 'gosem.cut.vars' lays the variable. In a bare row this is a premise. The card (YtlpnaifagiddlaaDoorCards.lean) ties it to the program's text. -/
def laid_given_example_pub_saddlebag_pub_msgp_msgp_ErrShortBytes {H : Type} : DataW H := .iface "given.example/pub-saddlebag/pub/msgp/msgp.errShort" (.agg [])
def laid_given_example_pub_saddlebag_pub_msgp_msgp_ErrRecursion {H : Type} : DataW H := .iface "given.example/pub-saddlebag/pub/msgp/msgp.errRecursion" (.agg [])
def laid_given_example_pub_saddlebag_pub_msgp_msgp_fatal {H : Type} : DataW H := .iface "given.example/pub-saddlebag/pub/msgp/msgp.errFatal" (.agg [.lit (.string [])])

/-- 'laws.FnGetFloat64': WHATEVER THE INPUT: true; the input reads as it did. -/
def fnGetFloat64Spec : ChangeSpec := { name := "fnGetFloat64", vars := ["given.example/pub-saddlebag/pub/msgp/msgp.ErrShortBytes"], fn := fun _ => fun
  | [d, g1] => { results := [.lit (.bool true)], args := [d], vars := [g1] }
  | _ => none }
def fnGetFloat64Row : OpenClaim := { program := "ytlpnaifagiddlaadoor", sum := "3f8c23c77a739d11896837154abf45d6d0e4662ccd7bbc630a14b983caa77d4b", func := "given.example/pub-saddlebag/laws.FnGetFloat64", spec := "fnGetFloat64", inPlace := ["math.Float32frombits", "math.Float64frombits", "math.Float64bits"], recurses := true, named := ["given.example/pub-saddlebag/pub/msgp/msgp.ErrShortBytes"], ifaces := true, loops := true, apart := false, laid := [("given.example/pub-saddlebag/pub/msgp/msgp.ErrShortBytes", laid_given_example_pub_saddlebag_pub_msgp_msgp_ErrShortBytes)] }
def FnGetFloat64Said : Prop := fnGetFloat64Row.holds Tryd.pinned (OpenSpec.ofChange fnGetFloat64Spec)

/-- ITS FALSE NEIGHBOUR: 'it returns false'. Refute it at one input. -/
def fnGetFloat64Wrong : ChangeSpec := { name := "fnGetFloat64", vars := ["given.example/pub-saddlebag/pub/msgp/msgp.ErrShortBytes"], fn := fun _ => fun
  | [d, g1] => { results := [.lit (.bool false)], args := [d], vars := [g1] }
  | _ => none }
def FnGetFloat64WrongFalsely : Prop := fnGetFloat64Row.holds Tryd.pinned (OpenSpec.ofChange fnGetFloat64Wrong)

/-- 'laws.FnGetTextBytes': WHATEVER THE INPUT: true; the input reads as it did. -/
def fnGetTextBytesSpec : ChangeSpec := { name := "fnGetTextBytes", vars := ["given.example/pub-saddlebag/pub/msgp/msgp.ErrShortBytes"], fn := fun _ => fun
  | [d, g1] => { results := [.lit (.bool true)], args := [d], vars := [g1] }
  | _ => none }
def fnGetTextBytesRow : OpenClaim := { program := "ytlpnaifagiddlaadoor", sum := "3f8c23c77a739d11896837154abf45d6d0e4662ccd7bbc630a14b983caa77d4b", func := "given.example/pub-saddlebag/laws.FnGetTextBytes", spec := "fnGetTextBytes", recurses := true, named := ["given.example/pub-saddlebag/pub/msgp/msgp.ErrShortBytes", "encoding/binary.BigEndian"], ifaces := true, loops := true, apart := false, laid := [("given.example/pub-saddlebag/pub/msgp/msgp.ErrShortBytes", laid_given_example_pub_saddlebag_pub_msgp_msgp_ErrShortBytes)] }
def FnGetTextBytesSaid : Prop := fnGetTextBytesRow.holds Tryd.pinned (OpenSpec.ofChange fnGetTextBytesSpec)

/-- ITS FALSE NEIGHBOUR: 'it returns false'. Refute it at one input. -/
def fnGetTextBytesWrong : ChangeSpec := { name := "fnGetTextBytes", vars := ["given.example/pub-saddlebag/pub/msgp/msgp.ErrShortBytes"], fn := fun _ => fun
  | [d, g1] => { results := [.lit (.bool false)], args := [d], vars := [g1] }
  | _ => none }
def FnGetTextBytesWrongFalsely : Prop := fnGetTextBytesRow.holds Tryd.pinned (OpenSpec.ofChange fnGetTextBytesWrong)

/-- 'laws.FnGetDuration': WHATEVER THE INPUT: true; the input reads as it did. -/
def fnGetDurationSpec : ChangeSpec := { name := "fnGetDuration", vars := ["given.example/pub-saddlebag/pub/msgp/msgp.ErrShortBytes"], fn := fun _ => fun
  | [d, g1] => { results := [.lit (.bool true)], args := [d], vars := [g1] }
  | _ => none }
def fnGetDurationRow : OpenClaim := { program := "ytlpnaifagiddlaadoor", sum := "3f8c23c77a739d11896837154abf45d6d0e4662ccd7bbc630a14b983caa77d4b", func := "given.example/pub-saddlebag/laws.FnGetDuration", spec := "fnGetDuration", recurses := true, named := ["given.example/pub-saddlebag/pub/msgp/msgp.ErrShortBytes", "encoding/binary.BigEndian"], ifaces := true, loops := true, apart := false, laid := [("given.example/pub-saddlebag/pub/msgp/msgp.ErrShortBytes", laid_given_example_pub_saddlebag_pub_msgp_msgp_ErrShortBytes)] }
def FnGetDurationSaid : Prop := fnGetDurationRow.holds Tryd.pinned (OpenSpec.ofChange fnGetDurationSpec)

/-- ITS FALSE NEIGHBOUR: 'it returns false'. Refute it at one input. -/
def fnGetDurationWrong : ChangeSpec := { name := "fnGetDuration", vars := ["given.example/pub-saddlebag/pub/msgp/msgp.ErrShortBytes"], fn := fun _ => fun
  | [d, g1] => { results := [.lit (.bool false)], args := [d], vars := [g1] }
  | _ => none }
def FnGetDurationWrongFalsely : Prop := fnGetDurationRow.holds Tryd.pinned (OpenSpec.ofChange fnGetDurationWrong)

/-- 'laws.FnGetInt16': WHATEVER THE INPUT: true; the input reads as it did. -/
def fnGetInt16Spec : ChangeSpec := { name := "fnGetInt16", vars := ["given.example/pub-saddlebag/pub/msgp/msgp.ErrShortBytes"], fn := fun _ => fun
  | [d, g1] => { results := [.lit (.bool true)], args := [d], vars := [g1] }
  | _ => none }
def fnGetInt16Row : OpenClaim := { program := "ytlpnaifagiddlaadoor", sum := "3f8c23c77a739d11896837154abf45d6d0e4662ccd7bbc630a14b983caa77d4b", func := "given.example/pub-saddlebag/laws.FnGetInt16", spec := "fnGetInt16", recurses := true, named := ["given.example/pub-saddlebag/pub/msgp/msgp.ErrShortBytes", "encoding/binary.BigEndian"], ifaces := true, loops := true, apart := false, laid := [("given.example/pub-saddlebag/pub/msgp/msgp.ErrShortBytes", laid_given_example_pub_saddlebag_pub_msgp_msgp_ErrShortBytes)] }
def FnGetInt16Said : Prop := fnGetInt16Row.holds Tryd.pinned (OpenSpec.ofChange fnGetInt16Spec)

/-- ITS FALSE NEIGHBOUR: 'it returns false'. Refute it at one input. -/
def fnGetInt16Wrong : ChangeSpec := { name := "fnGetInt16", vars := ["given.example/pub-saddlebag/pub/msgp/msgp.ErrShortBytes"], fn := fun _ => fun
  | [d, g1] => { results := [.lit (.bool false)], args := [d], vars := [g1] }
  | _ => none }
def FnGetInt16WrongFalsely : Prop := fnGetInt16Row.holds Tryd.pinned (OpenSpec.ofChange fnGetInt16Wrong)

/-- 'laws.FnGetUint16': WHATEVER THE INPUT: true; the input reads as it did. -/
def fnGetUint16Spec : ChangeSpec := { name := "fnGetUint16", vars := ["given.example/pub-saddlebag/pub/msgp/msgp.ErrShortBytes"], fn := fun _ => fun
  | [d, g1] => { results := [.lit (.bool true)], args := [d], vars := [g1] }
  | _ => none }
def fnGetUint16Row : OpenClaim := { program := "ytlpnaifagiddlaadoor", sum := "3f8c23c77a739d11896837154abf45d6d0e4662ccd7bbc630a14b983caa77d4b", func := "given.example/pub-saddlebag/laws.FnGetUint16", spec := "fnGetUint16", recurses := true, named := ["given.example/pub-saddlebag/pub/msgp/msgp.ErrShortBytes", "encoding/binary.BigEndian"], ifaces := true, loops := true, apart := false, laid := [("given.example/pub-saddlebag/pub/msgp/msgp.ErrShortBytes", laid_given_example_pub_saddlebag_pub_msgp_msgp_ErrShortBytes)] }
def FnGetUint16Said : Prop := fnGetUint16Row.holds Tryd.pinned (OpenSpec.ofChange fnGetUint16Spec)

/-- ITS FALSE NEIGHBOUR: 'it returns false'. Refute it at one input. -/
def fnGetUint16Wrong : ChangeSpec := { name := "fnGetUint16", vars := ["given.example/pub-saddlebag/pub/msgp/msgp.ErrShortBytes"], fn := fun _ => fun
  | [d, g1] => { results := [.lit (.bool false)], args := [d], vars := [g1] }
  | _ => none }
def FnGetUint16WrongFalsely : Prop := fnGetUint16Row.holds Tryd.pinned (OpenSpec.ofChange fnGetUint16Wrong)

/-- 'laws.FnCopyReplace': WHATEVER THE INPUT: true; the input reads as it did. -/
def fnCopyReplaceSpec : ChangeSpec := { name := "fnCopyReplace", vars := ["given.example/pub-saddlebag/pub/msgp/msgp.ErrShortBytes", "given.example/pub-saddlebag/pub/msgp/msgp.ErrRecursion", "given.example/pub-saddlebag/pub/msgp/msgp.fatal"], fn := fun _ => fun
  | [d1, d2, d3, d4, g1, g2, g3] => { results := [.lit (.bool true)], args := [d1, d2, d3, d4], vars := [g1, g2, g3] }
  | _ => none }
def fnCopyReplaceRow : OpenClaim := { program := "ytlpnaifagiddlaadoor", sum := "3f8c23c77a739d11896837154abf45d6d0e4662ccd7bbc630a14b983caa77d4b", func := "given.example/pub-saddlebag/laws.FnCopyReplace", spec := "fnCopyReplace", recurses := true, named := ["given.example/pub-saddlebag/pub/msgp/msgp.ErrShortBytes", "encoding/binary.BigEndian", "given.example/pub-saddlebag/pub/msgp/msgp.ErrRecursion", "given.example/pub-saddlebag/pub/msgp/msgp.fatal"], ifaces := true, loops := true, apart := false, laid := [("given.example/pub-saddlebag/pub/msgp/msgp.ErrShortBytes", laid_given_example_pub_saddlebag_pub_msgp_msgp_ErrShortBytes), ("given.example/pub-saddlebag/pub/msgp/msgp.ErrRecursion", laid_given_example_pub_saddlebag_pub_msgp_msgp_ErrRecursion), ("given.example/pub-saddlebag/pub/msgp/msgp.fatal", laid_given_example_pub_saddlebag_pub_msgp_msgp_fatal)] }
def FnCopyReplaceSaid : Prop := fnCopyReplaceRow.holds Tryd.pinned (OpenSpec.ofChange fnCopyReplaceSpec)

/-- ITS FALSE NEIGHBOUR: 'it returns false'. Refute it at one input. -/
def fnCopyReplaceWrong : ChangeSpec := { name := "fnCopyReplace", vars := ["given.example/pub-saddlebag/pub/msgp/msgp.ErrShortBytes", "given.example/pub-saddlebag/pub/msgp/msgp.ErrRecursion", "given.example/pub-saddlebag/pub/msgp/msgp.fatal"], fn := fun _ => fun
  | [d1, d2, d3, d4, g1, g2, g3] => { results := [.lit (.bool false)], args := [d1, d2, d3, d4], vars := [g1, g2, g3] }
  | _ => none }
def FnCopyReplaceWrongFalsely : Prop := fnCopyReplaceRow.holds Tryd.pinned (OpenSpec.ofChange fnCopyReplaceWrong)

/- THE SECOND FORM. 'bulk': how many values and letters a reading holds, each counted each time it is reached (what is shared counts as often as it is met; a slice's spare places count too). A statement '..UptoSaid' is the law's where the arguments, and the package variables that the reading takes, are together of bulk at most 1048576: NARROWER than '..Said'. Prove '..Said' where nothing that the law and all that it calls make is longer than what came in: it says more and counts as full. Else prove '..UptoSaid'. A law counts once. -/
mutual
def uptoBulk {H : Type} : DataW H → Nat
  | .lit (.string bytes) => bytes.length + 1
  | .lit _ => 1
  | .nil => 1
  | .ptr d => uptoBulk d + 1
  | .slice elems spare => uptoBulkAll elems + uptoBulkAll spare + 1
  | .agg parts => uptoBulkAll parts + 1
  | .iface _ d => uptoBulk d + 1
  | .map entries => uptoBulkEntries entries + 1
  | .held _ => 1
def uptoBulkAll {H : Type} : List (DataW H) → Nat
  | [] => 0
  | d :: r => uptoBulk d + uptoBulkAll r
def uptoBulkEntries {H : Type} : List (Lit × DataW H) → Nat
  | [] => 0
  | x :: r => uptoBulkEntry x + uptoBulkEntries r
def uptoBulkEntry {H : Type} : Lit × DataW H → Nat
  | (.string bytes, d) => bytes.length + uptoBulk d + 1
  | (_, d) => uptoBulk d + 1
 end
def uptoSmall : (H : Type) → List (DataW H) → Bool := fun _ ds => decide (uptoBulkAll ds ≤ 1048576)
def OpenSpec.upto (s : _root_.Go.ChangeSpec) : _root_.Go.OpenSpec := { _root_.Go.OpenSpec.ofChange s with cond := some uptoSmall }

/-- 'laws.FnGetFloat64', WHERE WHAT IT READS IS OF BULK AT MOST 1048576: true; the input reads as it did. -/
def fnGetFloat64UptoRow : OpenClaim := { program := "ytlpnaifagiddlaadoor", sum := "3f8c23c77a739d11896837154abf45d6d0e4662ccd7bbc630a14b983caa77d4b", func := "given.example/pub-saddlebag/laws.FnGetFloat64", spec := "fnGetFloat64", inPlace := ["math.Float32frombits", "math.Float64frombits", "math.Float64bits"], recurses := true, named := ["given.example/pub-saddlebag/pub/msgp/msgp.ErrShortBytes"], ifaces := true, loops := true, apart := false, laid := [("given.example/pub-saddlebag/pub/msgp/msgp.ErrShortBytes", laid_given_example_pub_saddlebag_pub_msgp_msgp_ErrShortBytes)], narrowed := true }
def FnGetFloat64UptoSaid : Prop := fnGetFloat64UptoRow.holds Tryd.pinned (OpenSpec.upto fnGetFloat64Spec)

/-- 'laws.FnGetTextBytes', WHERE WHAT IT READS IS OF BULK AT MOST 1048576: true; the input reads as it did. -/
def fnGetTextBytesUptoRow : OpenClaim := { program := "ytlpnaifagiddlaadoor", sum := "3f8c23c77a739d11896837154abf45d6d0e4662ccd7bbc630a14b983caa77d4b", func := "given.example/pub-saddlebag/laws.FnGetTextBytes", spec := "fnGetTextBytes", recurses := true, named := ["given.example/pub-saddlebag/pub/msgp/msgp.ErrShortBytes", "encoding/binary.BigEndian"], ifaces := true, loops := true, apart := false, laid := [("given.example/pub-saddlebag/pub/msgp/msgp.ErrShortBytes", laid_given_example_pub_saddlebag_pub_msgp_msgp_ErrShortBytes)], narrowed := true }
def FnGetTextBytesUptoSaid : Prop := fnGetTextBytesUptoRow.holds Tryd.pinned (OpenSpec.upto fnGetTextBytesSpec)

/-- 'laws.FnGetDuration', WHERE WHAT IT READS IS OF BULK AT MOST 1048576: true; the input reads as it did. -/
def fnGetDurationUptoRow : OpenClaim := { program := "ytlpnaifagiddlaadoor", sum := "3f8c23c77a739d11896837154abf45d6d0e4662ccd7bbc630a14b983caa77d4b", func := "given.example/pub-saddlebag/laws.FnGetDuration", spec := "fnGetDuration", recurses := true, named := ["given.example/pub-saddlebag/pub/msgp/msgp.ErrShortBytes", "encoding/binary.BigEndian"], ifaces := true, loops := true, apart := false, laid := [("given.example/pub-saddlebag/pub/msgp/msgp.ErrShortBytes", laid_given_example_pub_saddlebag_pub_msgp_msgp_ErrShortBytes)], narrowed := true }
def FnGetDurationUptoSaid : Prop := fnGetDurationUptoRow.holds Tryd.pinned (OpenSpec.upto fnGetDurationSpec)

/-- 'laws.FnGetInt16', WHERE WHAT IT READS IS OF BULK AT MOST 1048576: true; the input reads as it did. -/
def fnGetInt16UptoRow : OpenClaim := { program := "ytlpnaifagiddlaadoor", sum := "3f8c23c77a739d11896837154abf45d6d0e4662ccd7bbc630a14b983caa77d4b", func := "given.example/pub-saddlebag/laws.FnGetInt16", spec := "fnGetInt16", recurses := true, named := ["given.example/pub-saddlebag/pub/msgp/msgp.ErrShortBytes", "encoding/binary.BigEndian"], ifaces := true, loops := true, apart := false, laid := [("given.example/pub-saddlebag/pub/msgp/msgp.ErrShortBytes", laid_given_example_pub_saddlebag_pub_msgp_msgp_ErrShortBytes)], narrowed := true }
def FnGetInt16UptoSaid : Prop := fnGetInt16UptoRow.holds Tryd.pinned (OpenSpec.upto fnGetInt16Spec)

/-- 'laws.FnGetUint16', WHERE WHAT IT READS IS OF BULK AT MOST 1048576: true; the input reads as it did. -/
def fnGetUint16UptoRow : OpenClaim := { program := "ytlpnaifagiddlaadoor", sum := "3f8c23c77a739d11896837154abf45d6d0e4662ccd7bbc630a14b983caa77d4b", func := "given.example/pub-saddlebag/laws.FnGetUint16", spec := "fnGetUint16", recurses := true, named := ["given.example/pub-saddlebag/pub/msgp/msgp.ErrShortBytes", "encoding/binary.BigEndian"], ifaces := true, loops := true, apart := false, laid := [("given.example/pub-saddlebag/pub/msgp/msgp.ErrShortBytes", laid_given_example_pub_saddlebag_pub_msgp_msgp_ErrShortBytes)], narrowed := true }
def FnGetUint16UptoSaid : Prop := fnGetUint16UptoRow.holds Tryd.pinned (OpenSpec.upto fnGetUint16Spec)

/-- 'laws.FnCopyReplace', WHERE WHAT IT READS IS OF BULK AT MOST 1048576: true; the input reads as it did. -/
def fnCopyReplaceUptoRow : OpenClaim := { program := "ytlpnaifagiddlaadoor", sum := "3f8c23c77a739d11896837154abf45d6d0e4662ccd7bbc630a14b983caa77d4b", func := "given.example/pub-saddlebag/laws.FnCopyReplace", spec := "fnCopyReplace", recurses := true, named := ["given.example/pub-saddlebag/pub/msgp/msgp.ErrShortBytes", "encoding/binary.BigEndian", "given.example/pub-saddlebag/pub/msgp/msgp.ErrRecursion", "given.example/pub-saddlebag/pub/msgp/msgp.fatal"], ifaces := true, loops := true, apart := false, laid := [("given.example/pub-saddlebag/pub/msgp/msgp.ErrShortBytes", laid_given_example_pub_saddlebag_pub_msgp_msgp_ErrShortBytes), ("given.example/pub-saddlebag/pub/msgp/msgp.ErrRecursion", laid_given_example_pub_saddlebag_pub_msgp_msgp_ErrRecursion), ("given.example/pub-saddlebag/pub/msgp/msgp.fatal", laid_given_example_pub_saddlebag_pub_msgp_msgp_fatal)], narrowed := true }
def FnCopyReplaceUptoSaid : Prop := fnCopyReplaceUptoRow.holds Tryd.pinned (OpenSpec.upto fnCopyReplaceSpec)

end Rows
end Go.Proofs.YtlpnaifagiddlaaDoor
