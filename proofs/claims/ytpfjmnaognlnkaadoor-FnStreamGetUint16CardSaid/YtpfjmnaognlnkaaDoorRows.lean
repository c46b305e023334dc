/-
  NARROWER THAN 'FOR EVERY INPUT', by the rows' own cells (each row's printed sentence says how): FnStreamGetInt16: laid · FnStreamGetUint16: laid.
  DERIVED. THE GIVEN ROWS OF THIS SEAT. 2 by the template 'for every input the law returns true; each argument reads behind the call as it read before'; 0 by the template 'total and deterministic' (their statements: YtpfjmnaognlnkaaDoorTotals.lean).
  GIVEN WITH THE SEED: the statements are not yours to turn. If you find one false, say at which input.
  Laid BY PROGRAM, IN A SANDBOX (cutbox-rows.mjs): the forced cells as the released guide's own fill.sh prints them over the translation 7807dc5529465e41… (all of the seat's roots in one cut). By AI agents, Wed Nov 11 2026. No macro, syntax, notation, axiom, sorry.
-/
import Derived.Test.YtpfjmnaognlnkaaDoorChecked
import GoSem.Claim
import GoSem.ClaimJoined
import GoSem.ClaimMapViews
import Derived.JoinedTies
import Derived.KernelRfl
namespace Go.Proofs.YtpfjmnaognlnkaaDoor
/- THE CELL 'sum', in the pinned program and in every row, IS THE sha256 OF THE DUMP (.gsa) THAT YtpfjmnaognlnkaaDoorProg.lean LOADS. Nothing in Lean hashes anything: it is a label: what it is worth is what the hold of that sum in a sandbox is worth. -/
noncomputable def Tryd.pinned : Pinned := { name := "ytpfjmnaognlnkaadoor", sum := "7807dc5529465e41de9d8e86f2d15e115bd9a4fb1d96422fa45b6241d0ad9fc3", checked := Tryd.checked }
namespace Rows
def none {H : Type} : Left H := { results := [], args := [] }

/- WHAT THE LISTED PACKAGE-LEVEL VARIABLES READ AS WHEN THE CALL BEGINS. Each datum BY PROGRAM (the guide's laid-datum.mjs) off the statement by which the dump's own 'gosem.cut.vars' lays the variable. In a bare row this is a premise. The card (YtpfjmnaognlnkaaDoorCards.lean) ties it to the program's text. -/
def laid_io_EOF {H : Type} : DataW H := .iface "*errors.errorString" (.ptr (.agg [.lit (.string [69, 79, 70])]))
def laid_io_ErrUnexpectedEOF {H : Type} : DataW H := .iface "*errors.errorString" (.ptr (.agg [.lit (.string [117, 110, 101, 120, 112, 101, 99, 116, 101, 100, 32, 69, 79, 70])]))

/-- 'laws.FnStreamGetInt16': WHATEVER THE INPUT: true; the input reads as it did. -/
def fnStreamGetInt16Spec : ChangeSpec := { name := "fnStreamGetInt16", fn := fun _ => fun
  | [d1, d2, d3, d4] => { results := [.lit (.bool true)], args := [d1, d2, d3, d4] }
  | _ => none }
def fnStreamGetInt16Row : OpenClaim := { program := "ytpfjmnaognlnkaadoor", sum := "7807dc5529465e41de9d8e86f2d15e115bd9a4fb1d96422fa45b6241d0ad9fc3", func := "given.example/pub-saddlebag/laws.FnStreamGetInt16", spec := "fnStreamGetInt16", unfollowed := true, recurses := true, named := ["io.EOF", "io.ErrUnexpectedEOF"], apart := false, laid := [("io.EOF", laid_io_EOF), ("io.ErrUnexpectedEOF", laid_io_ErrUnexpectedEOF)] }
def FnStreamGetInt16Said : Prop := fnStreamGetInt16Row.holds Tryd.pinned (OpenSpec.ofChange fnStreamGetInt16Spec)

/-- ITS FALSE NEIGHBOUR: 'it returns false'. Refute it at one input. -/
def fnStreamGetInt16Wrong : ChangeSpec := { name := "fnStreamGetInt16", fn := fun _ => fun
  | [d1, d2, d3, d4] => { results := [.lit (.bool false)], args := [d1, d2, d3, d4] }
  | _ => none }
def FnStreamGetInt16WrongFalsely : Prop := fnStreamGetInt16Row.holds Tryd.pinned (OpenSpec.ofChange fnStreamGetInt16Wrong)

/-- 'laws.FnStreamGetUint16': WHATEVER THE INPUT: true; the input reads as it did. -/
def fnStreamGetUint16Spec : ChangeSpec := { name := "fnStreamGetUint16", fn := fun _ => fun
  | [d1, d2, d3, d4] => { results := [.lit (.bool true)], args := [d1, d2, d3, d4] }
  | _ => none }
def fnStreamGetUint16Row : OpenClaim := { program := "ytpfjmnaognlnkaadoor", sum := "7807dc5529465e41de9d8e86f2d15e115bd9a4fb1d96422fa45b6241d0ad9fc3", func := "given.example/pub-saddlebag/laws.FnStreamGetUint16", spec := "fnStreamGetUint16", unfollowed := true, recurses := true, named := ["io.EOF", "io.ErrUnexpectedEOF"], apart := false, laid := [("io.EOF", laid_io_EOF), ("io.ErrUnexpectedEOF", laid_io_ErrUnexpectedEOF)] }
def FnStreamGetUint16Said : Prop := fnStreamGetUint16Row.holds Tryd.pinned (OpenSpec.ofChange fnStreamGetUint16Spec)

/-- ITS FALSE NEIGHBOUR: 'it returns false'. Refute it at one input. -/
def fnStreamGetUint16Wrong : ChangeSpec := { name := "fnStreamGetUint16", fn := fun _ => fun
  | [d1, d2, d3, d4] => { results := [.lit (.bool false)], args := [d1, d2, d3, d4] }
  | _ => none }
def FnStreamGetUint16WrongFalsely : Prop := fnStreamGetUint16Row.holds Tryd.pinned (OpenSpec.ofChange fnStreamGetUint16Wrong)

/- THE SECOND FORM. 'bulk': how many values and letters a reading holds, each counted each time it is reached (what is shared counts as often as it is met; a slice's spare places count too). A statement '..UptoSaid' is the law's where the arguments, and the package variables that the reading takes, are together of bulk at most 1048576: NARROWER than '..Said'. Prove '..Said' where nothing that the law and all that it calls make is longer than what came in: it says more and counts as full. Else prove '..UptoSaid'. A law counts once. -/
mutual
def uptoBulk {H : Type} : DataW H → Nat
  | .lit (.string bytes) => bytes.length + 1
  | .lit _ => 1
  | .nil => 1
  | .ptr d => uptoBulk d + 1
  | .slice elems spare => uptoBulkAll elems + uptoBulkAll spare + 1
  | .agg parts => uptoBulkAll parts + 1
  | .iface _ d => uptoBulk d + 1
  | .map entries => uptoBulkEntries entries + 1
  | .held _ => 1
def uptoBulkAll {H : Type} : List (DataW H) → Nat
  | [] => 0
  | d :: r => uptoBulk d + uptoBulkAll r
def uptoBulkEntries {H : Type} : List (Lit × DataW H) → Nat
  | [] => 0
  | x :: r => uptoBulkEntry x + uptoBulkEntries r
def uptoBulkEntry {H : Type} : Lit × DataW H → Nat
  | (.string bytes, d) => bytes.length + uptoBulk d + 1
  | (_, d) => uptoBulk d + 1
 end
def uptoSmall : (H : Type) → List (DataW H) → Bool := fun _ ds => decide (uptoBulkAll ds ≤ 1048576)
def OpenSpec.upto (s : _root_.Go.ChangeSpec) : _root_.Go.OpenSpec := { _root_.Go.OpenSpec.ofChange s with cond := some uptoSmall }

/-- 'laws.FnStreamGetInt16', WHERE WHAT IT READS IS OF BULK AT MOST 1048576: true; the input reads as it did. -/
def fnStreamGetInt16UptoRow : OpenClaim := { program := "ytpfjmnaognlnkaadoor", sum := "7807dc5529465e41de9d8e86f2d15e115bd9a4fb1d96422fa45b6241d0ad9fc3", func := "given.example/pub-saddlebag/laws.FnStreamGetInt16", spec := "fnStreamGetInt16", unfollowed := true, recurses := true, named := ["io.EOF", "io.ErrUnexpectedEOF"], apart := false, laid := [("io.EOF", laid_io_EOF), ("io.ErrUnexpectedEOF", laid_io_ErrUnexpectedEOF)], narrowed := true }
def FnStreamGetInt16UptoSaid : Prop := fnStreamGetInt16UptoRow.holds Tryd.pinned (OpenSpec.upto fnStreamGetInt16Spec)

/-- 'laws.FnStreamGetUint16', WHERE WHAT IT READS IS OF BULK AT MOST 1048576: true; the input reads as it did. -/
def fnStreamGetUint16UptoRow : OpenClaim := { program := "ytpfjmnaognlnkaadoor", sum := "7807dc5529465e41de9d8e86f2d15e115bd9a4fb1d96422fa45b6241d0ad9fc3", func := "given.example/pub-saddlebag/laws.FnStreamGetUint16", spec := "fnStreamGetUint16", unfollowed := true, recurses := true, named := ["io.EOF", "io.ErrUnexpectedEOF"], apart := false, laid := [("io.EOF", laid_io_EOF), ("io.ErrUnexpectedEOF", laid_io_ErrUnexpectedEOF)], narrowed := true }
def FnStreamGetUint16UptoSaid : Prop := fnStreamGetUint16UptoRow.holds Tryd.pinned (OpenSpec.upto fnStreamGetUint16Spec)

end Rows
end Go.Proofs.YtpfjmnaognlnkaaDoor
