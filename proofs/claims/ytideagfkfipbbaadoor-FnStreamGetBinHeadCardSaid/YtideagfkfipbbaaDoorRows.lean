/-
  NARROWER THAN 'FOR EVERY INPUT', by the rows' own cells (each row's printed sentence says how): FnStreamGetBool: laid · FnStreamGetBinHead: laid.
  DERIVED. THE GIVEN ROWS OF THIS SEAT. 2 by the template 'for every input the law returns true; each argument reads behind the call as it read before'; 0 by the template 'total and deterministic' (their statements: YtideagfkfipbbaaDoorTotals.lean).
  GIVEN WITH THE SEED: the statements are not yours to turn. If you find one false, say at which input.
  Laid BY PROGRAM, IN A SANDBOX (cutbox-rows.mjs): the forced cells as the released guide's own fill.sh prints them over the translation 13e68c6a2e81ba4b… (all of the seat's roots in one cut). By AI agents, Wed Nov 11 2026. No macro, syntax, notation, axiom, sorry.
-/
import Derived.Test.YtideagfkfipbbaaDoorChecked
import GoSem.Claim
import GoSem.ClaimJoined
import GoSem.ClaimMapViews
import Derived.JoinedTies
import Derived.KernelRfl
namespace Go.Proofs.YtideagfkfipbbaaDoor
/- THE CELL 'sum', in the pinned program and in every row, IS THE sha256 OF THE DUMP (.gsa) THAT YtideagfkfipbbaaDoorProg.lean LOADS. Nothing in Lean hashes anything: it is a label: what it is worth is what the hold of that sum in a sandbox is worth. -/
noncomputable def Tryd.pinned : Pinned := { name := "ytideagfkfipbbaadoor", sum := "13e68c6a2e81ba4b7d39e6dcb3886a4cd4027576c6e7174082d77117be186c93", checked := Tryd.checked }
namespace Rows
def none {H : Type} : Left H := { results := [], args := [] }

/- WHAT THE LISTED PACKAGE-LEVEL VARIABLES READ AS WHEN THE CALL BEGINS. Each datum BY PROGRAM (the guide's laid-datum.mjs) off the statement by which the dump's own 'gosem.cut.vars' lays the variable. In a bare row this is a premise. The card (YtideagfkfipbbaaDoorCards.lean) ties it to the program's text. -/
def laid_io_EOF {H : Type} : DataW H := .iface "*errors.errorString" (.ptr (.agg [.lit (.string [69, 79, 70])]))
def laid_io_ErrUnexpectedEOF {H : Type} : DataW H := .iface "*errors.errorString" (.ptr (.agg [.lit (.string [117, 110, 101, 120, 112, 101, 99, 116, 101, 100, 32, 69, 79, 70])]))

/-- 'laws.FnStreamGetBool': WHATEVER THE INPUT: true; the input reads as it did. -/
def fnStreamGetBoolSpec : ChangeSpec := { name := "fnStreamGetBool", fn := fun _ => fun
  | [d1, d2, d3, d4] => { results := [.lit (.bool true)], args := [d1, d2, d3, d4] }
  | _ => none }
def fnStreamGetBoolRow : OpenClaim := { program := "ytideagfkfipbbaadoor", sum := "13e68c6a2e81ba4b7d39e6dcb3886a4cd4027576c6e7174082d77117be186c93", func := "given.example/pub-saddlebag/laws.FnStreamGetBool", spec := "fnStreamGetBool", unfollowed := true, recurses := true, named := ["io.EOF", "io.ErrUnexpectedEOF"], apart := false, laid := [("io.EOF", laid_io_EOF), ("io.ErrUnexpectedEOF", laid_io_ErrUnexpectedEOF)] }
def FnStreamGetBoolSaid : Prop := fnStreamGetBoolRow.holds Tryd.pinned (OpenSpec.ofChange fnStreamGetBoolSpec)

/-- ITS FALSE NEIGHBOUR: 'it returns false'. Refute it at one input. -/
def fnStreamGetBoolWrong : ChangeSpec := { name := "fnStreamGetBool", fn := fun _ => fun
  | [d1, d2, d3, d4] => { results := [.lit (.bool false)], args := [d1, d2, d3, d4] }
  | _ => none }
def FnStreamGetBoolWrongFalsely : Prop := fnStreamGetBoolRow.holds Tryd.pinned (OpenSpec.ofChange fnStreamGetBoolWrong)

/-- 'laws.FnStreamGetBinHead': WHATEVER THE INPUT: true; the input reads as it did. -/
def fnStreamGetBinHeadSpec : ChangeSpec := { name := "fnStreamGetBinHead", fn := fun _ => fun
  | [d1, d2, d3, d4] => { results := [.lit (.bool true)], args := [d1, d2, d3, d4] }
  | _ => none }
def fnStreamGetBinHeadRow : OpenClaim := { program := "ytideagfkfipbbaadoor", sum := "13e68c6a2e81ba4b7d39e6dcb3886a4cd4027576c6e7174082d77117be186c93", func := "given.example/pub-saddlebag/laws.FnStreamGetBinHead", spec := "fnStreamGetBinHead", unfollowed := true, recurses := true, named := ["encoding/binary.BigEndian", "io.EOF", "io.ErrUnexpectedEOF"], apart := false, laid := [("io.EOF", laid_io_EOF), ("io.ErrUnexpectedEOF", laid_io_ErrUnexpectedEOF)] }
def FnStreamGetBinHeadSaid : Prop := fnStreamGetBinHeadRow.holds Tryd.pinned (OpenSpec.ofChange fnStreamGetBinHeadSpec)

/-- ITS FALSE NEIGHBOUR: 'it returns false'. Refute it at one input. -/
def fnStreamGetBinHeadWrong : ChangeSpec := { name := "fnStreamGetBinHead", fn := fun _ => fun
  | [d1, d2, d3, d4] => { results := [.lit (.bool false)], args := [d1, d2, d3, d4] }
  | _ => none }
def FnStreamGetBinHeadWrongFalsely : Prop := fnStreamGetBinHeadRow.holds Tryd.pinned (OpenSpec.ofChange fnStreamGetBinHeadWrong)

/- THE SECOND FORM. 'bulk': how many values and letters a reading holds, each counted each time it is reached (what is shared counts as often as it is met; a slice's spare places count too). A statement '..UptoSaid' is the law's where the arguments, and the package variables that the reading takes, are together of bulk at most 1048576: NARROWER than '..Said'. Prove '..Said' where nothing that the law and all that it calls make is longer than what came in: it says more and counts as full. Else prove '..UptoSaid'. A law counts once. -/
mutual
def uptoBulk {H : Type} : DataW H → Nat
  | .lit (.string bytes) => bytes.length + 1
  | .lit _ => 1
  | .nil => 1
  | .ptr d => uptoBulk d + 1
  | .slice elems spare => uptoBulkAll elems + uptoBulkAll spare + 1
  | .agg parts => uptoBulkAll parts + 1
  | .iface _ d => uptoBulk d + 1
  | .map entries => uptoBulkEntries entries + 1
  | .held _ => 1
def uptoBulkAll {H : Type} : List (DataW H) → Nat
  | [] => 0
  | d :: r => uptoBulk d + uptoBulkAll r
def uptoBulkEntries {H : Type} : List (Lit × DataW H) → Nat
  | [] => 0
  | x :: r => uptoBulkEntry x + uptoBulkEntries r
def uptoBulkEntry {H : Type} : Lit × DataW H → Nat
  | (.string bytes, d) => bytes.length + uptoBulk d + 1
  | (_, d) => uptoBulk d + 1
 end
def uptoSmall : (H : Type) → List (DataW H) → Bool := fun _ ds => decide (uptoBulkAll ds ≤ 1048576)
def OpenSpec.upto (s : _root_.Go.ChangeSpec) : _root_.Go.OpenSpec := { _root_.Go.OpenSpec.ofChange s with cond := some uptoSmall }

/-- 'laws.FnStreamGetBool', WHERE WHAT IT READS IS OF BULK AT MOST 1048576: true; the input reads as it did. -/
def fnStreamGetBoolUptoRow : OpenClaim := { program := "ytideagfkfipbbaadoor", sum := "13e68c6a2e81ba4b7d39e6dcb3886a4cd4027576c6e7174082d77117be186c93", func := "given.example/pub-saddlebag/laws.FnStreamGetBool", spec := "fnStreamGetBool", unfollowed := true, recurses := true, named := ["io.EOF", "io.ErrUnexpectedEOF"], apart := false, laid := [("io.EOF", laid_io_EOF), ("io.ErrUnexpectedEOF", laid_io_ErrUnexpectedEOF)], narrowed := true }
def FnStreamGetBoolUptoSaid : Prop := fnStreamGetBoolUptoRow.holds Tryd.pinned (OpenSpec.upto fnStreamGetBoolSpec)

/-- 'laws.FnStreamGetBinHead', WHERE WHAT IT READS IS OF BULK AT MOST 1048576: true; the input reads as it did. -/
def fnStreamGetBinHeadUptoRow : OpenClaim := { program := "ytideagfkfipbbaadoor", sum := "13e68c6a2e81ba4b7d39e6dcb3886a4cd4027576c6e7174082d77117be186c93", func := "given.example/pub-saddlebag/laws.FnStreamGetBinHead", spec := "fnStreamGetBinHead", unfollowed := true, recurses := true, named := ["encoding/binary.BigEndian", "io.EOF", "io.ErrUnexpectedEOF"], apart := false, laid := [("io.EOF", laid_io_EOF), ("io.ErrUnexpectedEOF", laid_io_ErrUnexpectedEOF)], narrowed := true }
def FnStreamGetBinHeadUptoSaid : Prop := fnStreamGetBinHeadUptoRow.holds Tryd.pinned (OpenSpec.upto fnStreamGetBinHeadSpec)

end Rows
end Go.Proofs.YtideagfkfipbbaaDoor
