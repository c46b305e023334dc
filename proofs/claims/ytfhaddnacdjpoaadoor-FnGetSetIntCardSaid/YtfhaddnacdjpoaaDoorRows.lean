/-
  NARROWER THAN 'FOR EVERY INPUT', by the rows' own cells (each row's printed sentence says how): FnGetSetInt16: ifaces, laid · FnGetSetUint64: ifaces, laid · FnGetSetInt: ifaces, laid.
  DERIVED. THE GIVEN ROWS OF THIS SEAT. 3 by the template 'for every input the law returns true; each argument reads behind the call as it read before'; 0 by the template 'total and deterministic' (their statements: YtfhaddnacdjpoaaDoorTotals.lean).
  GIVEN WITH THE SEED: the statements are not yours to turn. If you find one false, say at which input.
  Laid BY PROGRAM, IN A SANDBOX (cutbox-rows.mjs): the forced cells as the released guide's own fill.sh prints them over the translation 5b044ae4171c818f… (all of the seat's roots in one cut). By AI agents, Wed Nov 11 2026. No macro, syntax, notation, axiom, sorry.
-/
import Derived.Test.YtfhaddnacdjpoaaDoorChecked
import GoSem.Claim
import GoSem.ClaimJoined
import GoSem.ClaimMapViews
import Derived.JoinedTies
import Derived.KernelRfl
namespace Go.Proofs.YtfhaddnacdjpoaaDoor
/- THE CELL 'sum', in the pinned program and in every row, IS THE sha256 OF THE DUMP (.gsa) THAT YtfhaddnacdjpoaaDoorProg.lean LOADS. Nothing in Lean hashes anything: it is a label: what it is worth is what the hold of that sum in a sandbox is worth. -/
noncomputable def Tryd.pinned : Pinned := { name := "ytfhaddnacdjpoaadoor", sum := "5b044ae4171c818fdbd7b31bc306d9714d15e524e17150887229ccf32dbb08a2", checked := Tryd.checked }
namespace Rows
def none {H : Type} : Left H := { results := [], args := [] }

/- WHAT THE LISTED PACKAGE-LEVEL VARIABLES READ AS WHEN THE CALL BEGINS. Each datum BY PROGRAM (the guide's laid-datum.mjs) off the statement by which the dump's own 'gosem.cut.vars' lays the variable. In a bare row this is a premise. The card (YtfhaddnacdjpoaaDoorCards.lean) ties it to the program's text. -/
def laid_given_example_pub_saddlebag_pub_msgp_msgp_ErrShortBytes {H : Type} : DataW H := .iface "given.example/pub-saddlebag/pub/msgp/msgp.errShort" (.agg [])

/-- 'laws.FnGetSetInt16': WHATEVER THE INPUT: true; the input reads as it did. -/
def fnGetSetInt16Spec : ChangeSpec := { name := "fnGetSetInt16", vars := ["given.example/pub-saddlebag/pub/msgp/msgp.ErrShortBytes"], fn := fun _ => fun
  | [d1, d2, d3, g1] => { results := [.lit (.bool true)], args := [d1, d2, d3], vars := [g1] }
  | _ => none }
def fnGetSetInt16Row : OpenClaim := { program := "ytfhaddnacdjpoaadoor", sum := "5b044ae4171c818fdbd7b31bc306d9714d15e524e17150887229ccf32dbb08a2", func := "given.example/pub-saddlebag/laws.FnGetSetInt16", spec := "fnGetSetInt16", unfollowed := true, recurses := true, named := ["given.example/pub-saddlebag/pub/msgp/msgp.ErrShortBytes", "encoding/binary.BigEndian"], ifaces := true, apart := false, laid := [("given.example/pub-saddlebag/pub/msgp/msgp.ErrShortBytes", laid_given_example_pub_saddlebag_pub_msgp_msgp_ErrShortBytes)] }
def FnGetSetInt16Said : Prop := fnGetSetInt16Row.holds Tryd.pinned (OpenSpec.ofChange fnGetSetInt16Spec)

/-- ITS FALSE NEIGHBOUR: 'it returns false'. Refute it at one input. -/
def fnGetSetInt16Wrong : ChangeSpec := { name := "fnGetSetInt16", vars := ["given.example/pub-saddlebag/pub/msgp/msgp.ErrShortBytes"], fn := fun _ => fun
  | [d1, d2, d3, g1] => { results := [.lit (.bool false)], args := [d1, d2, d3], vars := [g1] }
  | _ => none }
def FnGetSetInt16WrongFalsely : Prop := fnGetSetInt16Row.holds Tryd.pinned (OpenSpec.ofChange fnGetSetInt16Wrong)

/-- 'laws.FnGetSetUint64': WHATEVER THE INPUT: true; the input reads as it did. -/
def fnGetSetUint64Spec : ChangeSpec := { name := "fnGetSetUint64", vars := ["given.example/pub-saddlebag/pub/msgp/msgp.ErrShortBytes"], fn := fun _ => fun
  | [d1, d2, d3, g1] => { results := [.lit (.bool true)], args := [d1, d2, d3], vars := [g1] }
  | _ => none }
def fnGetSetUint64Row : OpenClaim := { program := "ytfhaddnacdjpoaadoor", sum := "5b044ae4171c818fdbd7b31bc306d9714d15e524e17150887229ccf32dbb08a2", func := "given.example/pub-saddlebag/laws.FnGetSetUint64", spec := "fnGetSetUint64", unfollowed := true, recurses := true, named := ["given.example/pub-saddlebag/pub/msgp/msgp.ErrShortBytes", "encoding/binary.BigEndian"], ifaces := true, apart := false, laid := [("given.example/pub-saddlebag/pub/msgp/msgp.ErrShortBytes", laid_given_example_pub_saddlebag_pub_msgp_msgp_ErrShortBytes)] }
def FnGetSetUint64Said : Prop := fnGetSetUint64Row.holds Tryd.pinned (OpenSpec.ofChange fnGetSetUint64Spec)

/-- ITS FALSE NEIGHBOUR: 'it returns false'. Refute it at one input. -/
def fnGetSetUint64Wrong : ChangeSpec := { name := "fnGetSetUint64", vars := ["given.example/pub-saddlebag/pub/msgp/msgp.ErrShortBytes"], fn := fun _ => fun
  | [d1, d2, d3, g1] => { results := [.lit (.bool false)], args := [d1, d2, d3], vars := [g1] }
  | _ => none }
def FnGetSetUint64WrongFalsely : Prop := fnGetSetUint64Row.holds Tryd.pinned (OpenSpec.ofChange fnGetSetUint64Wrong)

/-- 'laws.FnGetSetInt': WHATEVER THE INPUT: true; the input reads as it did. -/
def fnGetSetIntSpec : ChangeSpec := { name := "fnGetSetInt", vars := ["given.example/pub-saddlebag/pub/msgp/msgp.ErrShortBytes"], fn := fun _ => fun
  | [d1, d2, d3, g1] => { results := [.lit (.bool true)], args := [d1, d2, d3], vars := [g1] }
  | _ => none }
def fnGetSetIntRow : OpenClaim := { program := "ytfhaddnacdjpoaadoor", sum := "5b044ae4171c818fdbd7b31bc306d9714d15e524e17150887229ccf32dbb08a2", func := "given.example/pub-saddlebag/laws.FnGetSetInt", spec := "fnGetSetInt", unfollowed := true, recurses := true, named := ["given.example/pub-saddlebag/pub/msgp/msgp.ErrShortBytes", "encoding/binary.BigEndian"], ifaces := true, apart := false, laid := [("given.example/pub-saddlebag/pub/msgp/msgp.ErrShortBytes", laid_given_example_pub_saddlebag_pub_msgp_msgp_ErrShortBytes)] }
def FnGetSetIntSaid : Prop := fnGetSetIntRow.holds Tryd.pinned (OpenSpec.ofChange fnGetSetIntSpec)

/-- ITS FALSE NEIGHBOUR: 'it returns false'. Refute it at one input. -/
def fnGetSetIntWrong : ChangeSpec := { name := "fnGetSetInt", vars := ["given.example/pub-saddlebag/pub/msgp/msgp.ErrShortBytes"], fn := fun _ => fun
  | [d1, d2, d3, g1] => { results := [.lit (.bool false)], args := [d1, d2, d3], vars := [g1] }
  | _ => none }
def FnGetSetIntWrongFalsely : Prop := fnGetSetIntRow.holds Tryd.pinned (OpenSpec.ofChange fnGetSetIntWrong)

/- THE SECOND FORM. 'bulk': how many values and letters a reading holds, each counted each time it is reached (what is shared counts as often as it is met; a slice's spare places count too). A statement '..UptoSaid' is the law's where the arguments, and the package variables that the reading takes, are together of bulk at most 1048576: NARROWER than '..Said'. Prove '..Said' where nothing that the law and all that it calls make is longer than what came in: it says more and counts as full. Else prove '..UptoSaid'. A law counts once. -/
mutual
def uptoBulk {H : Type} : DataW H → Nat
  | .lit (.string bytes) => bytes.length + 1
  | .lit _ => 1
  | .nil => 1
  | .ptr d => uptoBulk d + 1
  | .slice elems spare => uptoBulkAll elems + uptoBulkAll spare + 1
  | .agg parts => uptoBulkAll parts + 1
  | .iface _ d => uptoBulk d + 1
  | .map entries => uptoBulkEntries entries + 1
  | .held _ => 1
def uptoBulkAll {H : Type} : List (DataW H) → Nat
  | [] => 0
  | d :: r => uptoBulk d + uptoBulkAll r
def uptoBulkEntries {H : Type} : List (Lit × DataW H) → Nat
  | [] => 0
  | x :: r => uptoBulkEntry x + uptoBulkEntries r
def uptoBulkEntry {H : Type} : Lit × DataW H → Nat
  | (.string bytes, d) => bytes.length + uptoBulk d + 1
  | (_, d) => uptoBulk d + 1
 end
def uptoSmall : (H : Type) → List (DataW H) → Bool := fun _ ds => decide (uptoBulkAll ds ≤ 1048576)
def OpenSpec.upto (s : _root_.Go.ChangeSpec) : _root_.Go.OpenSpec := { _root_.Go.OpenSpec.ofChange s with cond := some uptoSmall }

/-- 'laws.FnGetSetInt16', WHERE WHAT IT READS IS OF BULK AT MOST 1048576: true; the input reads as it did. -/
def fnGetSetInt16UptoRow : OpenClaim := { program := "ytfhaddnacdjpoaadoor", sum := "5b044ae4171c818fdbd7b31bc306d9714d15e524e17150887229ccf32dbb08a2", func := "given.example/pub-saddlebag/laws.FnGetSetInt16", spec := "fnGetSetInt16", unfollowed := true, recurses := true, named := ["given.example/pub-saddlebag/pub/msgp/msgp.ErrShortBytes", "encoding/binary.BigEndian"], ifaces := true, apart := false, laid := [("given.example/pub-saddlebag/pub/msgp/msgp.ErrShortBytes", laid_given_example_pub_saddlebag_pub_msgp_msgp_ErrShortBytes)], narrowed := true }
def FnGetSetInt16UptoSaid : Prop := fnGetSetInt16UptoRow.holds Tryd.pinned (OpenSpec.upto fnGetSetInt16Spec)

/-- 'laws.FnGetSetUint64', WHERE WHAT IT READS IS OF BULK AT MOST 1048576: true; the input reads as it did. -/
def fnGetSetUint64UptoRow : OpenClaim := { program := "ytfhaddnacdjpoaadoor", sum := "5b044ae4171c818fdbd7b31bc306d9714d15e524e17150887229ccf32dbb08a2", func := "given.example/pub-saddlebag/laws.FnGetSetUint64", spec := "fnGetSetUint64", unfollowed := true, recurses := true, named := ["given.example/pub-saddlebag/pub/msgp/msgp.ErrShortBytes", "encoding/binary.BigEndian"], ifaces := true, apart := false, laid := [("given.example/pub-saddlebag/pub/msgp/msgp.ErrShortBytes", laid_given_example_pub_saddlebag_pub_msgp_msgp_ErrShortBytes)], narrowed := true }
def FnGetSetUint64UptoSaid : Prop := fnGetSetUint64UptoRow.holds Tryd.pinned (OpenSpec.upto fnGetSetUint64Spec)

/-- 'laws.FnGetSetInt', WHERE WHAT IT READS IS OF BULK AT MOST 1048576: true; the input reads as it did. -/
def fnGetSetIntUptoRow : OpenClaim := { program := "ytfhaddnacdjpoaadoor", sum := "5b044ae4171c818fdbd7b31bc306d9714d15e524e17150887229ccf32dbb08a2", func := "given.example/pub-saddlebag/laws.FnGetSetInt", spec := "fnGetSetInt", unfollowed := true, recurses := true, named := ["given.example/pub-saddlebag/pub/msgp/msgp.ErrShortBytes", "encoding/binary.BigEndian"], ifaces := true, apart := false, laid := [("given.example/pub-saddlebag/pub/msgp/msgp.ErrShortBytes", laid_given_example_pub_saddlebag_pub_msgp_msgp_ErrShortBytes)], narrowed := true }
def FnGetSetIntUptoSaid : Prop := fnGetSetIntUptoRow.holds Tryd.pinned (OpenSpec.upto fnGetSetIntSpec)

end Rows
end Go.Proofs.YtfhaddnacdjpoaaDoor
