/-
  NARROWER THAN 'FOR EVERY INPUT', by the rows' own cells (each row's printed sentence says how): FnStreamPutBin: ifaces, laid.
  DERIVED. THE GIVEN ROWS OF THIS SEAT. 1 by the template 'for every input the law returns true; each argument reads behind the call as it read before'; 0 by the template 'total and deterministic' (their statements: YtohainhkplombaaDoorTotals.lean).
  GIVEN WITH THE SEED: the statements are not yours to turn. If you find one false, say at which input.
  Laid BY PROGRAM, IN A SANDBOX (cutbox-rows.mjs): the forced cells as the released guide's own fill.sh prints them over the translation c77da715ba3b26ba… (all of the seat's roots in one cut). By AI agents, Wed Nov 11 2026. No macro, syntax, notation, axiom, sorry.
-/
import Derived.Test.YtohainhkplombaaDoorChecked
import GoSem.Claim
import GoSem.ClaimJoined
import GoSem.ClaimMapViews
import Derived.JoinedTies
import Derived.KernelRfl
namespace Go.Proofs.YtohainhkplombaaDoor
/- THE CELL 'sum', in the pinned program and in every row, IS THE sha256 OF THE DUMP (.gsa) THAT YtohainhkplombaaDoorProg.lean LOADS. Nothing in Lean hashes anything: it is a label: what it is worth is what the hold of that sum in a sandbox is worth. -/
noncomputable def Tryd.pinned : Pinned := { name := "ytohainhkplombaadoor", sum := "c77da715ba3b26baa19f03032045588f2adc1611b992210cee4cb31fa65854e7", checked := Tryd.checked }
namespace Rows
def none {H : Type} : Left H := { results := [], args := [] }

/- WHAT THE LISTED PACKAGE-LEVEL VARIABLES READ AS WHEN THE CALL BEGINS. Each datum BY PROGRAM (the guide's laid-datum.mjs) off the statement by which the dump's own 'gosem.cut.vars' lays the variable. In a bare row this is a premise. The card (YtohainhkplombaaDoorCards.lean) ties it to the program's text. -/
def laid_given_example_pub_saddlebag_pub_msgp_msgp_ErrLimitExceeded {H : Type} : DataW H := .iface "given.example/pub-saddlebag/pub/msgp/msgp.errLimitExceeded" (.agg [])

/-- 'laws.FnStreamPutBin': WHATEVER THE INPUT: true; the input reads as it did. -/
def fnStreamPutBinSpec : ChangeSpec := { name := "fnStreamPutBin", vars := ["given.example/pub-saddlebag/pub/msgp/msgp.ErrLimitExceeded"], fn := fun _ => fun
  | [d1, d2, g1] => { results := [.lit (.bool true)], args := [d1, d2], vars := [g1] }
  | _ => none }
def fnStreamPutBinRow : OpenClaim := { program := "ytohainhkplombaadoor", sum := "c77da715ba3b26baa19f03032045588f2adc1611b992210cee4cb31fa65854e7", func := "given.example/pub-saddlebag/laws.FnStreamPutBin", spec := "fnStreamPutBin", unfollowed := true, recurses := true, named := ["given.example/pub-saddlebag/pub/msgp/msgp.ErrLimitExceeded"], ifaces := true, apart := false, laid := [("given.example/pub-saddlebag/pub/msgp/msgp.ErrLimitExceeded", laid_given_example_pub_saddlebag_pub_msgp_msgp_ErrLimitExceeded)] }
def FnStreamPutBinSaid : Prop := fnStreamPutBinRow.holds Tryd.pinned (OpenSpec.ofChange fnStreamPutBinSpec)

/-- ITS FALSE NEIGHBOUR: 'it returns false'. Refute it at one input. -/
def fnStreamPutBinWrong : ChangeSpec := { name := "fnStreamPutBin", vars := ["given.example/pub-saddlebag/pub/msgp/msgp.ErrLimitExceeded"], fn := fun _ => fun
  | [d1, d2, g1] => { results := [.lit (.bool false)], args := [d1, d2], vars := [g1] }
  | _ => none }
def FnStreamPutBinWrongFalsely : Prop := fnStreamPutBinRow.holds Tryd.pinned (OpenSpec.ofChange fnStreamPutBinWrong)

/- THE SECOND FORM. 'bulk': how many values and letters a reading holds, each counted each time it is reached (what is shared counts as often as it is met; a slice's spare places count too). A statement '..UptoSaid' is the law's where the arguments, and the package variables that the reading takes, are together of bulk at most 1048576: NARROWER than '..Said'. Prove '..Said' where nothing that the law and all that it calls make is longer than what came in: it says more and counts as full. Else prove '..UptoSaid'. A law counts once. -/
mutual
def uptoBulk {H : Type} : DataW H → Nat
  | .lit (.string bytes) => bytes.length + 1
  | .lit _ => 1
  | .nil => 1
  | .ptr d => uptoBulk d + 1
  | .slice elems spare => uptoBulkAll elems + uptoBulkAll spare + 1
  | .agg parts => uptoBulkAll parts + 1
  | .iface _ d => uptoBulk d + 1
  | .map entries => uptoBulkEntries entries + 1
  | .held _ => 1
def uptoBulkAll {H : Type} : List (DataW H) → Nat
  | [] => 0
  | d :: r => uptoBulk d + uptoBulkAll r
def uptoBulkEntries {H : Type} : List (Lit × DataW H) → Nat
  | [] => 0
  | x :: r => uptoBulkEntry x + uptoBulkEntries r
def uptoBulkEntry {H : Type} : Lit × DataW H → Nat
  | (.string bytes, d) => bytes.length + uptoBulk d + 1
  | (_, d) => uptoBulk d + 1
 end
def uptoSmall : (H : Type) → List (DataW H) → Bool := fun _ ds => decide (uptoBulkAll ds ≤ 1048576)
def OpenSpec.upto (s : _root_.Go.ChangeSpec) : _root_.Go.OpenSpec := { _root_.Go.OpenSpec.ofChange s with cond := some uptoSmall }

/-- 'laws.FnStreamPutBin', WHERE WHAT IT READS IS OF BULK AT MOST 1048576: true; the input reads as it did. -/
def fnStreamPutBinUptoRow : OpenClaim := { program := "ytohainhkplombaadoor", sum := "c77da715ba3b26baa19f03032045588f2adc1611b992210cee4cb31fa65854e7", func := "given.example/pub-saddlebag/laws.FnStreamPutBin", spec := "fnStreamPutBin", unfollowed := true, recurses := true, named := ["given.example/pub-saddlebag/pub/msgp/msgp.ErrLimitExceeded"], ifaces := true, apart := false, laid := [("given.example/pub-saddlebag/pub/msgp/msgp.ErrLimitExceeded", laid_given_example_pub_saddlebag_pub_msgp_msgp_ErrLimitExceeded)], narrowed := true }
def FnStreamPutBinUptoSaid : Prop := fnStreamPutBinUptoRow.holds Tryd.pinned (OpenSpec.upto fnStreamPutBinSpec)

end Rows
end Go.Proofs.YtohainhkplombaaDoor
