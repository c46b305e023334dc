/-
  No cell of these rows narrows 'for every input' (looked for: loops, veiled, ifaces, maps, wideKeys, modest, calm, conditions, laid).
  DERIVED. THE GIVEN ROWS OF THIS SEAT. 4 by the template 'for every input the law returns true; each argument reads behind the call as it read before'; 0 by the template 'total and deterministic' (their statements: YtohainhkplombaaTotals.lean).
  GIVEN WITH THE SEED: the statements are not yours to turn. If you find one false, say at which input.
  Laid BY PROGRAM, IN A SANDBOX (cutbox-rows.mjs): the forced cells as the released guide's own fill.sh prints them over the translation 02b0895d1b86d594… (all of the seat's roots in one cut). By AI agents, Wed Nov 11 2026. No macro, syntax, notation, axiom, sorry.
-/
import Derived.Test.YtohainhkplombaaChecked
import GoSem.Claim
import GoSem.ClaimJoined
import GoSem.ClaimMapViews
import Derived.JoinedTies
import Derived.KernelRfl
namespace Go.Proofs.Ytohainhkplombaa
/- THE CELL 'sum', in the pinned program and in every row, IS THE sha256 OF THE DUMP (.gsa) THAT YtohainhkplombaaProg.lean LOADS. Nothing in Lean hashes anything: it is a label: what it is worth is what the hold of that sum in a sandbox is worth. -/
noncomputable def Try.pinned : Pinned := { name := "ytohainhkplombaa", sum := "02b0895d1b86d594e78f46e5f6e7d7fcfdc0bd9b589288af1874525c1ed02bcf", checked := Try.checked }
namespace Rows
def none {H : Type} : Left H := { results := [], args := [] }

/-- 'laws.FnStreamPutFloat32': WHATEVER THE INPUT: true; the input reads as it did. -/
def fnStreamPutFloat32Spec : ChangeSpec := { name := "fnStreamPutFloat32", fn := fun _ => fun
  | [d1, d2] => { results := [.lit (.bool true)], args := [d1, d2] }
  | _ => none }
def fnStreamPutFloat32Row : OpenClaim := { program := "ytohainhkplombaa", sum := "02b0895d1b86d594e78f46e5f6e7d7fcfdc0bd9b589288af1874525c1ed02bcf", func := "given.example/pub-saddlebag/laws.FnStreamPutFloat32", spec := "fnStreamPutFloat32", inPlace := ["math.Float32frombits", "math.Float32bits"], unfollowed := true, recurses := true, apart := false }
def FnStreamPutFloat32Said : Prop := fnStreamPutFloat32Row.holds Try.pinned (OpenSpec.ofChange fnStreamPutFloat32Spec)

/-- ITS FALSE NEIGHBOUR: 'it returns false'. Refute it at one input. -/
def fnStreamPutFloat32Wrong : ChangeSpec := { name := "fnStreamPutFloat32", fn := fun _ => fun
  | [d1, d2] => { results := [.lit (.bool false)], args := [d1, d2] }
  | _ => none }
def FnStreamPutFloat32WrongFalsely : Prop := fnStreamPutFloat32Row.holds Try.pinned (OpenSpec.ofChange fnStreamPutFloat32Wrong)

/-- 'laws.FnStreamPutMapHead': WHATEVER THE INPUT: true; the input reads as it did. -/
def fnStreamPutMapHeadSpec : ChangeSpec := { name := "fnStreamPutMapHead", fn := fun _ => fun
  | [d1, d2] => { results := [.lit (.bool true)], args := [d1, d2] }
  | _ => none }
def fnStreamPutMapHeadRow : OpenClaim := { program := "ytohainhkplombaa", sum := "02b0895d1b86d594e78f46e5f6e7d7fcfdc0bd9b589288af1874525c1ed02bcf", func := "given.example/pub-saddlebag/laws.FnStreamPutMapHead", spec := "fnStreamPutMapHead", unfollowed := true, recurses := true, apart := false }
def FnStreamPutMapHeadSaid : Prop := fnStreamPutMapHeadRow.holds Try.pinned (OpenSpec.ofChange fnStreamPutMapHeadSpec)

/-- ITS FALSE NEIGHBOUR: 'it returns false'. Refute it at one input. -/
def fnStreamPutMapHeadWrong : ChangeSpec := { name := "fnStreamPutMapHead", fn := fun _ => fun
  | [d1, d2] => { results := [.lit (.bool false)], args := [d1, d2] }
  | _ => none }
def FnStreamPutMapHeadWrongFalsely : Prop := fnStreamPutMapHeadRow.holds Try.pinned (OpenSpec.ofChange fnStreamPutMapHeadWrong)

/-- 'laws.FnStreamPutUint': WHATEVER THE INPUT: true; the input reads as it did. -/
def fnStreamPutUintSpec : ChangeSpec := { name := "fnStreamPutUint", fn := fun _ => fun
  | [d1, d2] => { results := [.lit (.bool true)], args := [d1, d2] }
  | _ => none }
def fnStreamPutUintRow : OpenClaim := { program := "ytohainhkplombaa", sum := "02b0895d1b86d594e78f46e5f6e7d7fcfdc0bd9b589288af1874525c1ed02bcf", func := "given.example/pub-saddlebag/laws.FnStreamPutUint", spec := "fnStreamPutUint", unfollowed := true, recurses := true, apart := false }
def FnStreamPutUintSaid : Prop := fnStreamPutUintRow.holds Try.pinned (OpenSpec.ofChange fnStreamPutUintSpec)

/-- ITS FALSE NEIGHBOUR: 'it returns false'. Refute it at one input. -/
def fnStreamPutUintWrong : ChangeSpec := { name := "fnStreamPutUint", fn := fun _ => fun
  | [d1, d2] => { results := [.lit (.bool false)], args := [d1, d2] }
  | _ => none }
def FnStreamPutUintWrongFalsely : Prop := fnStreamPutUintRow.holds Try.pinned (OpenSpec.ofChange fnStreamPutUintWrong)

/-- 'laws.FnStreamPutInt': WHATEVER THE INPUT: true; the input reads as it did. -/
def fnStreamPutIntSpec : ChangeSpec := { name := "fnStreamPutInt", fn := fun _ => fun
  | [d1, d2] => { results := [.lit (.bool true)], args := [d1, d2] }
  | _ => none }
def fnStreamPutIntRow : OpenClaim := { program := "ytohainhkplombaa", sum := "02b0895d1b86d594e78f46e5f6e7d7fcfdc0bd9b589288af1874525c1ed02bcf", func := "given.example/pub-saddlebag/laws.FnStreamPutInt", spec := "fnStreamPutInt", unfollowed := true, recurses := true, apart := false }
def FnStreamPutIntSaid : Prop := fnStreamPutIntRow.holds Try.pinned (OpenSpec.ofChange fnStreamPutIntSpec)

/-- ITS FALSE NEIGHBOUR: 'it returns false'. Refute it at one input. -/
def fnStreamPutIntWrong : ChangeSpec := { name := "fnStreamPutInt", fn := fun _ => fun
  | [d1, d2] => { results := [.lit (.bool false)], args := [d1, d2] }
  | _ => none }
def FnStreamPutIntWrongFalsely : Prop := fnStreamPutIntRow.holds Try.pinned (OpenSpec.ofChange fnStreamPutIntWrong)

/- THE SECOND FORM. 'bulk': how many values and letters a reading holds, each counted each time it is reached (what is shared counts as often as it is met; a slice's spare places count too). A statement '..UptoSaid' is the law's where the arguments, and the package variables that the reading takes, are together of bulk at most 1048576: NARROWER than '..Said'. Prove '..Said' where nothing that the law and all that it calls make is longer than what came in: it says more and counts as full. Else prove '..UptoSaid'. A law counts once. -/
mutual
def uptoBulk {H : Type} : DataW H → Nat
  | .lit (.string bytes) => bytes.length + 1
  | .lit _ => 1
  | .nil => 1
  | .ptr d => uptoBulk d + 1
  | .slice elems spare => uptoBulkAll elems + uptoBulkAll spare + 1
  | .agg parts => uptoBulkAll parts + 1
  | .iface _ d => uptoBulk d + 1
  | .map entries => uptoBulkEntries entries + 1
  | .held _ => 1
def uptoBulkAll {H : Type} : List (DataW H) → Nat
  | [] => 0
  | d :: r => uptoBulk d + uptoBulkAll r
def uptoBulkEntries {H : Type} : List (Lit × DataW H) → Nat
  | [] => 0
  | x :: r => uptoBulkEntry x + uptoBulkEntries r
def uptoBulkEntry {H : Type} : Lit × DataW H → Nat
  | (.string bytes, d) => bytes.length + uptoBulk d + 1
  | (_, d) => uptoBulk d + 1
 end
def uptoSmall : (H : Type) → List (DataW H) → Bool := fun _ ds => decide (uptoBulkAll ds ≤ 1048576)
def OpenSpec.upto (s : _root_.Go.ChangeSpec) : _root_.Go.OpenSpec := { _root_.Go.OpenSpec.ofChange s with cond := some uptoSmall }

/-- 'laws.FnStreamPutFloat32', WHERE WHAT IT READS IS OF BULK AT MOST 1048576: true; the input reads as it did. -/
def fnStreamPutFloat32UptoRow : OpenClaim := { program := "ytohainhkplombaa", sum := "02b0895d1b86d594e78f46e5f6e7d7fcfdc0bd9b589288af1874525c1ed02bcf", func := "given.example/pub-saddlebag/laws.FnStreamPutFloat32", spec := "fnStreamPutFloat32", inPlace := ["math.Float32frombits", "math.Float32bits"], unfollowed := true, recurses := true, apart := false, narrowed := true }
def FnStreamPutFloat32UptoSaid : Prop := fnStreamPutFloat32UptoRow.holds Try.pinned (OpenSpec.upto fnStreamPutFloat32Spec)

/-- 'laws.FnStreamPutMapHead', WHERE WHAT IT READS IS OF BULK AT MOST 1048576: true; the input reads as it did. -/
def fnStreamPutMapHeadUptoRow : OpenClaim := { program := "ytohainhkplombaa", sum := "02b0895d1b86d594e78f46e5f6e7d7fcfdc0bd9b589288af1874525c1ed02bcf", func := "given.example/pub-saddlebag/laws.FnStreamPutMapHead", spec := "fnStreamPutMapHead", unfollowed := true, recurses := true, apart := false, narrowed := true }
def FnStreamPutMapHeadUptoSaid : Prop := fnStreamPutMapHeadUptoRow.holds Try.pinned (OpenSpec.upto fnStreamPutMapHeadSpec)

/-- 'laws.FnStreamPutUint', WHERE WHAT IT READS IS OF BULK AT MOST 1048576: true; the input reads as it did. -/
def fnStreamPutUintUptoRow : OpenClaim := { program := "ytohainhkplombaa", sum := "02b0895d1b86d594e78f46e5f6e7d7fcfdc0bd9b589288af1874525c1ed02bcf", func := "given.example/pub-saddlebag/laws.FnStreamPutUint", spec := "fnStreamPutUint", unfollowed := true, recurses := true, apart := false, narrowed := true }
def FnStreamPutUintUptoSaid : Prop := fnStreamPutUintUptoRow.holds Try.pinned (OpenSpec.upto fnStreamPutUintSpec)

/-- 'laws.FnStreamPutInt', WHERE WHAT IT READS IS OF BULK AT MOST 1048576: true; the input reads as it did. -/
def fnStreamPutIntUptoRow : OpenClaim := { program := "ytohainhkplombaa", sum := "02b0895d1b86d594e78f46e5f6e7d7fcfdc0bd9b589288af1874525c1ed02bcf", func := "given.example/pub-saddlebag/laws.FnStreamPutInt", spec := "fnStreamPutInt", unfollowed := true, recurses := true, apart := false, narrowed := true }
def FnStreamPutIntUptoSaid : Prop := fnStreamPutIntUptoRow.holds Try.pinned (OpenSpec.upto fnStreamPutIntSpec)

end Rows
end Go.Proofs.Ytohainhkplombaa
