/- Contracts of the reference's SamePack, at values that hold no others. PRINTED by wip/gensp.py. -/
import Derived.Test.YtgjkbldgpfaemaaDoorKg
namespace Go.Proofs.YtgjkbldgpfaemaaDoor
open Go.RowKit
set_option linter.unusedVariables false





end Go.Proofs.YtgjkbldgpfaemaaDoor
