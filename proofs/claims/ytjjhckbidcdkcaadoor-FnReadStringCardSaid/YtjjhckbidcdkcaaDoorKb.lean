/- Contracts of the small functions of msgp that append: copied, ensure. -/
import Derived.Test.YtjjhckbidcdkcaaDoorKa
import Derived.Test.YtjjhckbidcdkcaaDoorProg
import Derived.Lib.Hide
import Derived.Outline
import Derived.Deep.DeepMust
namespace Go.Proofs.YtjjhckbidcdkcaaDoor
open Go.RowKit

theorem infoU8 : (Tryd.prog.info? 5).map (fun i => (i.zero, i.size, i.bytes)) = some (some (.int .u8 0), 1, 1) := by kernel_rfl

end Go.Proofs.YtjjhckbidcdkcaaDoor
