/- FnEqualManagers: the facts about the function that the row's builder asks. -/
import Derived.Test.YtihapgangilncaaGreatKGBulk
namespace Go.Proofs.YtihapgangilncaaGreat
open Go.RowKit Go.Deep Go.ChangeShapes Go.WideShapes Go.ChangeAt

set_option maxRecDepth 100000 in
theorem fnEqualManagers_closed : joinedFacts Tryz.pinned.checked.prog 9 Tryz.f9 (Rows.OpenSpec.upto Rows.fnEqualManagersSpec).bare Rows.fnEqualManagersUptoRow = true := by kernel_rfl
end Go.Proofs.YtihapgangilncaaGreat
