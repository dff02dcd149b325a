/- For all two lists of managers that are together of bulk at most 1048576, the law FnEqualManagers returns true: two lists of managers are equal exactly if they have the same names and, under each name, the same version, the same mark of having been applied and equal sets; the bound on the bulk is the statement's own. -/
import Derived.Test.YtihapgangilncaaGreatKGEqMgA
import Derived.Test.YtihapgangilncaaGreatKGEqMgC
import Derived.Test.YtihapgangilncaaGreatKGEqMgD
namespace Go.Proofs.YtihapgangilncaaGreat
open Go.RowKit Go.Deep Go.ChangeShapes Go.WideShapes Go.ChangeAt
set_option linter.unusedSimpArgs false

theorem FnEqualManagers_holds : Rows.FnEqualManagersUptoSaid :=
  OpenClaim.holds_of_cond 9 Tryz.f9 rfl rfl rfl rfl rfl rfl rfl ⟨rfl, rfl, rfl, rfl, rfl⟩ rfl rfl rfl rfl rfl fnEqualManagers_named Tryz.func9 fnEqualManagers_closed
    fnEqualManagers_inst fnEqualManagers_wrap
    (fun os started H enc _ F => fnEqualManagers_lifted os started H enc F)
end Go.Proofs.YtihapgangilncaaGreat
