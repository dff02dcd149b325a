/- FnEqualManagers: it is no wrapper. -/
import Derived.Test.YtihapgangilncaaGreatKGBulk
namespace Go.Proofs.YtihapgangilncaaGreat
open Go.RowKit Go.Deep Go.ChangeShapes Go.WideShapes Go.ChangeAt

set_option maxRecDepth 100000 in
theorem fnEqualManagers_wrap : Tryz.f9.isWrapper Tryz.pinned.checked.prog Rows.fnEqualManagersUptoRow.wrapper Rows.fnEqualManagersUptoRow.mainSum := by unfold Func.isWrapper; first | (rw [if_pos (by decide +kernel)]; kernel_rfl) | (rw [if_neg (by decide +kernel)]; exact ⟨rfl, rfl⟩)
theorem fnEqualManagers_inst : Tryz.f9.isInstance Tryz.pinned.checked.prog Rows.fnEqualManagersUptoRow.origin Rows.fnEqualManagersUptoRow.targs := of_decide_eq_true (by kernel_rfl)
theorem fnEqualManagers_named : Tryz.pinned.checked.prog.funcNamed Rows.fnEqualManagersUptoRow.func = some 9 := by kernel_rfl
end Go.Proofs.YtihapgangilncaaGreat
