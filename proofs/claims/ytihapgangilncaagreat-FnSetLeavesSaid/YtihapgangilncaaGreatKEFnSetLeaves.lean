/- For all lists of paths, the law FnSetLeaves returns true: the leaves of their set are the paths behind which no other path of the set goes on; no condition beside the law's own. -/
import Derived.Test.YtihapgangilncaaGreatKELaw
import Derived.Test.YtihapgangilncaaGreatKELvLaw
namespace Go.Proofs.YtihapgangilncaaGreat
open Go.RowKit Go.Deep Go.ChangeShapes Go.WideShapes Go.ChangeAt
set_option linter.unusedSimpArgs false

set_option maxRecDepth 100000 in
theorem fnSetLeaves_walk : LawWalk 5 Tryz.f5 := by
  intro H enc W base args ds ps hA _ hw hval
  rw [Tryz.params5] at hA hw hval
  obtain ⟨v0, d0, hargs, rfl, h0⟩ := trodAll_one hA
  subst hargs
  obtain ⟨o0, n0, c0, rfl⟩ := okWide_slice Tryz.underlying24 (hval 0 24 v0 rfl rfl)
  obtain ⟨fuel0, h0⟩ := h0
  simp only [DataW.weightsEach, List.all_append, Bool.and_eq_true] at hw
  obtain ⟨v, p, hv, hp⟩ := read_paths h0 hw.1
  have e0 : Value.slice o0 n0 c0 = v := by simpa [Value.cells] using hv
  subst e0
  exact fnSetLeaves_law hp

set_option maxRecDepth 100000 in
theorem fnSetLeaves_lifted (os : Os) (started : os.Started) (H : Type) (enc : TypeId × Value → H) :
    ReturnsInHanded {} Tryz.checked os 5 .any (Rows.fnSetLeavesSpec.pre6 enc Tryz.prog Tryz.f5 Rows.fnSetLeavesRow.domain false) (Rows.fnSetLeavesSpec.post enc Tryz.prog Tryz.f5 false true false false) :=
  law_lift (s := Rows.fnSetLeavesSpec) started (by kernel_rfl) Tryz.func5 rfl rfl
    (by rw [Tryz.params5]; intro t ht; simp at ht; rcases ht with rfl <;> exact ⟨by kernel_rfl, of_decide_eq_true (by kernel_rfl)⟩)
    (by rw [Tryz.params5]; intro ds hd; match ds, hd with | [a], _ => rfl)
    (ChangeSpec.witness6 (enc := enc) (C := Tryz.checked) false ⟨#[], #[.slice none 0 0], []⟩ 8 (by kernel_rfl) (by kernel_rfl) (by kernel_rfl) (by kernel_rfl))
    fnSetLeaves_walk

theorem FnSetLeaves_holds : Rows.FnSetLeavesSaid :=
  OpenClaim.holds_of_wide 5 Tryz.f5 rfl rfl rfl rfl rfl rfl rfl ⟨rfl, rfl, rfl, rfl, rfl⟩ rfl rfl rfl rfl rfl (by kernel_rfl) Tryz.func5 (by kernel_rfl)
    (of_decide_eq_true (by kernel_rfl)) (by unfold Func.isWrapper; first | (rw [if_pos (by decide +kernel)]; kernel_rfl) | (rw [if_neg (by decide +kernel)]; exact ⟨rfl, rfl⟩))
    (fun os started H enc _ => fnSetLeaves_lifted os started H enc)

end Go.Proofs.YtihapgangilncaaGreat
