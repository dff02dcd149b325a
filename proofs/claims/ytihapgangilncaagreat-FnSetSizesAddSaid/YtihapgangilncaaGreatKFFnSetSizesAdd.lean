/- For all two lists of paths, the law FnSetSizesAdd returns true: the sizes of the union and of the intersection of their sets add up to the sizes of the two sets, and a set is empty exactly if its size is 0; no condition beside the law's own. -/
import Derived.Test.YtihapgangilncaaGreatKFLaw
import Derived.Test.YtihapgangilncaaGreatKFSizLaw
namespace Go.Proofs.YtihapgangilncaaGreat
open Go.RowKit Go.Deep Go.ChangeShapes Go.WideShapes Go.ChangeAt
set_option linter.unusedSimpArgs false

set_option maxRecDepth 100000 in
theorem fnSetSizesAdd_walk : LawWalk 8 Tryz.f8 := by
  intro H enc W base args ds ps hA _ hw hval
  rw [Tryz.params8] at hA hw hval
  obtain ⟨v0, v1, d0, d1, p0, p1, hargs, rfl, rfl, h0, h1⟩ := trodAll_two hA
  obtain ⟨args⟩ := args
  obtain rfl : args = [v0, v1] := by simpa using hargs
  obtain ⟨o0, n0, c0, rfl⟩ := okWide_slice Tryz.underlying24 (hval 0 24 v0 rfl rfl)
  obtain ⟨o1, n1, c1, rfl⟩ := okWide_slice Tryz.underlying24 (hval 1 24 v1 rfl rfl)
  obtain ⟨fuel0, h0⟩ := h0
  obtain ⟨fuel1, h1⟩ := h1
  simp only [DataW.weightsEach, List.all_append, Bool.and_eq_true] at hw
  obtain ⟨v, p, hv, hp⟩ := read_paths h0 hw.1
  obtain ⟨u, q, hu, hq⟩ := read_paths h1 hw.2.1
  have e0 : Value.slice o0 n0 c0 = v := by simpa [Value.cells] using hv
  have e1 : Value.slice o1 n1 c1 = u := by simpa [Value.cells] using hu
  subst e0 e1
  exact fnSetSizesAdd_law hp hq

set_option maxRecDepth 100000 in
theorem fnSetSizesAdd_lifted (os : Os) (started : os.Started) (H : Type) (enc : TypeId × Value → H) :
    ReturnsInHanded {} Tryz.checked os 8 .any (Rows.fnSetSizesAddSpec.pre6 enc Tryz.prog Tryz.f8 Rows.fnSetSizesAddRow.domain false) (Rows.fnSetSizesAddSpec.post enc Tryz.prog Tryz.f8 false true false false) :=
  law_lift (s := Rows.fnSetSizesAddSpec) started (by kernel_rfl) Tryz.func8 rfl rfl
    (by rw [Tryz.params8]; intro t ht; simp at ht; rcases ht with rfl | rfl <;> exact ⟨by kernel_rfl, of_decide_eq_true (by kernel_rfl)⟩)
    (by rw [Tryz.params8]; intro ds hd; match ds, hd with | [a, b], _ => rfl)
    (ChangeSpec.witness6 (enc := enc) (C := Tryz.checked) false ⟨#[], #[.slice none 0 0, .slice none 0 0], []⟩ 8 (by kernel_rfl) (by kernel_rfl) (by kernel_rfl) (by kernel_rfl))
    fnSetSizesAdd_walk

theorem FnSetSizesAdd_holds : Rows.FnSetSizesAddSaid :=
  OpenClaim.holds_of_wide 8 Tryz.f8 rfl rfl rfl rfl rfl rfl rfl ⟨rfl, rfl, rfl, rfl, rfl⟩ rfl rfl rfl rfl rfl (by kernel_rfl) Tryz.func8 (by kernel_rfl)
    (of_decide_eq_true (by kernel_rfl)) (by unfold Func.isWrapper; first | (rw [if_pos (by decide +kernel)]; kernel_rfl) | (rw [if_neg (by decide +kernel)]; exact ⟨rfl, rfl⟩))
    (fun os started H enc _ => fnSetSizesAdd_lifted os started H enc)

end Go.Proofs.YtihapgangilncaaGreat
