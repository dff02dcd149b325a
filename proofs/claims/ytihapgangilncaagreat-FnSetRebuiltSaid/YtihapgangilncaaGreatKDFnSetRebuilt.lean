/- For every list of paths, the law FnSetRebuilt returns true: a set is the union of its members and of what goes on behind each first element, and the sizes add up; no condition beside the law's own. -/
import Derived.Test.YtihapgangilncaaGreatKDRebLaw
namespace Go.Proofs.YtihapgangilncaaGreat
open Go.RowKit Go.Deep Go.ChangeShapes Go.WideShapes Go.ChangeAt
set_option linter.unusedSimpArgs false

set_option maxRecDepth 100000 in
theorem fnSetRebuilt_walk : LawWalk 10 Tryz.f10 := by
  intro H enc W base args ds ps hA _ hw hval
  rw [Tryz.params10] at hA hw hval
  obtain ⟨v0, d0, hargs, rfl, h0⟩ := trodAll_one hA
  subst hargs
  obtain ⟨o0, n0, c0, rfl⟩ := okWide_slice Tryz.underlying24 (hval 0 24 v0 rfl rfl)
  obtain ⟨fuel0, h0⟩ := h0
  simp only [DataW.weightsEach, List.all_append, Bool.and_eq_true] at hw
  obtain ⟨v, p, hv, hp⟩ := read_paths h0 hw.1
  have e0 : Value.slice o0 n0 c0 = v := by simpa [Value.cells] using hv
  subst e0
  exact fnSetRebuilt_law hp

set_option maxRecDepth 100000 in
theorem fnSetRebuilt_lifted (os : Os) (started : os.Started) (H : Type) (enc : TypeId × Value → H) :
    ReturnsInHanded {} Tryz.checked os 10 .any (Rows.fnSetRebuiltSpec.pre6 enc Tryz.prog Tryz.f10 Rows.fnSetRebuiltRow.domain false) (Rows.fnSetRebuiltSpec.post enc Tryz.prog Tryz.f10 false true false false) :=
  law_lift (s := Rows.fnSetRebuiltSpec) started (by kernel_rfl) Tryz.func10 rfl rfl
    (by rw [Tryz.params10]; intro t ht; simp at ht; rcases ht with rfl <;> exact ⟨by kernel_rfl, of_decide_eq_true (by kernel_rfl)⟩)
    (by rw [Tryz.params10]; intro ds hd; match ds, hd with | [a], _ => rfl)
    (ChangeSpec.witness6 (enc := enc) (C := Tryz.checked) false ⟨#[], #[.slice none 0 0], []⟩ 8 (by kernel_rfl) (by kernel_rfl) (by kernel_rfl) (by kernel_rfl))
    fnSetRebuilt_walk

theorem FnSetRebuilt_holds : Rows.FnSetRebuiltSaid :=
  OpenClaim.holds_of_wide 10 Tryz.f10 rfl rfl rfl rfl rfl rfl rfl ⟨rfl, rfl, rfl, rfl, rfl⟩ rfl rfl rfl rfl rfl (by kernel_rfl) Tryz.func10 (by kernel_rfl)
    (of_decide_eq_true (by kernel_rfl)) (by unfold Func.isWrapper; first | (rw [if_pos (by decide +kernel)]; kernel_rfl) | (rw [if_neg (by decide +kernel)]; exact ⟨rfl, rfl⟩))
    (fun os started H enc _ => fnSetRebuilt_lifted os started H enc)

end Go.Proofs.YtihapgangilncaaGreat
