/- The walk of FnEqualManagers, lifted: for all two lists of managers that are together of bulk at most 1048576, the law FnEqualManagers returns true: two lists of managers are equal exactly if they have the same names and, under each name, the same version, the same mark of having been applied and equal sets; the bound on the bulk is the statement's own. -/
import Derived.Test.YtihapgangilncaaGreatKGBulk
import Derived.Test.YtihapgangilncaaGreatKGMgrW
namespace Go.Proofs.YtihapgangilncaaGreat
open Go.RowKit Go.Deep Go.ChangeShapes Go.WideShapes Go.ChangeAt
set_option linter.unusedSimpArgs false

set_option maxRecDepth 100000 in
theorem fnEqualManagers_walk : LawWalkU 9 Tryz.f9 := by
  intro H enc W base args ds ps hA _ hw hval hk
  rw [Tryz.params9] at hA hw hval
  obtain ⟨v0, v1, d0, d1, p0, p1, hargs, rfl, rfl, h0, h1⟩ := trodAll_two hA
  obtain ⟨args⟩ := args
  obtain rfl : args = [v0, v1] := by simpa using hargs
  obtain ⟨o0, n0, c0, rfl⟩ := okWide_slice Tryz.underlying31 (hval 0 31 v0 rfl rfl)
  obtain ⟨o1, n1, c1, rfl⟩ := okWide_slice Tryz.underlying31 (hval 1 31 v1 rfl rfl)
  obtain ⟨fuel0, h0⟩ := h0
  obtain ⟨fuel1, h1⟩ := h1
  simp only [DataW.weightsEach, List.all_append, Bool.and_eq_true] at hw
  simp only [Rows.uptoBulkAll] at hk
  obtain ⟨v, p, hv, hp, lp, sp⟩ := read_mgsB (N := 1048576) h0 hw.1 (by simp only; omega)
  obtain ⟨u, q, hu, hq, lq, sq⟩ := read_mgsB (N := 1048576) h1 hw.2.1 (by simp only; omega)
  have e0 : Value.slice o0 n0 c0 = v := by simpa [Value.cells] using hv
  have e1 : Value.slice o1 n1 c1 = u := by simpa [Value.cells] using hu
  subst e0 e1
  exact fnEqualManagers_law hp hq lp lq sp sq

set_option maxRecDepth 100000 in
theorem fnEqualManagers_lifted (os : Os) (started : os.Started) (H : Type) (enc : TypeId × Value → H) (F : Stop.Interp) :
    ReturnsInHanded {} Tryz.checked os 9 .any ((Rows.OpenSpec.upto Rows.fnEqualManagersSpec).pre6 enc Tryz.prog Tryz.f9 Rows.fnEqualManagersUptoRow.domain false) (((Rows.OpenSpec.upto Rows.fnEqualManagersSpec).at F).post enc Tryz.prog Tryz.f9 false true false false) :=
  law_liftU (s := Rows.fnEqualManagersSpec) started (by kernel_rfl) Tryz.func9 rfl rfl
    (by rw [Tryz.params9]; intro t ht; simp at ht; rcases ht with rfl | rfl <;> exact ⟨by kernel_rfl, of_decide_eq_true (by kernel_rfl)⟩)
    (by rw [Tryz.params9]; intro ds hd; match ds, hd with | [a, b], _ => rfl)
    (OpenSpec.witness (enc := enc) (C := Tryz.checked) (s := Rows.OpenSpec.upto Rows.fnEqualManagersSpec) (k := Rows.uptoSmall) rfl false ⟨#[], #[.slice none 0 0, .slice none 0 0], []⟩ 8 (by kernel_rfl) (by kernel_rfl) (by kernel_rfl)
      (x := ([.nil, .nil], [], [])) (by kernel_rfl) rfl (by kernel_rfl))
    fnEqualManagers_walk

end Go.Proofs.YtihapgangilncaaGreat
