/- For all 64-bit integers a and b, the law FnCompareInts returns true: value.IntCompare agrees with the reference's CompareInts; no condition. -/
import Derived.Test.YtmihdlbcjiaibaaLaw
namespace Go.Proofs.Ytmihdlbcjiaibaa
open Go.ChangeShapes Go.WideShapes Go.ChangeAt Go.RowKit

set_option maxHeartbeats 400000 in
theorem compareInts_calls (a b : Int) (w : World) :
    Calls Try.prog 3 #[.int .i64 a, .int .i64 b] w fun e w' => e = .returned (.bool true) ∧ Below w.heap.size w w' := by
  rcases Int.lt_trichotomy a b with h | h | h
  · have h1 : ¬ b < a := by omega
    go_enter Try.func3, Try.ntmps3
    go_wp2
    go_ret
    exact ⟨rfl, Below.refl _ _⟩
  · subst h
    go_enter Try.func3, Try.ntmps3
    go_wp2
    go_ret
    exact ⟨rfl, Below.refl _ _⟩
  · have h1 : ¬ a < b := by omega
    go_enter Try.func3, Try.ntmps3
    go_wp2
    go_ret
    exact ⟨rfl, Below.refl _ _⟩

set_option maxRecDepth 100000 in
theorem compareInts_walk : LawWalk 3 Try.f3 := by
  intro H enc W base args ds ps hA _ _ hval
  rw [Try.params3] at hA hval
  obtain ⟨v0, v1, d0, d1, p0, p1, hargs, rfl, rfl, h0, h1⟩ := trodAll_two hA
  obtain ⟨args⟩ := args
  obtain rfl : args = [v0, v1] := by simpa using hargs
  obtain ⟨a, rfl, rfl, rfl, wa⟩ := open_int Try.underlying2 (hval 0 2 v0 rfl rfl) h0
  obtain ⟨b, rfl, rfl, rfl, wb⟩ := open_int Try.underlying2 (hval 1 2 v1 rfl rfl) h1
  exact compareInts_calls a b W

set_option maxRecDepth 100000 in
theorem compareInts_lifted (os : Os) (started : os.Started) (H : Type) (enc : TypeId × Value → H) :
    ReturnsInHanded {} Try.checked os 3 .any (Rows.fnCompareIntsSpec.pre6 enc Try.prog Try.f3 Rows.fnCompareIntsRow.domain false) (Rows.fnCompareIntsSpec.post enc Try.prog Try.f3 false true false false) :=
  law_lift (s := Rows.fnCompareIntsSpec) started (by kernel_rfl) Try.func3 rfl rfl
    (by rw [Try.params3]; intro t ht; simp at ht; subst ht; exact ⟨by kernel_rfl, of_decide_eq_true (by kernel_rfl)⟩)
    (by rw [Try.params3]; intro ds hd; match ds, hd with | [a, b], _ => rfl)
    (ChangeSpec.witness6 (enc := enc) (C := Try.checked) false ⟨#[], #[.int .i64 0, .int .i64 0], []⟩ 8 (by kernel_rfl) (by kernel_rfl) (by kernel_rfl) (by kernel_rfl))
    compareInts_walk

theorem FnCompareInts_holds : Rows.FnCompareIntsSaid :=
  OpenClaim.holds_of_wide 3 Try.f3 rfl rfl rfl rfl rfl rfl rfl ⟨rfl, rfl, rfl, rfl, rfl⟩ rfl rfl rfl rfl rfl (by kernel_rfl) Try.func3 (by kernel_rfl)
    (of_decide_eq_true (by kernel_rfl)) (by unfold Func.isWrapper; first | (rw [if_pos (by decide +kernel)]; kernel_rfl) | (rw [if_neg (by decide +kernel)]; exact ⟨rfl, rfl⟩))
    (fun os started H enc _ => compareInts_lifted os started H enc)

end Go.Proofs.Ytmihdlbcjiaibaa
