/- spec.identical and spec.SameValue. -/
import Derived.Test.YtnndacgokehkpaaClean
import Derived.Laws.Externs
namespace Go.Proofs.Ytnndacgokehkpaa
open Go.RowKit

mutual
/-- are two values identical -/
def V.same : V → V → Bool
  | .mk k1 n1 f1 s1 ks1 l1, .mk k2 n2 f2 s2 ks2 l2 => decide (k1 = k2) && decide (n1 = n2) && decide (s1 = s2) && decide (f1 = f2) && decide (ks1 = ks2) && V.sameL l1 l2
def V.sameL : List V → List V → Bool
  | [], [] => true
  | v :: l, u :: m => v.same u && V.sameL l m
  | _, _ => false
end
theorem sameL_iff : ∀ (l m : List V), V.sameL l m = true ↔ l.length = m.length ∧ ∀ i (h : i < l.length) (h' : i < m.length), (l[i]).same (m[i]) = true := by
  intro l
  induction l with
  | nil => intro m; cases m <;> simp [V.sameL]
  | cons v l ih =>
    intro m
    cases m with
    | nil => simp [V.sameL]
    | cons u m =>
      simp only [V.sameL, Bool.and_eq_true, ih, List.length_cons]
      constructor
      · rintro ⟨h1, h2, h3⟩
        refine ⟨by omega, fun i hi hi' => ?_⟩
        cases i with
        | zero => exact h1
        | succ i => exact h3 i (by omega) (by omega)
      · rintro ⟨h1, h2⟩
        exact ⟨h2 0 (by omega) (by omega), by omega, fun i hi hi' => h2 (i + 1) (by omega) (by omega)⟩

theorem same_refl (v : V) : v.same v = true := by
  induction v using V.ind with
  | h kind n f s keys l ih =>
  simp only [V.same, decide_true, Bool.true_and, sameL_iff]
  exact ⟨trivial, fun i h _ => ih i h⟩
theorem sameL_refl (l : List V) : V.sameL l l = true := (sameL_iff l l).2 ⟨rfl, fun _ _ _ => same_refl _⟩

set_option maxRecDepth 100000 in
theorem run_float64bits (w : World) (b : Nat) : (callFunc 53 #[.float .f64 b]).run Try.prog w = .ok (.value (.int .u64 b)) w := by
  rw [run_callFunc_extern (e := Extern.MathFloatBits.float64bits) Try.func53 (by kernel_rfl) (by kernel_rfl) (by kernel_rfl) (by kernel_rfl)]
  change (Sem.run Try.prog (pure (Value.int .u64 b)) w).andThen _ = _
  simp

end Go.Proofs.Ytnndacgokehkpaa
