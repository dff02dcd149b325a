/- value.ListEqualsUsing. -/
import Derived.Test.YtnndacgokehkpaaEqA
namespace Go.Proofs.Ytnndacgokehkpaa
open Go.RowKit

theorem load_lu {b off : Nat} {x : Value} {w : World} (h : w.cell? ⟨b, off, none⟩ = some x) : (loadVar 197 ⟨b, off, none⟩).run Try.prog w = .ok x w := by
  have ha : (isAgg 197).run Try.prog w = .ok false w := by kernel_rfl
  simp [loadVar, ha, loadCells, loadCellsFrom, load, Sem.run, h, Addr.add]
theorem lLength_c {w : World} {o : Option Addr} {n c : Nat} (R : Ending → World → Prop) (hR : R (.returned (.int .i64 n)) w) : Calls Try.prog 120 #[.slice o n c] w R := by
  have hR' := Lib.hid hR
  clear hR
  go_enter Try.func120, Try.ntmps120
  go_wp2_with fail
  exact hR'.out

def stepsOf : Value → Nat
  | .int _ n => n.toNat + 1
  | _ => 0

theorem eqTs_iff : ∀ {m l : List T}, m.length = l.length → (eqTs m l = true ↔ ∀ i (h : i < m.length) (h2 : i < l.length), eqT m[i] l[i] = true)
  | [], [], _ => by simp [eqTs]
  | [], _ :: _, h => by simp at h
  | _ :: _, [], h => by simp at h
  | x :: m, y :: l, h => by
    simp only [eqTs, Bool.and_eq_true, eqTs_iff (m := m) (l := l) (by simpa using h)]
    constructor
    · rintro ⟨h1, h2⟩ i hi hi2
      cases i with
      | zero => exact h1
      | succ i => exact h2 i (by simpa using hi) (by simpa using hi2)
    · intro h
      exact ⟨h 0 (by simp) (by simp), fun i hi hi2 => h (i + 1) (by simpa using hi) (by simpa using hi2)⟩

end Go.Proofs.Ytnndacgokehkpaa
