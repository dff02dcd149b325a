/- spec.equalPlain and spec.EqualValues. -/
import Derived.Test.YtnndacgokehkpaaIdent
import Derived.Test.YtnndacgokehkpaaEqE
namespace Go.Proofs.Ytnndacgokehkpaa
open Go.RowKit

def vnum (k : Int) : Bool := k == 2 || k == 3
def asF (k n : Int) (f : Nat) : Nat := if k = 2 then toF n else f

mutual
def V.eqP : V → V → Bool
  | .mk k n f s ks l, .mk k2 n2 f2 s2 ks2 l2 =>
    if (vnum k && vnum k2) = true then (if k = 2 ∧ k2 = 2 then n == n2 else feq (asF k n f) (asF k2 n2 f2))
    else k == k2 && (n == n2 && (s == s2 && (decide (ks = ks2) && (decide (l.length = l2.length) && V.eqPL l l2))))
def V.eqPL : List V → List V → Bool
  | x :: l, y :: m => V.eqP x y && V.eqPL l m
  | _, _ => true
end

theorem eqP_num {k n k2 n2 : Int} {f f2 : Nat} {s s2 : ByteArray} {ks ks2 : List ByteArray} {l l2 : List V} (h : (vnum k && vnum k2) = true) :
    V.eqP (.mk k n f s ks l) (.mk k2 n2 f2 s2 ks2 l2) = if k = 2 ∧ k2 = 2 then n == n2 else feq (asF k n f) (asF k2 n2 f2) := by simp only [V.eqP]; rw [if_pos h]
theorem eqP_else {k n k2 n2 : Int} {f f2 : Nat} {s s2 : ByteArray} {ks ks2 : List ByteArray} {l l2 : List V} (h : (vnum k && vnum k2) = false) :
    V.eqP (.mk k n f s ks l) (.mk k2 n2 f2 s2 ks2 l2) = (k == k2 && (n == n2 && (s == s2 && (decide (ks = ks2) && (decide (l.length = l2.length) && V.eqPL l l2))))) := by simp only [V.eqP]; rw [if_neg (by rw [h]; simp)]

theorem eqPL_iff : ∀ {m l : List V}, m.length = l.length → (V.eqPL m l = true ↔ ∀ i (h : i < m.length) (h2 : i < l.length), V.eqP m[i] l[i] = true)
  | [], [], _ => by simp [V.eqPL]
  | [], _ :: _, h => by simp at h
  | _ :: _, [], h => by simp at h
  | x :: m, y :: l, h => by
    simp only [V.eqPL, Bool.and_eq_true, eqPL_iff (m := m) (l := l) (by simpa using h)]
    constructor
    · rintro ⟨h1, h2⟩ i hi hi2
      cases i with
      | zero => exact h1
      | succ i => exact h2 i (by simpa using hi) (by simpa using hi2)
    · intro h
      exact ⟨h 0 (by simp) (by simp), fun i hi hi2 => h (i + 1) (by simpa using hi) (by simpa using hi2)⟩

end Go.Proofs.Ytnndacgokehkpaa
