/- Steps of a script whose operations are guarded. -/
import Derived.Test.YtihapgangilncaaGreatKGPar
namespace Go.Proofs.YtihapgangilncaaGreat
open Go.RowKit

section
variable {P : Program} {ops : Array Oper} {nd : List Nat} {C : World → Prop} {Q : Act → World → Prop}
theorem scr_pG {i : Nat} {s : List (Sk × Nat)} {a a' : Act} {w : World} {o : Oper} {v : Value} (hi : ops[i]? = some o) (hw : Region.wanted o (yielded ops a.tmps) = true) (hy : ∀ w', (execOp a.eval o).run P w' = .ok (.value v) w') (ha : a.put o.dst v = a')
    (h : scr P ops nd C Q s a' w) : scr P ops nd C Q ((.pure, i) :: s) a w :=
  ⟨o, v, hi, fun w' => .inl ⟨hw, .inl (hy w')⟩, ha ▸ h⟩
theorem scr_p0 {i : Nat} {s : List (Sk × Nat)} {a a' : Act} {w : World} {o : Oper} (hi : ops[i]? = some o) (hw : Region.wanted o (yielded ops a.tmps) = false) (ha : a.put o.dst undef = a')
    (h : scr P ops nd C Q s a' w) : scr P ops nd C Q ((.pure, i) :: s) a w :=
  ⟨o, undef, hi, fun _ => .inr ⟨hw, rfl⟩, ha ▸ h⟩
theorem scr_rG {i : Nat} {s : List (Sk × Nat)} {a a' : Act} {w : World} {o : Oper} {v : Value} (hi : ops[i]? = some o) (hw : Region.wanted o (yielded ops a.tmps) = true) (hc : C w) (hy : ∀ w', C w' → (execOp a.eval o).run P w' = .ok (.value v) w') (ha : a.put o.dst v = a')
    (h : scr P ops nd C Q s a' w) : scr P ops nd C Q ((.read, i) :: s) a w :=
  ⟨o, v, hi, hc, fun w' e => .inl ⟨hw, .inl (hy w' e)⟩, ha ▸ h⟩
theorem scr_r0G {i : Nat} {s : List (Sk × Nat)} {a a' : Act} {w : World} {o : Oper} (hi : ops[i]? = some o) (hw : Region.wanted o (yielded ops a.tmps) = false) (hc : C w) (ha : a.put o.dst undef = a')
    (h : scr P ops nd C Q s a' w) : scr P ops nd C Q ((.read, i) :: s) a w :=
  ⟨o, undef, hi, hc, fun _ _ => .inr ⟨hw, rfl⟩, ha ▸ h⟩
end

end Go.Proofs.YtihapgangilncaaGreat
