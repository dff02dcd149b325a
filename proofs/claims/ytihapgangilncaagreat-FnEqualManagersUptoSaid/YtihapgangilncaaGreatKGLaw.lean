/- The step from a walk to a law's row: if every call of the law's function returns true and turns nothing that was there before, the row holds. -/
import Derived.Test.YtihapgangilncaaGreatRows
import Derived.WalkKit
import Derived.ProofKit
import Derived.SizedLaws
namespace Go.Proofs.YtihapgangilncaaGreat
open Go.ChangeShapes Go.WideShapes Go.ChangeAt Go.RowKit

theorem Tryz.own : ownKnob Tryz.prog.godebug = none := by kernel_rfl
theorem Tryz.laidOut : laidOutB Tryz.prog = true := by kernel_rfl
theorem Tryz.underBool : Tryz.prog.underlying 4 = some .bool := by kernel_rfl

theorem args_again {H : Type} {enc : TypeId × Value → H} {W W' : World} (hb : Below W.heap.size W W') :
    ∀ {ts : List TypeId} {vs : List Value} {ds : List (DataW H)} {ps : List MemPlace},
    (∀ t ∈ ts, Tryz.prog.readableRec t = true ∧ t < Tryz.prog.types.size) → (∀ x ∈ ps, x.block < W.heap.size) →
    DataW.TrodAll enc Tryz.prog W 0 (fun _ => true) true ts vs ds ps →
    DataW.TrodAll enc Tryz.prog W' 0 (fun b => decide (b < W.heap.size)) true ts vs ds ps
  | [], [], [], _, _, _, h => h
  | t :: ts, v :: vs, d :: ds, _, hr, hlt, ⟨p, q, h1, h2, e⟩ => by
    subst e
    exact ⟨p, q, Below.trod Tryz.laidOut (hr t (by simp)).1 (hr t (by simp)).2 h1 hb (fun x hx => hlt x (by simp [hx])),
      args_again hb (fun t ht => hr t (by simp [ht])) (fun x hx => hlt x (by simp [hx])) h2, rfl⟩
  | [], _ :: _, _, _, _, _, h => by simp [DataW.TrodAll] at h
  | [], [], _ :: _, _, _, _, h => by simp [DataW.TrodAll] at h
  | _ :: _, [], _, _, _, _, h => by simp [DataW.TrodAll] at h
  | _ :: _, _ :: _, [], _, _, _, h => by simp [DataW.TrodAll] at h

theorem trodAll_length {H : Type} {enc : TypeId × Value → H} {P : Program} {W : World} {b : Nat} {sp : Nat → Bool} {hd : Bool} :
    ∀ {ts : List TypeId} {vs : List Value} {ds : List (DataW H)} {ps : List MemPlace}, DataW.TrodAll enc P W b sp hd ts vs ds ps → ds.length = ts.length ∧ vs.length = ts.length
  | [], [], [], _, _ => by simp
  | _ :: _, _ :: _, _ :: _, _, ⟨_, _, _, h2, _⟩ => by have := trodAll_length h2; simp [this]
  | [], _ :: _, _, _, h => by simp [DataW.TrodAll] at h
  | [], [], _ :: _, _, h => by simp [DataW.TrodAll] at h
  | _ :: _, [], _, _, h => by simp [DataW.TrodAll] at h
  | _ :: _, _ :: _, [], _, h => by simp [DataW.TrodAll] at h

end Go.Proofs.YtihapgangilncaaGreat
