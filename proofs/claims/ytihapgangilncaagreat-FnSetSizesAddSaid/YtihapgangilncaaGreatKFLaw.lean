/- The step from a walk to a law's row: if every call of the law's function returns true and turns nothing that was there before, the row holds. -/
import Derived.Test.YtihapgangilncaaGreatRows
import Derived.WalkKit
import Derived.ProofKit
import Derived.SizedLaws
namespace Go.Proofs.YtihapgangilncaaGreat
open Go.ChangeShapes Go.WideShapes Go.ChangeAt Go.RowKit

theorem Tryz.own : ownKnob Tryz.prog.godebug = none := by kernel_rfl
theorem Tryz.laidOut : laidOutB Tryz.prog = true := by kernel_rfl
theorem Tryz.underBool : Tryz.prog.underlying 4 = some .bool := by kernel_rfl

theorem args_again {H : Type} {enc : TypeId × Value → H} {W W' : World} (hb : Below W.heap.size W W') :
    ∀ {ts : List TypeId} {vs : List Value} {ds : List (DataW H)} {ps : List MemPlace},
    (∀ t ∈ ts, Tryz.prog.readableRec t = true ∧ t < Tryz.prog.types.size) → (∀ x ∈ ps, x.block < W.heap.size) →
    DataW.TrodAll enc Tryz.prog W 0 (fun _ => true) true ts vs ds ps →
    DataW.TrodAll enc Tryz.prog W' 0 (fun b => decide (b < W.heap.size)) true ts vs ds ps
  | [], [], [], _, _, _, h => h
  | t :: ts, v :: vs, d :: ds, _, hr, hlt, ⟨p, q, h1, h2, e⟩ => by
    subst e
    exact ⟨p, q, Below.trod Tryz.laidOut (hr t (by simp)).1 (hr t (by simp)).2 h1 hb (fun x hx => hlt x (by simp [hx])),
      args_again hb (fun t ht => hr t (by simp [ht])) (fun x hx => hlt x (by simp [hx])) h2, rfl⟩
  | [], _ :: _, _, _, _, _, h => by simp [DataW.TrodAll] at h
  | [], [], _ :: _, _, _, _, h => by simp [DataW.TrodAll] at h
  | _ :: _, [], _, _, _, _, h => by simp [DataW.TrodAll] at h
  | _ :: _, _ :: _, [], _, _, _, h => by simp [DataW.TrodAll] at h

theorem trodAll_length {H : Type} {enc : TypeId × Value → H} {P : Program} {W : World} {b : Nat} {sp : Nat → Bool} {hd : Bool} :
    ∀ {ts : List TypeId} {vs : List Value} {ds : List (DataW H)} {ps : List MemPlace}, DataW.TrodAll enc P W b sp hd ts vs ds ps → ds.length = ts.length ∧ vs.length = ts.length
  | [], [], [], _, _ => by simp
  | _ :: _, _ :: _, _ :: _, _, ⟨_, _, _, h2, _⟩ => by have := trodAll_length h2; simp [this]
  | [], _ :: _, _, _, h => by simp [DataW.TrodAll] at h
  | [], [], _ :: _, _, h => by simp [DataW.TrodAll] at h
  | _ :: _, [], _, _, h => by simp [DataW.TrodAll] at h
  | _ :: _, _ :: _, [], _, h => by simp [DataW.TrodAll] at h

/-- what a law's walk has to show -/
def LawWalk (f : FuncId) (fn : Func) : Prop :=
  ∀ (H : Type) (enc : TypeId × Value → H) (W : World) (base : Nat) (args : Array Value) (ds : List (DataW H)) (ps : List MemPlace),
    DataW.TrodAll enc Tryz.prog W 0 (fun _ => true) true fn.params.toList args.toList ds ps → (∀ x ∈ ps, x.block < W.heap.size) →
    (DataW.weightsEach Tryz.prog fn.params.toList ds).all (· ≤ reachBytes) = true →
    (∀ (j : Nat) t v, fn.params[j]? = some t → args[j]? = some v → Value.okWide Tryz.prog W .any base t v) →
    Calls Tryz.prog f args W fun e W' => e = .returned (.bool true) ∧ Below W.heap.size W W'

set_option maxRecDepth 100000 in
theorem law_lift {os : Os} (started : os.Started) {H : Type} {enc : TypeId × Value → H} {f : FuncId} {fn : Func} {s : ChangeSpec}
    (noInit : Tryz.checked.prog.inits.idxOf? f = none) (hfn : Tryz.checked.prog.funcs[f]? = some fn) (hvars : s.vars = [])
    (hres : fn.resultTypes = #[4])
    (hread : ∀ t ∈ fn.params.toList, Tryz.prog.readableRec t = true ∧ t < Tryz.prog.types.size)
    (hs : ∀ ds : List (DataW H), ds.length = fn.params.toList.length → s.fn H ds = { results := [.lit (.bool true)], args := ds, vars := [] })
    (witness : ∃ (w : World) (tape : Tape) (i : Input), w.os = os ∧ (w.forCall tape i).Shaped Tryz.checked.prog ∧ i.vars = [] ∧ Input.okWide Tryz.checked.prog (w.forCall tape i) .any w.heap.size f i ∧
      s.pre6 enc Tryz.checked.prog fn [] false (w.forCall tape i).memory i.args ∧ ({} : Assume).holds Tryz.checked.prog (lone (Frame.enter Tryz.checked.prog f i.args .normal) [] (w.forCall tape i)))
    (walk : LawWalk f fn) :
    ReturnsInHanded {} Tryz.checked os f .any (s.pre6 enc Tryz.prog fn [] false) (s.post enc Tryz.prog fn false true false false) := by
  refine returnsInHanded_of_change_sized (C := Tryz.checked) Tryz.own started noInit hfn witness ?_
  intro W base args ds gs before hval hW _ hsz _
  have hlt := hW.lt
  have hW' := hW
  obtain ⟨p, q, hA, hV, hpq, _, _⟩ := hW
  have hgs : gs = [] ∧ q = [] := by
    rw [hvars] at hV
    cases gs with
    | nil => exact ⟨rfl, by simpa [DataW.TrodVars] using hV⟩
    | cons => simp [DataW.TrodVars] at hV
  obtain ⟨rfl, rfl⟩ := hgs
  have hbp : before = p := by simpa using hpq
  subst hbp
  have hvt : s.plain.varTypes Tryz.checked.prog = [] := by simp [DataSpec.varTypes, ChangeSpec.plain, hvars]
  have hsz' : (DataW.weightsEach Tryz.prog fn.params.toList ds).all (· ≤ reachBytes) = true := by
    rw [hvt, List.append_nil, List.append_nil] at hsz
    exact hsz
  refine (walk H enc W base args ds before hA (fun x hx => hlt x hx) hsz' hval).mono fun e W' ⟨he, hb⟩ => ?_
  have hsp : s.fn H (ds ++ []) = { results := [.lit (.bool true)], args := ds, vars := [] } := by
    rw [List.append_nil]; exact hs ds (trodAll_length hA).1
  refine ⟨_, he, ds, [], before, [], before, [], hW', ?_, ?_, ?_, ?_, fun h => by cases h⟩
  · rw [hsp, hres]
    exact ⟨[], [], shut_bool Tryz.underBool true, rfl, rfl⟩
  · rw [hsp]
    exact args_again hb hread (fun x hx => hlt x hx) hA
  · rw [hsp, hvars]
    rfl
  · exact hb.frame _

end Go.Proofs.YtihapgangilncaaGreat
