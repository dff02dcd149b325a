/- spec.Orderly. -/
import Derived.Test.YtihapgangilncaaGreatKGRep
namespace Go.Proofs.YtihapgangilncaaGreat
open Go.RowKit

mutual
def V.orderly : V → Bool
  | .mk kind n f _ _ l => if kind = 2 then decide (-9007199254740992 ≤ n) && decide (n ≤ 9007199254740992) else if kind = 3 then FloatKind.f64.format.order f f == some .eq else if kind = 5 ∨ kind = 6 then V.orderlyL l else true
def V.orderlyL : List V → Bool
  | [] => true
  | v :: l => v.orderly && V.orderlyL l
end

theorem orderlyL_iff (l : List V) : V.orderlyL l = true ↔ ∀ i (h : i < l.length), (l[i]).orderly = true := by
  induction l with
  | nil => simp [V.orderlyL]
  | cons v l ih =>
    simp only [V.orderlyL, Bool.and_eq_true, ih]
    constructor
    · rintro ⟨h1, h2⟩ i hi
      cases i with
      | zero => exact h1
      | succ i => exact h2 i (by simpa using hi)
    · intro h
      exact ⟨h 0 (by simp), fun i hi => h (i + 1) (by simpa using hi)⟩

set_option maxRecDepth 100000 in
set_option maxHeartbeats 1000000 in
theorem orderly_c (v : V) : ∀ {w : World} {X : List Nat} {cs : List Value} (_ : IsV w X cs v) (R : Ending → World → Prop) (_ : Ends R w (.bool v.orderly)),
    Calls Tryz.prog 94 #[.agg cs.toArray] w R := by
  induction v using V.ind with
  | h kind n f s keys l ih =>
  intro w X cs hv R hR
  obtain ⟨ko, kc, o, c, rfl, -, -, hl⟩ := hv.inv
  obtain ⟨_, _, b, off, e, h2, h3, h4, h5⟩ := hl.ex
  cases e
  clear hv hl
  go_enter Tryz.func94, Tryz.ntmps94
  have hR' := Lib.hid hR
  have hih := Lib.hid ih
  clear hR ih
  go_wp2_with fail
  any_goals (exact hR'.out.bool (by first | (simp_all [V.orderly]; done) | (simp_all [V.orderly]; omega)) _ (.alloc _ _))
  all_goals
    have hfin : Hid (V.orderly (.mk kind n f s keys l) = V.orderlyL l) := by unfold Hid; simp_all [V.orderly]
    go_loopw [30] (fun i wr => ∃ k : Nat, k ≤ l.length ∧ i = .int .i64 k ∧ Ext w wr ∧ Hid (∀ j (h : j < l.length), j < k → (l[j]).orderly = true)) (fun i _ => l.length - (intOf i).toNat)
    case atStart => exact ⟨0, Nat.zero_le _, rfl, Ext.alloc _ _, fun j _ hj => by omega⟩
    case round =>
      obtain ⟨k, hk, rfl, hb, hall⟩ := hrel
      by_cases hlt : k < l.length
      · obtain ⟨rfl, hbX⟩ := h4 (by omega)
        obtain ⟨x, c0, c1, c2, c3, c4, c5, hx⟩ := h5 k hlt
        have d0 := hb.keep c0
        have d1 := hb.keep c1
        have d2 := hb.keep c2
        have d3 := hb.keep c3
        have d4 := hb.keep c4
        have d5 := hb.keep c5
        clear c0 c1 c2 c3 c4 c5 h4 h5
        go_wp2_with fail
        refine hih.out k hlt (hx.mv ((hb.push _).mv X)) _ ?_
        intro w1 hb1
        dsimp only
        go_wp2_with fail
        · refine hR'.out.bool ?_ _ ((hb.push _).trans hb1)
          rw [hfin.out, Bool.eq_false_iff]
          intro e
          rw [orderlyL_iff] at e
          simp_all
        · go_roundw
          case rel =>
            refine ⟨k + 1, by omega, by go_num, (hb.push _).trans hb1, fun j hj hjk => ?_⟩
            by_cases e : j = k
            · subst e; simp_all
            · exact hall j hj (by omega)
          case measure => simp [intOf]; omega
      · go_wp2_with fail
        refine hR'.out.bool ?_ _ hb
        rw [hfin.out, orderlyL_iff]
        intro i hi
        exact hall i hi (by omega)

end Go.Proofs.YtihapgangilncaaGreat
