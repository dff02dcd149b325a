/- impl.toValue and the methods of unstructured values. -/
import Derived.Test.YtihapgangilncaaGreatKCPlain
import Derived.Test.YtihapgangilncaaGreatKCAssert
namespace Go.Proofs.YtihapgangilncaaGreat
open Go.RowKit

theorem alloc_val {w w' : World} {X : List Nat} {x : Value} {t : T} (hE : Ext w w') (hx : IsT w X x t) (hX : Old X w) {b : Nat} (hb : w.heap.size ≤ b) (hh : w'.heap[b]? = some (.cells #[x] 292 (0, 0))) :
    IsVal w' X (.iface 261 (.pointer (some ⟨b, 0, none⟩))) t :=
  ⟨b, x, rfl, hh, fun h => by have := hX b h; omega, hx.mv (hE.mv X)⟩

set_option maxRecDepth 100000 in
set_option maxHeartbeats 1000000 in
theorem newValue_c {w : World} {X : List Nat} {x : Value} {t : T} (hx : IsT w X x t) (hX : Old X w) (R : Ending → World → Prop) (hR : ∀ w' v, Ext w w' → IsVal w' X v t → R (.returned v) w') :
    Calls Tryz.prog 140 #[x] w R := by
  have hone := hx.one
  have hx' := Lib.hid hx
  have hX' := Lib.hid hX
  have hR' := Lib.hid hR
  clear hx hX hR
  go_enter Tryz.func140, Tryz.ntmps140
  go_wp2_with (first | refine wpL_init1 rfl 20 _ _ rfl Tryz.info20 rfl (by simp) rfl hone (by decide) rfl ?_ | go_in)
  refine hR'.out _ _ ((Ext.alloc _ _).push _) (alloc_val ((Ext.alloc _ _).push _) hx'.out hX'.out (by omega) ?_)
  show ((w.heap.push _).push _)[_]? = _
  rw [push_get, if_pos (by simp)]

def T.isMap : T → Bool | .map _ _ => true | _ => false
def T.isList : T → Bool | .list _ => true | _ => false
def T.isBool : T → Bool | .bool _ => true | _ => false
def T.isInt : T → Bool | .int _ => true | _ => false
def T.isFloat : T → Bool | .float _ => true | _ => false
def T.isString : T → Bool | .str _ => true | _ => false
def T.isNull : T → Bool | .null => true | _ => false

set_option maxRecDepth 100000 in
set_option maxHeartbeats 1000000 in
theorem isNull_c {w0 w : World} {X : List Nat} {x : Value} {t : T} (hx : IsT w0 X x t) (R : Ending → World → Prop) (hR : Ends R w (.bool t.isNull)) :
    Calls Tryz.prog 256 #[.agg #[x]] w R := by
  have hR' := Lib.hid hR
  clear hR
  cases hx
  all_goals
    go_enter Tryz.func256, Tryz.ntmps256
    go_wp2_with fail
    exact hR'.out _ (.alloc _ _)

set_option maxRecDepth 100000 in
set_option maxHeartbeats 1000000 in
theorem isInt_c {w0 w : World} {X : List Nat} {x : Value} {t : T} (hx : IsT w0 X x t) (R : Ending → World → Prop) (hR : Ends R w (.bool t.isInt)) :
    Calls Tryz.prog 253 #[.agg #[x]] w R := by
  have hR' := Lib.hid hR
  clear hR
  cases hx
  all_goals
    go_enter Tryz.func253, Tryz.ntmps253
    go_wp2_with fail
    exact hR'.out _ (.alloc _ _)

set_option maxRecDepth 100000 in
set_option maxHeartbeats 1000000 in
theorem isFloat_c {w0 w : World} {X : List Nat} {x : Value} {t : T} (hx : IsT w0 X x t) (R : Ending → World → Prop) (hR : Ends R w (.bool t.isFloat)) :
    Calls Tryz.prog 252 #[.agg #[x]] w R := by
  have hR' := Lib.hid hR
  clear hR
  cases hx
  all_goals
    go_enter Tryz.func252, Tryz.ntmps252
    go_wp2_with fail
    exact hR'.out _ (.alloc _ _)

set_option maxRecDepth 100000 in
set_option maxHeartbeats 1000000 in
theorem isString_c {w0 w : World} {X : List Nat} {x : Value} {t : T} (hx : IsT w0 X x t) (R : Ending → World → Prop) (hR : Ends R w (.bool t.isString)) :
    Calls Tryz.prog 257 #[.agg #[x]] w R := by
  have hR' := Lib.hid hR
  clear hR
  cases hx
  all_goals
    go_enter Tryz.func257, Tryz.ntmps257
    go_wp2_with fail
    exact hR'.out _ (.alloc _ _)

set_option maxRecDepth 100000 in
set_option maxHeartbeats 1000000 in
theorem isBool_c {w0 w : World} {X : List Nat} {x : Value} {t : T} (hx : IsT w0 X x t) (R : Ending → World → Prop) (hR : Ends R w (.bool t.isBool)) :
    Calls Tryz.prog 251 #[.agg #[x]] w R := by
  have hR' := Lib.hid hR
  clear hR
  cases hx
  all_goals
    go_enter Tryz.func251, Tryz.ntmps251
    go_wp2_with fail
    exact hR'.out _ (.alloc _ _)

set_option maxRecDepth 100000 in
set_option maxHeartbeats 1000000 in
theorem isList_c {w0 w : World} {X : List Nat} {x : Value} {t : T} (hx : IsT w0 X x t) (R : Ending → World → Prop) (hR : Ends R w (.bool t.isList)) :
    Calls Tryz.prog 254 #[.agg #[x]] w R := by
  have hR' := Lib.hid hR
  clear hR
  cases hx
  all_goals
    go_enter Tryz.func254, Tryz.ntmps254
    go_wp2_with fail
    exact hR'.out _ (.alloc _ _)

set_option maxRecDepth 100000 in
set_option maxHeartbeats 1000000 in
theorem isMap_c {w0 w : World} {X : List Nat} {x : Value} {t : T} (hx : IsT w0 X x t) (R : Ending → World → Prop) (hR : Ends R w (.bool t.isMap)) :
    Calls Tryz.prog 255 #[.agg #[x]] w R := by
  have hR' := Lib.hid hR
  clear hR
  cases hx
  all_goals
    go_enter Tryz.func255, Tryz.ntmps255
    go_wp2_with fail
    exact hR'.out _ (.alloc _ _)

set_option maxRecDepth 100000 in
set_option maxHeartbeats 1000000 in
theorem toValue_c {w : World} {X : List Nat} {cs : List Value} {v : V} (hv : IsV w X cs v) (hX : Old X w) (R : Ending → World → Prop) (hR : ∀ w' y, Ext w w' → IsVal w' X y v.plain → R (.returned y) w') :
    Calls Tryz.prog 88 #[.agg cs.toArray] w R := by
  have hR' := Lib.hid hR
  have hX' := Lib.hid hX
  clear hR hX
  obtain ⟨x, rfl⟩ := hv.shape
  have hv' := Lib.hid hv
  clear hv
  simp only [Cells6.list]
  go_enter Tryz.func88, Tryz.ntmps88
  go_wp2_with fail
  refine plain_all v _ X x.list (hv'.out.mv ((Ext.alloc _ _).mv X)) (Old.le hX'.out (by simp)) _ ?_
  intro w1 y hE hy
  dsimp only
  go_wp2_with fail
  refine newValue_c hy (Old.le hX'.out ((Ext.alloc _ _).trans hE).size) _ ?_
  intro w2 z hE2 hz
  dsimp only
  go_wp2_with fail
  exact hR'.out _ _ (((Ext.alloc _ _).trans hE).trans hE2) hz

end Go.Proofs.YtihapgangilncaaGreat
