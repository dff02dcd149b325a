/- impl.toValue and the methods of unstructured values. -/
import Derived.Test.YtnndacgokehkpaaPlain
import Derived.Test.YtnndacgokehkpaaAssert
namespace Go.Proofs.Ytnndacgokehkpaa
open Go.RowKit

theorem alloc_val {w w' : World} {X : List Nat} {x : Value} {t : T} (hE : Ext w w') (hx : IsT w X x t) (hX : Old X w) {b : Nat} (hb : w.heap.size ≤ b) (hh : w'.heap[b]? = some (.cells #[x] 135 (0, 0))) :
    IsVal w' X (.iface 114 (.pointer (some ⟨b, 0, none⟩))) t :=
  ⟨b, x, rfl, hh, fun h => by have := hX b h; omega, hx.mv (hE.mv X)⟩

set_option maxRecDepth 100000 in
set_option maxHeartbeats 1000000 in
theorem newValue_c {w : World} {X : List Nat} {x : Value} {t : T} (hx : IsT w X x t) (hX : Old X w) (R : Ending → World → Prop) (hR : ∀ w' v, Ext w w' → IsVal w' X v t → R (.returned v) w') :
    Calls Try.prog 36 #[x] w R := by
  have hone := hx.one
  have hx' := Lib.hid hx
  have hX' := Lib.hid hX
  have hR' := Lib.hid hR
  clear hx hX hR
  go_enter Try.func36, Try.ntmps36
  go_wp2_with (first | refine wpL_init1 rfl 20 _ _ rfl Try.info20 rfl (by simp) rfl hone (by decide) rfl ?_ | go_in)
  refine hR'.out _ _ ((Ext.alloc _ _).push _) (alloc_val ((Ext.alloc _ _).push _) hx'.out hX'.out (by omega) ?_)
  show ((w.heap.push _).push _)[_]? = _
  rw [push_get, if_pos (by simp)]

def T.isMap : T → Bool | .map _ _ => true | _ => false
def T.isList : T → Bool | .list _ => true | _ => false
def T.isBool : T → Bool | .bool _ => true | _ => false
def T.isInt : T → Bool | .int _ => true | _ => false
def T.isFloat : T → Bool | .float _ => true | _ => false
def T.isString : T → Bool | .str _ => true | _ => false
def T.isNull : T → Bool | .null => true | _ => false

end Go.Proofs.Ytnndacgokehkpaa
