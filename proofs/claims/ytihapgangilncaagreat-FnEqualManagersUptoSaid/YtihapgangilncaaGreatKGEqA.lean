/- value.EqualsUsing, what it computes over trees; the As.. methods; the deferred Free. -/
import Derived.Test.YtihapgangilncaaGreatKGLists
import Derived.Test.YtihapgangilncaaGreatKGPar
import Derived.Defers
namespace Go.Proofs.YtihapgangilncaaGreat
open Go.RowKit

def feq (x y : Nat) : Bool := FloatKind.f64.format.order x y == some .eq
def toF (n : Int) : Nat := floatOfInt .f64 n

mutual
def eqT : T → T → Bool
  | a, .null => a.isNull
  | a, .bool b => match a with | .bool c => c == b | _ => false
  | a, .int n => match a with | .int m => m == n | .float f => feq f (toF n) | _ => false
  | a, .float f => match a with | .float g => feq g f | .int m => feq (toF m) f | _ => false
  | a, .str s => match a with | .str t => t == s | _ => false
  | a, .list l => match a with | .list m => decide (m.length = l.length) && eqTs m l | _ => false
  | a, .map ks l => match a with | .map js m => decide ((js.zip m).length = (ks.zip l).length) && eqTm (js.zip m) ks l | _ => false
def eqTs : List T → List T → Bool
  | x :: m, y :: l => eqT x y && eqTs m l
  | _, _ => true
def eqTm : EntsOfT T → List ByteArray → List T → Bool
  | es, k :: ks, y :: l => (match getEnt k es with | some x => eqT x y | none => false) && eqTm es ks l
  | _, _, _ => true
end

set_option maxRecDepth 100000 in
set_option maxHeartbeats 1000000 in
theorem asInt_c {w0 w : World} {X : List Nat} {x : Value} {n : Int} (hx : IsT w0 X x (.int n)) (R : Ending → World → Prop) (hR : Ends R w (.int .i64 n)) :
    Calls Tryz.prog 245 #[.agg #[x]] w R := by
  have hR' := Lib.hid hR
  clear hR
  cases hx
  go_enter Tryz.func245, Tryz.ntmps245
  go_wp2_with fail
  exact hR'.out _ (.alloc _ _)
set_option maxRecDepth 100000 in
set_option maxHeartbeats 1000000 in
theorem asFloat_c {w0 w : World} {X : List Nat} {x : Value} {n : Nat} (hx : IsT w0 X x (.float n)) (R : Ending → World → Prop) (hR : Ends R w (.float .f64 n)) :
    Calls Tryz.prog 244 #[.agg #[x]] w R := by
  have hR' := Lib.hid hR
  clear hR
  cases hx
  go_enter Tryz.func244, Tryz.ntmps244
  go_wp2_with fail
  exact hR'.out _ (.alloc _ _)
set_option maxRecDepth 100000 in
set_option maxHeartbeats 1000000 in
theorem asString_c {w0 w : World} {X : List Nat} {x : Value} {n : ByteArray} (hx : IsT w0 X x (.str n)) (R : Ending → World → Prop) (hR : Ends R w (.string n)) :
    Calls Tryz.prog 250 #[.agg #[x]] w R := by
  have hR' := Lib.hid hR
  clear hR
  cases hx
  go_enter Tryz.func250, Tryz.ntmps250
  go_wp2_with fail
  exact hR'.out _ (.alloc _ _)
set_option maxRecDepth 100000 in
set_option maxHeartbeats 1000000 in
theorem asBool_c {w0 w : World} {X : List Nat} {x : Value} {n : Bool} (hx : IsT w0 X x (.bool n)) (R : Ending → World → Prop) (hR : Ends R w (.bool n)) :
    Calls Tryz.prog 243 #[.agg #[x]] w R := by
  have hR' := Lib.hid hR
  clear hR
  cases hx
  go_enter Tryz.func243, Tryz.ntmps243
  go_wp2_with fail
  exact hR'.out _ (.alloc _ _)

/-- v (of type value.Map) is a map of the trees ts -/
structure IsMp (w : World) (X : List Nat) (v : Value) (ts : EntsOfT T) : Prop where
  ex : ∃ r, v = .iface 362 (.map (some r)) ∧ IsTm w X r ts
theorem IsMp.mv {a b : World} {X Y : List Nat} {v : Value} {ts : EntsOfT T} (h : IsMp a X v ts) (hm : Mv a X b Y) : IsMp b Y v ts := by
  obtain ⟨s, e, h1⟩ := h.ex
  exact ⟨s, e, h1.mv hm⟩

set_option maxRecDepth 100000 in
set_option maxHeartbeats 1000000 in
theorem asMapUsing_c {w w0 : World} {X : List Nat} {x al : Value} {keys : List ByteArray} {l : List T} (hx : IsT w0 X x (.map keys l)) (hm : Mv w0 X w X) (R : Ending → World → Prop) (hR : ∀ w' v, Ext w w' → IsMp w' X v (keys.zip l) → R (.returned v) w') :
    Calls Tryz.prog 249 #[.agg #[x], al] w R := by
  obtain ⟨s, rfl, hs, -⟩ := hx.inv_map
  have hs' := Lib.hid hs
  have hR' := Lib.hid hR
  clear hR hs hx
  go_enter Tryz.func249, Tryz.ntmps249
  go_wp2_with fail
  exact hR'.out _ _ (.alloc _ _) ⟨_, rfl, hs'.out.mv (hm.ext (.alloc _ _))⟩

/-- an allocator -/
def IsAl (v : Value) : Prop := ∃ b, v = .iface 258 (.pointer (some ⟨b, 0, none⟩))

theorem free_d (p x : Value) (u : FrameMode) (w : World) : CallsD Tryz.prog 241 #[p, x] u w fun e u' w' => u' = u ∧ (e = .returned (.tuple #[]) ∧ w' = w) := by
  go_enter_d Tryz.func241, Tryz.ntmps241
  go_wp2_with fail
  exact bodyPost_end (by simp [results, Tryz.results241, go_sem]) rfl ⟨rfl, rfl⟩

@[go_sem] theorem meth_free (n b off : Nat) (w : World) : (method (n + 1) 258 (.pointer (some ⟨b, off, none⟩)) "Free").run Tryz.prog w = .ok (241, .pointer (some ⟨b, off, none⟩)) w := run_method_ptr n (by kernel_rfl) Tryz.underlying258
@[go_sem] theorem meth_allocV (n b off : Nat) (w : World) : (method (n + 1) 258 (.pointer (some ⟨b, off, none⟩)) "pub-coparcener/pub/structuredmerge/value.allocValueUnstructured").run Tryz.prog w = .ok (167, .pointer (some ⟨b, off, none⟩)) w := run_method_ptr n (by kernel_rfl) Tryz.underlying258

theorem allocValue_c {w : World} {p : Value} (R : Ending → World → Prop) (hR : ∀ w', Ext w w' → w'.heap[w.heap.size]? = some (.cells #[.nilIface] 292 (0, 0)) → R (.returned (.pointer (some ⟨w.heap.size, 0, none⟩))) w') :
    Calls Tryz.prog 167 #[p] w R := by
  have hR' := Lib.hid hR
  clear hR
  go_enter Tryz.func167, Tryz.ntmps167
  go_wp2_with fail
  exact hR'.out _ (Ext.alloc _ _) (by show (w.heap.push _)[_]? = _; rw [push_get, if_pos rfl])

def freeD (b : Nat) (x : Value) : Deferred := { target := .fn (.method "Free") #[], args := #[.iface 258 (.pointer (some ⟨b, 0, none⟩)), x] }
theorem run_freeD (b : Nat) (x : Value) (w : World) : (invoke (.fn (.method "Free") #[]) #[.iface 258 (.pointer (some ⟨b, 0, none⟩)), x]).run Tryz.prog w = .ok (.enter 241 #[.pointer (some ⟨b, 0, none⟩), x]) w := by
  simp [go_sem, invoke]
/-- behind a function's body: what it deferred were calls of Free, which do nothing -/
theorem leaves_free {fn : Func} {tmps : Array Value} {R : Ending → World → Prop} {w : World} {v : Value} (hr : (results fn tmps).run Tryz.prog w = .ok v w) (hR : R (.returned v) w) :
    ∀ (ds : List Deferred), (∀ d ∈ ds, ∃ b x, d = freeD b x) → Leaves Tryz.prog fn tmps R ds .returning w
  | [], _ => ⟨v, hr, hR⟩
  | d :: ds, h => by
    obtain ⟨b, x, rfl⟩ := h d (by simp)
    refine leaves_cons (f := 241) (args := #[.pointer (some ⟨b, 0, none⟩), x]) (by simp) (run_freeD b x w) ?_
    refine (free_d _ x .returning w).mono ?_
    rintro e u' w'' ⟨rfl, rfl, rfl⟩
    exact leaves_free hr hR ds (fun d hd => h d (by simp [hd]))

end Go.Proofs.YtihapgangilncaaGreat
