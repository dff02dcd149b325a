/- value.List over trees; impl.toList, fromValue, ListItems, ListAt. -/
import Derived.Test.YtnndacgokehkpaaRange
namespace Go.Proofs.Ytnndacgokehkpaa
open Go.RowKit

/-- v (of type value.List) is a list of the trees ts -/
structure IsLst (w : World) (X : List Nat) (v : Value) (ts : List T) : Prop where
  ex : ∃ s, v = .iface 197 s ∧ IsTs w X s ts

theorem IsLst.mv {a b : World} {X Y : List Nat} {v : Value} {ts : List T} (h : IsLst a X v ts) (hm : Mv a X b Y) : IsLst b Y v ts := by
  obtain ⟨s, e, h1⟩ := h.ex
  exact ⟨s, e, h1.mv hm⟩

/-- a new block, and whatever further ones -/
theorem ext_new {w w1 : World} {o1 : Obj} (h : Ext (w.alloc o1) w1) : Ext w w1 ∧ w1.heap[w.heap.size]? = some o1 ∧ w.heap.size + 1 ≤ w1.heap.size :=
  ⟨(Ext.alloc _ _).trans h, (h.below.block _ (by simp)).trans (by show (w.heap.push _)[_]? = _; rw [push_get, if_pos rfl]), by have := h.size; simpa using this⟩

set_option maxRecDepth 100000 in
set_option maxHeartbeats 1000000 in
theorem unstructured_c {w : World} {x : Value} (R : Ending → World → Prop) (hR : ∀ w', Ext w w' → R (.returned x) w') :
    Calls Try.prog 93 #[.agg #[x]] w R := by
  have hR' := Lib.hid hR
  clear hR
  go_enter Try.func93, Try.ntmps93
  go_wp2_with fail
  exact hR'.out _ (.alloc _ _)

set_option maxRecDepth 100000 in
set_option maxHeartbeats 1000000 in
theorem fromValue_cells {w : World} {X : List Nat} {vb : Nat} {x : Value} {t : T} (h2 : w.heap[vb]? = some (.cells #[x] 135 (0, 0))) (h4 : IsT w X x t) (hX : Old X w) (R : Ending → World → Prop)
    (hR : ∀ w' cs, Ext w w' → IsV w' X cs t.back → R (.returned (.agg cs.toArray)) w') :
    Calls Try.prog 19 #[.iface 114 (.pointer (some ⟨vb, 0, none⟩))] w R := by
  have hvb := (Array.getElem?_eq_some_iff.1 h2).1
  have c0 := cells_of h2 0
  have h4' := Lib.hid h4
  have hR' := Lib.hid hR
  have hX' := Lib.hid hX
  clear hR hX h4
  go_enter Try.func19, Try.ntmps19
  go_wp2_with fail
  refine unstructured_c _ ?_
  intro w1 hE1
  obtain ⟨hE1, hb1, hs1⟩ := ext_new hE1
  dsimp only
  go_wp2_with fail
  refine fromTree_c t _ (w.heap.size :: X) x (h4'.out.mv ((hE1.mv X).more (Nat.le_refl _))) (.cons (by omega) (Old.le hX'.out hE1.size)) _ ?_
  intro w2 cs hE2 hy
  obtain ⟨y, rfl⟩ := hy.shape
  have hy' := Lib.hid hy
  clear hy
  have hb2 : w2.heap[w.heap.size]? = _ := (hE2.below.block _ (by omega)).trans hb1
  dsimp only
  simp only [Cells6.list]
  go_wp2_with (refine wpL_storeRow (cells := #[Value.int .i64 y.kind, .int .i64 y.n, .float .f64 y.f, .string y.s, .slice y.ko y.kn y.kc, .slice y.o y.m y.c]) rfl _ _ _ rfl Try.size26 rfl rfl hb2 rfl (by simp [Value.oneCell']) ?_; intro w3 hh3 hg3)
  go_simp
  have z0 : w3.cell? ⟨w.heap.size, 0, none⟩ = some (.int .i64 y.kind) := cells_of hh3 0
  have z1 : w3.cell? ⟨w.heap.size, 1, none⟩ = some (.int .i64 y.n) := cells_of hh3 1
  have z2 : w3.cell? ⟨w.heap.size, 2, none⟩ = some (.float .f64 y.f) := cells_of hh3 2
  have z3 : w3.cell? ⟨w.heap.size, 3, none⟩ = some (.string y.s) := cells_of hh3 3
  have z4 : w3.cell? ⟨w.heap.size, 4, none⟩ = some (.slice y.ko y.kn y.kc) := cells_of hh3 4
  have z5 : w3.cell? ⟨w.heap.size, 5, none⟩ = some (.slice y.o y.m y.c) := cells_of hh3 5
  refine bodyPost_ret (by simp [results, Try.results19, go_sem, z0, z1, z2, z3, z4, z5]; try rfl) rfl ?_
  exact hR'.out w3 y.list ((hE1.trans hE2).grown hg3 (fun j hj => by simp at hj; omega)) ((hy'.out.mv ((Mv.refl _ _).grown hg3 (fun j hj => by cases hj; simp))).mv ((Mv.refl _ _).less fun b hb => by simp [hb]))

theorem fromValue_c {w : World} {X : List Nat} {v : Value} {t : T} (hv : IsVal w X v t) (hX : Old X w) (R : Ending → World → Prop) (hR : ∀ w' cs, Ext w w' → IsV w' X cs t.back → R (.returned (.agg cs.toArray)) w') :
    Calls Try.prog 19 #[v] w R := by
  obtain ⟨vb, x, rfl, h2, h3, h4⟩ := hv.ex
  exact fromValue_cells h2 h4 hX R hR

theorem Row.mut {α : Type} {k : Kind α} {e : TypeId} {w w' : World} {X B : List Nat} {v : Value} {us : List α} (h : Row k e w X v us) (m : Mut w B w') (hB : ∀ b ∈ B, b ∈ X) : Row k e w' X v us := by
  obtain ⟨rows, h1, h2, h3⟩ := h.ex
  exact ⟨rows, h1.keep fun g hg => m.block g (h1.lt hg) (fun hb => h3 g hg (hB g hb)), h2.imp fun _ _ h => k.mv h (m.mv fun b hb => List.mem_append_right _ (hB b hb)), h3⟩

end Go.Proofs.Ytnndacgokehkpaa
