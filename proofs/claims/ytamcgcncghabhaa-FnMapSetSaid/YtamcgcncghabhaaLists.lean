/- value.List over trees; impl.toList, fromValue, ListItems, ListAt. -/
import Derived.Test.YtamcgcncghabhaaRange
namespace Go.Proofs.Ytamcgcncghabhaa
open Go.RowKit

/-- v (of type value.List) is a list of the trees ts -/
structure IsLst (w : World) (X : List Nat) (v : Value) (ts : List T) : Prop where
  ex : ∃ s, v = .iface 177 s ∧ IsTs w X s ts

theorem IsLst.mv {a b : World} {X Y : List Nat} {v : Value} {ts : List T} (h : IsLst a X v ts) (hm : Mv a X b Y) : IsLst b Y v ts := by
  obtain ⟨s, e, h1⟩ := h.ex
  exact ⟨s, e, h1.mv hm⟩

set_option maxRecDepth 100000 in
set_option maxHeartbeats 1000000 in
theorem asListUsing_c {w w0 : World} {X : List Nat} {x al : Value} {ts : List T} (hx : IsT w0 X x (.list ts)) (hm : Mv w0 X w X) (R : Ending → World → Prop) (hR : ∀ w' v, Ext w w' → IsLst w' X v ts → R (.returned v) w') :
    Calls Try.prog 122 #[.agg #[x], al] w R := by
  obtain ⟨s, rfl, hs⟩ := hx.inv_list
  obtain ⟨b, off, c, rfl, -⟩ := id hs.ex
  have hs' := Lib.hid hs
  have hR' := Lib.hid hR
  clear hR hs hx
  go_enter Try.func122, Try.ntmps122
  go_wp2_with fail
  exact hR'.out _ _ (.alloc _ _) ⟨_, rfl, hs'.out.mv (hm.ext (.alloc _ _))⟩

set_option maxRecDepth 100000 in
set_option maxHeartbeats 1000000 in
theorem allocRange_c {w : World} {p : Value} (R : Ending → World → Prop) (hR : ∀ w' rb ib, Ext w w' → w.heap.size ≤ rb → w.heap.size ≤ ib → rb ≠ ib → w'.heap[rb]? = some (.cells #[.slice none 0 0, .pointer (some ⟨ib, 0, none⟩), .int .i64 0] 198 (0, 0)) →
      w'.heap[ib]? = some (.cells #[.nilIface] 134 (0, 0)) → R (.returned (.pointer (some ⟨rb, 0, none⟩))) w') :
    Calls Try.prog 168 #[p] w R := by
  have hR' := Lib.hid hR
  clear hR
  go_enter Try.func168, Try.ntmps168
  go_wp2_with fail
  refine abs2 (G := fun wr => R _ wr) ?_
  intro w1 hE1 hb1 hb2 hs1
  refine hR'.out _ _ _ hE1 ?_ ?_ ?_ hb2 hb1
  all_goals omega

set_option maxRecDepth 100000 in
set_option maxHeartbeats 1000000 in
theorem rangeUsing_c {w : World} {X : List Nat} {s : Value} {ts : List T} {hb : Nat} (hs : IsTs w X s ts) (hX : Old X w) (R : Ending → World → Prop)
    (hR : ∀ w' v B, Ext w w' → IsRange w' X v ts 0 B → (∀ b ∈ B, w.heap.size ≤ b) → R (.returned v) w') :
    Calls Try.prog 141 #[s, .iface 98 (.pointer (some ⟨hb, 0, none⟩))] w R := by
  obtain ⟨b, off, c, rfl, l2, l3, l4, l5⟩ := id hs.ex
  have hs' := Lib.hid hs
  have hR' := Lib.hid hR
  have hX' := Lib.hid hX
  clear hR hs hX
  by_cases hl : ts.length = 0
  · have hl' : ((ts.length : Int) == 0) = true := by simpa using hl
    have hnil : ts = [] := List.eq_nil_of_length_eq_zero hl
    have hnil' := Lib.hid hnil
    clear hnil l4 l5 hl
    go_enter Try.func141, Try.ntmps141
    go_wp2_with fail
    refine hR'.out _ _ [] (.alloc _ _) ?_ (by simp)
    rw [hnil'.out]
    exact .empty _ _
  · have hl' : ((ts.length : Int) == 0) = false := by rw [beq_eq_false_iff_ne]; omega
    clear l4 l5 hl
    go_enter Try.func141, Try.ntmps141
    go_wp2_with fail
    refine allocRange_c _ ?_
    intro w1 rb ib hE1 hrb hib hne h1 h2
    dsimp only
    go_wp2_with (first | (refine wpL_store1 rfl _ _ _ rfl Try.info177 (p := ⟨rb, 0, none⟩) (v := .slice (some ⟨b, off, none⟩) ts.length c) rfl rfl rfl (by rw [cells_of h1 0]; rfl) (frozen_of_row _ _ _ _ _ h1) ?_; obtain ⟨hh3, hg3, hs3⟩ := set_facts (off := 0) (.slice (some ⟨b, off, none⟩) ts.length c) h1; generalize w1.setCell ⟨rb, 0, none⟩ (.slice (some ⟨b, off, none⟩) ts.length c) = w3 at hh3 hg3 hs3 ⊢) | (refine wpL_store1 rfl _ _ _ rfl Try.info3 (p := ⟨rb, 2, none⟩) (v := .int .i64 (-1)) rfl rfl rfl (by rw [cells_of hh3 2]; rfl) (frozen_of_row _ _ _ _ _ hh3) ?_; obtain ⟨hh4, hg4, hs4⟩ := set_facts (off := 2) (.int .i64 (-1)) hh3; generalize w3.setCell ⟨rb, 2, none⟩ (.int .i64 (-1)) = w4 at hh4 hg4 hs4 ⊢))
    have hM : Mut w1 [rb] w4 := (grown_mut hg3 (by simp)).trans (grown_mut hg4 (by simp))
    have hE4 : Ext w w4 := hE1.mutated hM (by simpa using hrb)
    refine hR'.out _ _ [rb, ib] hE4 (.list (v := .slice (some ⟨b, off, none⟩) ts.length c) (x := .nilIface) hh4 ?_ hne (fun h => by have := hX'.out _ h; omega) (fun h => by have := hX'.out _ h; omega) ?_) (by simp; omega)
    · exact (hM.block _ (Array.getElem?_eq_some_iff.1 h2).1 (by simpa using fun e => hne (e.symm))).trans h2
    · exact hs'.out.mv (((hE4.mv X).more hib).more hrb)

/-- a new block, and whatever further ones -/
theorem ext_new {w w1 : World} {o1 : Obj} (h : Ext (w.alloc o1) w1) : Ext w w1 ∧ w1.heap[w.heap.size]? = some o1 ∧ w.heap.size + 1 ≤ w1.heap.size :=
  ⟨(Ext.alloc _ _).trans h, (h.below.block _ (by simp)).trans (by show (w.heap.push _)[_]? = _; rw [push_get, if_pos rfl]), by have := h.size; simpa using this⟩

set_option maxRecDepth 100000 in
set_option maxHeartbeats 1000000 in
theorem unstructured_c {w : World} {x : Value} (R : Ending → World → Prop) (hR : ∀ w', Ext w w' → R (.returned x) w') :
    Calls Try.prog 133 #[.agg #[x]] w R := by
  have hR' := Lib.hid hR
  clear hR
  go_enter Try.func133, Try.ntmps133
  go_wp2_with fail
  exact hR'.out _ (.alloc _ _)

set_option maxRecDepth 100000 in
set_option maxHeartbeats 1000000 in
theorem fromValue_cells {w : World} {X : List Nat} {vb : Nat} {x : Value} {t : T} (h2 : w.heap[vb]? = some (.cells #[x] 134 (0, 0))) (h4 : IsT w X x t) (hX : Old X w) (R : Ending → World → Prop)
    (hR : ∀ w' cs, Ext w w' → IsV w' X cs t.back → R (.returned (.agg cs.toArray)) w') :
    Calls Try.prog 50 #[.iface 111 (.pointer (some ⟨vb, 0, none⟩))] w R := by
  have hvb := (Array.getElem?_eq_some_iff.1 h2).1
  have c0 := cells_of h2 0
  have h4' := Lib.hid h4
  have hR' := Lib.hid hR
  have hX' := Lib.hid hX
  clear hR hX h4
  go_enter Try.func50, Try.ntmps50
  go_wp2_with fail
  refine unstructured_c _ ?_
  intro w1 hE1
  obtain ⟨hE1, hb1, hs1⟩ := ext_new hE1
  dsimp only
  go_wp2_with fail
  refine fromTree_c t _ (w.heap.size :: X) x (h4'.out.mv ((hE1.mv X).more (Nat.le_refl _))) (.cons (by omega) (Old.le hX'.out hE1.size)) _ ?_
  intro w2 cs hE2 hy
  obtain ⟨y, rfl⟩ := hy.shape
  have hy' := Lib.hid hy
  clear hy
  have hb2 : w2.heap[w.heap.size]? = _ := (hE2.below.block _ (by omega)).trans hb1
  dsimp only
  simp only [Cells6.list]
  go_wp2_with (refine wpL_storeRow (cells := #[Value.int .i64 y.kind, .int .i64 y.n, .float .f64 y.f, .string y.s, .slice y.ko y.kn y.kc, .slice y.o y.m y.c]) rfl _ _ _ rfl Try.size26 rfl rfl hb2 rfl (by simp [Value.oneCell']) ?_; intro w3 hh3 hg3)
  go_simp
  have z0 : w3.cell? ⟨w.heap.size, 0, none⟩ = some (.int .i64 y.kind) := cells_of hh3 0
  have z1 : w3.cell? ⟨w.heap.size, 1, none⟩ = some (.int .i64 y.n) := cells_of hh3 1
  have z2 : w3.cell? ⟨w.heap.size, 2, none⟩ = some (.float .f64 y.f) := cells_of hh3 2
  have z3 : w3.cell? ⟨w.heap.size, 3, none⟩ = some (.string y.s) := cells_of hh3 3
  have z4 : w3.cell? ⟨w.heap.size, 4, none⟩ = some (.slice y.ko y.kn y.kc) := cells_of hh3 4
  have z5 : w3.cell? ⟨w.heap.size, 5, none⟩ = some (.slice y.o y.m y.c) := cells_of hh3 5
  refine bodyPost_ret (by simp [results, Try.results50, go_sem, z0, z1, z2, z3, z4, z5]; try rfl) rfl ?_
  exact hR'.out w3 y.list ((hE1.trans hE2).grown hg3 (fun j hj => by simp at hj; omega)) ((hy'.out.mv ((Mv.refl _ _).grown hg3 (fun j hj => by cases hj; simp))).mv ((Mv.refl _ _).less fun b hb => by simp [hb]))

theorem fromValue_c {w : World} {X : List Nat} {v : Value} {t : T} (hv : IsVal w X v t) (hX : Old X w) (R : Ending → World → Prop) (hR : ∀ w' cs, Ext w w' → IsV w' X cs t.back → R (.returned (.agg cs.toArray)) w') :
    Calls Try.prog 50 #[v] w R := by
  obtain ⟨vb, x, rfl, h2, h3, h4⟩ := hv.ex
  exact fromValue_cells h2 h4 hX R hR

theorem Row.mut {α : Type} {k : Kind α} {e : TypeId} {w w' : World} {X B : List Nat} {v : Value} {us : List α} (h : Row k e w X v us) (m : Mut w B w') (hB : ∀ b ∈ B, b ∈ X) : Row k e w' X v us := by
  obtain ⟨rows, h1, h2, h3⟩ := h.ex
  exact ⟨rows, h1.keep fun g hg => m.block g (h1.lt hg) (fun hb => h3 g hg (hB g hb)), h2.imp fun _ _ h => k.mv h (m.mv fun b hb => List.mem_append_right _ (hB b hb)), h3⟩

end Go.Proofs.Ytamcgcncghabhaa
