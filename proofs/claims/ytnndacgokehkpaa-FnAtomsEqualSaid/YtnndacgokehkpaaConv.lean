/- impl.toAtom and its kin: types handed to the package. -/
import Derived.Test.YtnndacgokehkpaaSTypes
import Derived.Test.YtnndacgokehkpaaPlain
namespace Go.Proofs.Ytnndacgokehkpaa
open Go.RowKit

theorem empty_eq {s : ByteArray} (h : s.toList.isEmpty = true) : s = ⟨#[]⟩ := toList_inj (by simpa using h)

theorem empty_ne {s : ByteArray} (h : s.toList.isEmpty = false) : ¬ s = ⟨#[]⟩ := fun e => by
  have h2 : (⟨#[]⟩ : ByteArray).toList.isEmpty = true := by simp
  rw [e, h2] at h
  cases h
theorem alloc_old (w : World) (o : Obj) {k : Nat} (h : k < w.heap.size) : (w.alloc o).heap[k]? = w.heap[k]? := by show (w.heap.push _)[_]? = _; rw [push_get, if_neg (by omega)]
theorem alloc_new (w : World) (o : Obj) {k : Nat} (h : k = w.heap.size) : (w.alloc o).heap[k]? = some o := by show (w.heap.push _)[_]? = _; rw [push_get, if_pos h]
theorem alloc_get (w : World) (o : Obj) (k : Nat) : (w.alloc o).heap[k]? = if k = w.heap.size then some o else w.heap[k]? := push_get _ _ _

theorem ptr_one (a : Option Addr) : (Value.pointer a).oneCell' = true := rfl
theorem str_one (s : ByteArray) : (Value.string s).oneCell' = true := rfl
theorem slice_one (a : Option Addr) (n c : Nat) : (Value.slice a n c).oneCell' = true := rfl
theorem nil_one : Value.nilIface.oneCell' = true := rfl
theorem bool_one (b : Bool) : (Value.bool b).oneCell' = true := rfl

def ToAtomC (d : Nat) : Prop := ∀ (w : World) (X : List Nat) (cs : List Value) (a : A), (kA d).is w X cs a → Old X w → ∀ R : Ending → World → Prop, (∀ w' cs', Ext w w' → (ksA d).is w' X cs' (toA d a) → R (.returned (.agg cs'.toArray)) w') →
    Calls Try.prog 29 #[.agg cs.toArray] w R

theorem kA_three {d : Nat} {w : World} {X : List Nat} {cs : List Value} {a : A} (h : (kA d).is w X cs a) : ∃ a0 a1 a2, cs = [a0, a1, a2] ∧ a0.oneCell' = true ∧ a1.oneCell' = true ∧ a2.oneCell' = true := by
  obtain ⟨a0, a1, a2, rfl⟩ := three_of (by rw [(kA d).len h, kA_size])
  have h1 := (kA d).one h
  exact ⟨a0, a1, a2, rfl, h1 _ (by simp), h1 _ (by simp), h1 _ (by simp)⟩
theorem ksA_three {d : Nat} {w : World} {X : List Nat} {cs : List Value} {a : SA} (h : (ksA d).is w X cs a) : ∃ a0 a1 a2, cs = [a0, a1, a2] ∧ a0.oneCell' = true ∧ a1.oneCell' = true ∧ a2.oneCell' = true := by
  obtain ⟨a0, a1, a2, rfl⟩ := three_of (by rw [(ksA d).len h, ksA_size])
  have h1 := (ksA d).one h
  exact ⟨a0, a1, a2, rfl, h1 _ (by simp), h1 _ (by simp), h1 _ (by simp)⟩

theorem Try.size74 : (Try.prog.info? 74).map (·.size) = some 3 := by kernel_rfl
theorem Try.size97 : (Try.prog.info? 97).map (·.size) = some 6 := by kernel_rfl
theorem Try.info94 : (Try.prog.info? 94).map (fun i => (i.zero, i.size, i.bytes)) = some (some (.pointer none), 1, 8) := by kernel_rfl
theorem Try.info95 : (Try.prog.info? 95).map (fun i => (i.zero, i.size, i.bytes)) = some (some (.pointer none), 1, 8) := by kernel_rfl

set_option maxRecDepth 100000 in
set_option maxHeartbeats 4000000 in
set_option pp.maxSteps 1000000 in
set_option pp.deepTerms true in
theorem toRef_c {d : Nat} (ih : ToAtomC d) {w : World} {X : List Nat} {cs : List Value} {r : RfOf A} (hr : (kRf (kA d)).is w X cs r) (hX : Old X w) (R : Ending → World → Prop)
    (hR : ∀ w' cs', Ext w w' → (ksRf (ksA d)).is w' X cs' (toRf (toA d) r) → R (.returned (.agg cs'.toArray)) w') : Calls Try.prog 54 #[.agg cs.toArray] w R := by
  obtain ⟨ac, rfl, ha, hn, hl⟩ := hr
  obtain ⟨a0, a1, a2, rfl, o0, o1, o2⟩ := kA_three ha
  obtain ⟨named, name, atom, rel⟩ := r
  have ha' := Lib.hid ha
  have hR' := Lib.hid hR
  have hX' := Lib.hid hX
  have hih := Lib.hid ih
  clear ha hR hX ih
  dsimp only at hn hl ⊢
  simp only [List.cons_append, List.nil_append]
  cases named with
  | true =>
    have hd : ∃ e, d = e + 1 := by
      cases d with
      | zero => exact ha'.out.elim
      | succ e => exact ⟨e, rfl⟩
    obtain ⟨e, rfl⟩ := hd
    have hz : ∀ (w' : World) (Y : List Nat), (ksA (e + 1)).is w' Y [.pointer none, .pointer none, .pointer none] (.mk none none none) := fun _ _ => ⟨_, _, _, rfl, rfl, rfl, rfl⟩
    have hz' := Lib.hid hz
    clear hz
    cases hrel : rel.toList.isEmpty
    all_goals
      go_enter Try.func54, Try.ntmps54
      go_wp2_with fail
      refine bodyPost_ret (by simp [results, Try.results54, go_sem]; try rfl) rfl ?_
    · refine hR'.out _ [_, _, _, _, _, _] (((((Ext.alloc _ _).push _).push _).push _).push _) ⟨_, [.pointer none, .pointer none, .pointer none], _, rfl, ?_, hz'.out _ _, ?_⟩
      · exact IsP.of_block (cs := [.string name]) ((alloc_old _ _ (by simp)).trans (alloc_new _ _ (by simp))) (fun h => by have := hX'.out _ h; omega) ⟨rfl, hn⟩
      · rw [show (toRf (toA (e + 1)) ⟨true, name, atom, rel⟩).rel = some rel from if_neg (empty_ne hrel)]
        exact IsP.of_block (cs := [.string rel]) (alloc_new _ _ (by simp)) (fun h => by have := hX'.out _ h; omega) ⟨rfl, hl⟩
    · refine hR'.out _ [_, _, _, _, _, _] ((((Ext.alloc _ _).push _).push _).push _) ⟨_, [.pointer none, .pointer none, .pointer none], _, rfl, ?_, hz'.out _ _, ?_⟩
      · exact IsP.of_block (cs := [.string name]) (alloc_new _ _ (by simp)) (fun h => by have := hX'.out _ h; omega) ⟨rfl, hn⟩
      · rw [show (toRf (toA (e + 1)) ⟨true, name, atom, rel⟩).rel = none from if_pos (empty_eq hrel)]
        rfl
  | false =>
    cases hrel : rel.toList.isEmpty
    all_goals
      go_enter Try.func54, Try.ntmps54
      go_wp2_with fail
      refine abs3 (G := fun wr => Calls _ _ _ wr _) ?_
      intro w1 hE1 hb1 hb2 hb3 hs1
      refine hih.out w1 (w.heap.size :: (w.heap.size + 1) :: (w.heap.size + 2) :: X) [a0, a1, a2] atom ((kA d).mv ha'.out ((((hE1.mv X).more (n := w.heap.size + 2) (by omega)).more (n := w.heap.size + 1) (by omega)).more (Nat.le_refl _))) (.cons (by omega) (.cons (by omega) (.cons (by omega) (hX'.out.le hE1.size)))) _ ?_
      intro w2 cs2 hE2 hy
      obtain ⟨p0, p1, p2, rfl, u0, u1, u2⟩ := ksA_three hy
      have hy' := Lib.hid hy
      have hE := hE1.trans hE2
      have c1 : w2.heap[w.heap.size]? = _ := (hE2.below.block _ (by omega)).trans hb1
      have c2 : w2.heap[w.heap.size + 1]? = _ := (hE2.below.block _ (by omega)).trans hb2
      have c3 : w2.heap[w.heap.size + 2]? = _ := (hE2.below.block _ (by omega)).trans hb3
      clear hy hb1 hb2 hb3
      dsimp only
      go_wp2_with (first | (refine wpL_storeSeg (cells := #[p0, p1, p2]) (new := #[.pointer none, p0, p1, p2, .pointer none, .bool false]) (b := w.heap.size + 2) (off := 1) rfl 74 _ _ rfl Try.size74 rfl rfl c3 (by simp) (by simp [u0, u1, u2]) rfl ?_; intro w3 d3 g3; have f0 : w3.cell? ⟨w.heap.size + 2, 0, none⟩ = some (.pointer none) := cells_of d3 0; have f1 : w3.cell? ⟨w.heap.size + 2, 1, none⟩ = some p0 := cells_of d3 1; have f2 : w3.cell? ⟨w.heap.size + 2, 2, none⟩ = some p1 := cells_of d3 2; have f3 : w3.cell? ⟨w.heap.size + 2, 3, none⟩ = some p2 := cells_of d3 3; have f4 : w3.cell? ⟨w.heap.size + 2, 4, none⟩ = some (.pointer none) := cells_of d3 4; have f5 : w3.cell? ⟨w.heap.size + 2, 5, none⟩ = some (.bool false) := cells_of d3 5; have d2 : w3.heap[w.heap.size + 1]? = _ := (g3.block _ (by have := hE2.size; omega) (by simp)).trans c2; have d1 : w3.heap[w.heap.size]? = _ := (g3.block _ (by have := hE2.size; omega) (by simp)).trans c1; have r5 : w3.cell? ⟨w.heap.size, 5, none⟩ = some (.string rel) := cells_of d1 5; have k3 : w.heap.size + 2 < w3.heap.size := (Array.getElem?_eq_some_iff.1 d3).1) | (refine wpL_store1 rfl 95 _ _ rfl Try.info95 (p := ⟨w.heap.size + 2, 4, none⟩) (v := .pointer (some ⟨w3.heap.size, 0, none⟩)) rfl rfl rfl (by rw [cells_of ((alloc_old _ _ k3).trans d3) 4]; rfl) (frozen_of_row _ _ _ _ _ ((alloc_old _ _ k3).trans d3)) ?_; obtain ⟨e3, g5, -⟩ := set_facts (off := 4) (.pointer (some ⟨w3.heap.size, 0, none⟩)) ((alloc_old w3 (.cells #[.string rel] 98 (0, 0)) k3).trans d3); have e2 := (alloc_old w3 (.cells #[.string rel] 98 (0, 0)) (by omega)).trans d2; have e5 := alloc_new w3 (.cells #[.string rel] 98 (0, 0)) rfl; have hE4 := Ext.alloc w3 (.cells #[.string rel] 98 (0, 0)); generalize (w3.alloc (.cells #[.string rel] 98 (0, 0))) = w4 at e2 e3 e5 g5 hE4 ⊢; generalize w4.setCell ⟨w.heap.size + 2, 4, none⟩ (.pointer (some ⟨w3.heap.size, 0, none⟩)) = w5 at e3 g5 ⊢; clear f0 f1 f2 f3 f4 f5; have f0 : w5.cell? ⟨w.heap.size + 2, 0, none⟩ = some (.pointer none) := cells_of e3 0; have f1 : w5.cell? ⟨w.heap.size + 2, 1, none⟩ = some p0 := cells_of e3 1; have f2 : w5.cell? ⟨w.heap.size + 2, 2, none⟩ = some p1 := cells_of e3 2; have f3 : w5.cell? ⟨w.heap.size + 2, 3, none⟩ = some p2 := cells_of e3 3; have f4 : w5.cell? ⟨w.heap.size + 2, 4, none⟩ = some (.pointer (some ⟨w3.heap.size, 0, none⟩)) := cells_of e3 4; have f5 : w5.cell? ⟨w.heap.size + 2, 5, none⟩ = some (.bool false) := cells_of e3 5; have e2' : w5.heap[w.heap.size + 1]? = _ := (g5.block _ (by have := hE4.size; omega) (by simp)).trans e2) | (refine wpL_storeRow (cells := #[.pointer none, p0, p1, p2, .pointer (some ⟨w3.heap.size, 0, none⟩), .bool false]) rfl 97 _ _ rfl Try.size97 rfl rfl e2' rfl (by simp [u0, u1, u2, ptr_one, bool_one]) ?_; intro w6 h6 g6) | (refine wpL_storeRow (cells := #[.pointer none, p0, p1, p2, .pointer none, .bool false]) rfl 97 _ _ rfl Try.size97 rfl rfl d2 rfl (by simp [u0, u1, u2, ptr_one, bool_one]) ?_; intro w6 h6 g6))
      go_simp
      have z0 := cells_of h6 0
      have z1 := cells_of h6 1
      have z2 := cells_of h6 2
      have z3 := cells_of h6 3
      have z4 := cells_of h6 4
      have z5 := cells_of h6 5
      simp only [List.getElem?_toArray, List.getElem?_cons_zero, List.getElem?_cons_succ] at z0 z1 z2 z3 z4 z5
      refine bodyPost_ret (by simp [results, Try.results54, go_sem, z0, z1, z2, z3, z4, z5]; try rfl) rfl ?_
    · have hm := ((((Mv.refl w2 (w.heap.size :: (w.heap.size + 1) :: (w.heap.size + 2) :: X)).grown g3 (by intro k hk; cases hk; simp)).trans (hE4.mv _)).grown g5 (by intro k hk; cases hk; simp)).grown g6 (by intro k hk; cases hk; simp)
      have h5 : w6.heap[w3.heap.size]? = _ := (g6.block _ (by have := (Array.getElem?_eq_some_iff.1 e5).1; have := g5.size; omega) (by simp; omega)).trans ((g5.block _ ((Array.getElem?_eq_some_iff.1 e5).1) (by simp; omega)).trans e5)
      refine hR'.out w6 [_, _, _, _, _, _] ((((hE.grown g3 (fun k hk => by cases hk; omega)).trans hE4).grown g5 (fun k hk => by cases hk; omega)).grown g6 (fun k hk => by cases hk; omega)) ⟨_, [p0, p1, p2], _, rfl, rfl, (ksA d).mv hy'.out (hm.less fun b hb => by simp [hb]), ?_⟩
      rw [show (toRf (toA d) ⟨false, name, atom, rel⟩).rel = some rel from if_neg (empty_ne hrel)]
      exact IsP.of_block (cs := [.string rel]) h5 (fun h => by have := hX'.out _ h; have := hE.size; omega) ⟨rfl, hl⟩
    · have hm := ((Mv.refl w2 (w.heap.size :: (w.heap.size + 1) :: (w.heap.size + 2) :: X)).grown g3 (by intro k hk; cases hk; simp)).grown g6 (by intro k hk; cases hk; simp)
      refine hR'.out w6 [_, _, _, _, _, _] ((hE.grown g3 (fun k hk => by cases hk; omega)).grown g6 (fun k hk => by cases hk; omega)) ⟨_, [p0, p1, p2], _, rfl, rfl, (ksA d).mv hy'.out (hm.less fun b hb => by simp [hb]), ?_⟩
      rw [show (toRf (toA d) ⟨false, name, atom, rel⟩).rel = none from if_pos (empty_eq hrel)]
      rfl

theorem kRf_six {d : Nat} {w : World} {X : List Nat} {cs : List Value} {r : RfOf A} (h : (kRf (kA d)).is w X cs r) : ∃ a0 a1 a2 a3 a4 a5, cs = [a0, a1, a2, a3, a4, a5] ∧ a0.oneCell' = true ∧ a1.oneCell' = true ∧ a2.oneCell' = true ∧ a3.oneCell' = true ∧ a4.oneCell' = true ∧ a5.oneCell' = true := by
  obtain ⟨a0, a1, a2, a3, a4, a5, rfl⟩ := six_of (by rw [(kRf (kA d)).len h]; simp [kRf, kA_size])
  have h1 := (kRf (kA d)).one h
  exact ⟨a0, a1, a2, a3, a4, a5, rfl, h1 _ (by simp), h1 _ (by simp), h1 _ (by simp), h1 _ (by simp), h1 _ (by simp), h1 _ (by simp)⟩
theorem ksRf_six {d : Nat} {w : World} {X : List Nat} {cs : List Value} {r : SRf SA} (h : (ksRf (ksA d)).is w X cs r) : ∃ a0 a1 a2 a3 a4 a5, cs = [a0, a1, a2, a3, a4, a5] ∧ a0.oneCell' = true ∧ a1.oneCell' = true ∧ a2.oneCell' = true ∧ a3.oneCell' = true ∧ a4.oneCell' = true ∧ a5.oneCell' = true := by
  obtain ⟨a0, a1, a2, a3, a4, a5, rfl⟩ := six_of (by rw [(ksRf (ksA d)).len h]; simp [ksRf, ksA_size])
  have h1 := (ksRf (ksA d)).one h
  exact ⟨a0, a1, a2, a3, a4, a5, rfl, h1 _ (by simp), h1 _ (by simp), h1 _ (by simp), h1 _ (by simp), h1 _ (by simp), h1 _ (by simp)⟩

theorem Try.size100 : (Try.prog.info? 100).map (·.size) = some 8 := by kernel_rfl

section
variable {P : Program}
/-- append(nil, x..) of a slice of strings -/
theorem wp_strsCopy {w : World} {X : List Nat} {v : Value} {ss : List ByteArray} {o : Oper} {a : Act} {K : Act → World → Prop} {Q : Exit → Act → World → Prop} (hss : IsStrs w X v ss) (hX : Old X w) (s x : Operand) (t te : TypeId) (hte : te = 9)
    (ho : o.op = .call { callee := .builtin .append, args := #[s, x], argTypes := #[t, t] }) (ht : P.underlying t = some (.slice te)) (hi : (P.info? te).map (fun i => (i.zero, i.size, i.bytes)) = some (some (.string ⟨#[]⟩), 1, 16))
    (hs : a.eval s = .slice none 0 0) (hx : a.eval x = v) (h : ∀ v' w', Ext w w' → IsStrs w' X v' ss → K (a.put o.dst v') w') : o.wp P a w K Q := by
  subst hte
  obtain ⟨so, c, b, off, rfl, h1, h2, h3, h4⟩ := hss.ex
  obtain ⟨i, hi1, hz, hsize, hby⟩ := info_parts hi
  obtain ⟨v', w', hr, ho', hg', hn', hd'⟩ := run_append_gen (P := P) w t o.type 9 ht hi rfl (by decide) (Own.nil w 9 1) so ss.length c (ss.map Value.string) (by simp) (fun e => by
      rcases Nat.eq_zero_or_pos ss.length with h0 | h0
      · exact h0
      · have := (h3 h0).1; rw [this] at e; cases e) (fun ad e j u hj => by
      have hj' : j < ss.length := by
        have := (List.getElem?_eq_some_iff.1 hj).1
        simpa using this
      have h5 := (h3 (by omega)).1
      rw [e] at h5
      cases h5
      rw [addr_add]
      have := (h4 j hj').1
      rw [this]
      simp only [List.getElem?_map, List.getElem?_eq_getElem hj', Option.map_some, Option.some.injEq] at hj
      rw [← hj]
      simp [hj']) (fun u hu => by obtain ⟨q, _, rfl⟩ := List.mem_map.1 hu; rfl) (by rw [maxLen_eq]; omega) (by omega)
  unfold Oper.wp execOp
  simp only [ho, resolve, invoke, builtin, Sem.run_bind, Sem.run_pure, Result.andThen_ok, List.map_toArray, List.map_cons, List.map_nil, hs, hx, hr]
  have hE : Ext w w' := (Ext.refl w).grown hg' (fun k hk => by simp [Value.ownBlock] at hk)
  refine h v' w' hE (IsStrs.of_own (by simpa using ho') (fun g hg hx => ?_) h2 hss.small)
  rcases hd' g hg with h | h
  · simp [Value.ownBlock] at h
  · have := hX g hx; omega
end

set_option maxRecDepth 100000 in
set_option maxHeartbeats 4000000 in
set_option pp.maxSteps 1000000 in
set_option pp.deepTerms true in
theorem toListType_c {d : Nat} (ih : ToAtomC d) {w : World} {X : List Nat} {cs : List Value} {l : LtOf A} (hl : (kLt (kA d)).is w X cs l) (hX : Old X w) (R : Ending → World → Prop)
    (hR : ∀ w' cs', Ext w w' → (ksLt (ksA d)).is w' X cs' (toLt (toA d) l) → R (.returned (.agg cs'.toArray)) w') : Calls Try.prog 42 #[.agg cs.toArray] w R := by
  obtain ⟨rs, vk, rfl, hr, hk, hl⟩ := hl
  obtain ⟨a0, a1, a2, a3, a4, a5, rfl, o0, o1, o2, o3, o4, o5⟩ := kRf_six hr
  obtain ⟨ko, kc, _, _, rfl, -⟩ := id hk.ex
  have hr' := Lib.hid hr
  have hk' := Lib.hid hk
  have hR' := Lib.hid hR
  have hX' := Lib.hid hX
  clear hr hR hX hk
  simp only [List.cons_append, List.nil_append]
  go_enter Try.func42, Try.ntmps42
  go_wp2_with fail
  refine abs2 (G := Code.wp _ _ _ _) ?_
  intro w1 hE1 hb1 hb2 hs1
  have c0 := cells_of hb1 0
  have c1 := cells_of hb1 1
  have c2 := cells_of hb1 2
  have c3 := cells_of hb1 3
  have c4 := cells_of hb1 4
  have c5 := cells_of hb1 5
  have c6 := cells_of hb1 6
  have c7 := cells_of hb1 7
  simp only [List.getElem?_toArray, List.getElem?_cons_zero, List.getElem?_cons_succ] at c0 c1 c2 c3 c4 c5 c6 c7
  refine wp_region_script [0, 1, 3, 4, 5, 6, 8] [2, 7] (fun w' => Ext w1 w') [(.pure, 0), (.read, 1), (.pure, 3), (.read, 4), (.pure, 5), (.read, 6), (.one, 2), (.one, 7), (.pure, 8), (.one, 9)] (by kernel_rfl) (by kernel_rfl) ?_
  (apply scr_pure'; (· rfl); (· rfl); (· (intro w'; go_simp; try rfl)); (· (simp [go_sem]; try rfl)))
  (apply scr_read'; (· rfl); (· rfl); (· first | exact hC | exact (Ext.refl _).drew); (· (intro w' hw'; have c0_ := hw'.keep c0; have c1_ := hw'.keep c1; have c2_ := hw'.keep c2; have c3_ := hw'.keep c3; have c4_ := hw'.keep c4; have c5_ := hw'.keep c5; go_simp; try rfl)); (· (simp [go_sem]; try rfl)))
  (apply scr_pure'; (· rfl); (· rfl); (· (intro w'; go_simp; try rfl)); (· (simp [go_sem]; try rfl)))
  (apply scr_read'; (· rfl); (· rfl); (· first | exact hC | exact (Ext.refl _).drew); (· (intro w' hw'; have c6_ := hw'.keep c6; go_simp; try rfl)); (· (simp [go_sem]; try rfl)))
  (apply scr_pure'; (· rfl); (· rfl); (· (intro w'; go_simp; try rfl)); (· (simp [go_sem]; try rfl)))
  (apply scr_read'; (· rfl); (· rfl); (· first | exact hC | exact (Ext.refl _).drew); (· (intro w' hw'; have c7_ := hw'.keep c7; go_simp; try rfl)); (· (simp [go_sem]; try rfl)))
  refine scr_one rfl rfl (fun K hK => ?_)
  go_simp
  refine toRef_c ih (X := w.heap.size :: (w.heap.size + 1) :: X) ((kRf (kA d)).mv hr'.out (((hE1.drew.mv X).more (n := w.heap.size + 1) (by omega)).more (Nat.le_refl _))) (.cons (by simp; omega) (.cons (by simp; omega) (hX'.out.le hE1.drew.size))) _ ?_
  intro w2 cs2 hE2 hy
  obtain ⟨p0, p1, p2, p3, p4, p5, rfl, u0, u1, u2, u3, u4, u5⟩ := ksRf_six hy
  have hy' := Lib.hid hy
  clear hy
  have hw2 := (Ext.refl w1).drew.trans hE2
  have hE := hE1.trans hw2
  refine hK _ _ (fun _ => hw2) ?_
  clear hK
  refine scr_one rfl rfl (fun K hK => ?_)
  refine wp_strsCopy (X := w.heap.size :: (w.heap.size + 1) :: X) (hk'.out.mv (((hE.mv X).more (n := w.heap.size + 1) (by omega)).more (Nat.le_refl _))) (.cons (by have := hw2.size; omega) (.cons (by have := hw2.size; omega) (hX'.out.le hE.size))) _ _ 23 9 rfl rfl Try.underlying23 Try.info9 rfl (by go_simp) ?_
  intro v3 w3 hE3 hks
  obtain ⟨no, nc, _, _, rfl, -⟩ := id hks.ex
  have hks' := Lib.hid hks
  clear hks
  refine hK _ _ (fun _ => hw2.trans hE3) ?_
  clear hK
  (apply scr_pure'; (· rfl); (· rfl); (· (intro w'; go_simp; try rfl)); (· (simp [go_sem]; try rfl)))
  refine scr_one rfl rfl (fun K hK => ?_)
  have c2' : w3.heap[w.heap.size + 1]? = _ := ((hw2.trans hE3).below.block _ (by omega)).trans hb2
  refine wp_storeRow (cells := #[p0, p1, p2, p3, p4, p5, .string l.rel, .slice no l.keys.length nc]) 100 _ _ rfl Try.size100 rfl (by go_simp) c2' rfl (by simp [u0, u1, u2, u3, u4, u5, str_one, slice_one]) ?_
  intro w4 h4 g4
  refine hK _ _ (fun h => by simp at h) ?_
  clear hK
  refine scr_end ?_
  simp only [Exit.then]
  go_wp2_with fail
  have z0 := cells_of h4 0
  have z1 := cells_of h4 1
  have z2 := cells_of h4 2
  have z3 := cells_of h4 3
  have z4 := cells_of h4 4
  have z5 := cells_of h4 5
  have z6 := cells_of h4 6
  have z7 := cells_of h4 7
  simp only [List.getElem?_toArray, List.getElem?_cons_zero, List.getElem?_cons_succ] at z0 z1 z2 z3 z4 z5 z6 z7
  refine bodyPost_ret (by simp [results, Try.results42, go_sem, z0, z1, z2, z3, z4, z5, z6, z7]; try rfl) rfl ?_
  have hm := (hE3.mv (w.heap.size :: (w.heap.size + 1) :: X)).grown g4 (by intro k hk; cases hk; simp)
  have hm2 := (Mv.refl w3 (w.heap.size :: (w.heap.size + 1) :: X)).grown g4 (by intro k hk; cases hk; simp)
  exact hR'.out w4 [_, _, _, _, _, _, _, _] ((hE.trans hE3).grown g4 (fun k hk => by cases hk; omega)) ⟨[p0, p1, p2, p3, p4, p5], _, rfl, (ksRf (ksA d)).mv hy'.out (hm.less fun b hb => by simp [hb]), hks'.out.mv (hm2.less fun b hb => by simp [hb]), hl⟩

end Go.Proofs.Ytnndacgokehkpaa
