/- value.List over trees; impl.toList, fromValue, ListItems, ListAt. -/
import Derived.Test.YtmihdlbcjiaibaaRange
namespace Go.Proofs.Ytmihdlbcjiaibaa
open Go.RowKit

/-- v (of type value.List) is a list of the trees ts -/
structure IsLst (w : World) (X : List Nat) (v : Value) (ts : List T) : Prop where
  ex : ∃ s, v = .iface 269 s ∧ IsTs w X s ts

theorem IsLst.mv {a b : World} {X Y : List Nat} {v : Value} {ts : List T} (h : IsLst a X v ts) (hm : Mv a X b Y) : IsLst b Y v ts := by
  obtain ⟨s, e, h1⟩ := h.ex
  exact ⟨s, e, h1.mv hm⟩

set_option maxRecDepth 100000 in
set_option maxHeartbeats 1000000 in
theorem asListUsing_c {w w0 : World} {X : List Nat} {x al : Value} {ts : List T} (hx : IsT w0 X x (.list ts)) (hm : Mv w0 X w X) (R : Ending → World → Prop) (hR : ∀ w' v, Ext w w' → IsLst w' X v ts → R (.returned v) w') :
    Calls Try.prog 142 #[.agg #[x], al] w R := by
  obtain ⟨s, rfl, hs⟩ := hx.inv_list
  obtain ⟨b, off, c, rfl, -⟩ := id hs.ex
  have hs' := Lib.hid hs
  have hR' := Lib.hid hR
  clear hR hs hx
  go_enter Try.func142, Try.ntmps142
  go_wp2_with fail
  exact hR'.out _ _ (.alloc _ _) ⟨_, rfl, hs'.out.mv (hm.ext (.alloc _ _))⟩

set_option maxRecDepth 100000 in
set_option maxHeartbeats 1000000 in
theorem asList_c {w : World} {X : List Nat} {x : Value} {ts : List T} (hx : IsT w X x (.list ts)) (R : Ending → World → Prop) (hR : ∀ w' v, Ext w w' → IsLst w' X v ts → R (.returned v) w') :
    Calls Try.prog 141 #[.agg #[x]] w R := by
  have hone := hx.one
  have hx' := Lib.hid hx
  have hR' := Lib.hid hR
  clear hR hx
  go_enter Try.func141, Try.ntmps141
  go_wp2_with fail
  refine asListUsing_c hx'.out (((Ext.alloc _ _).push _).mv X) _ ?_
  intro w1 v hE hv
  dsimp only
  go_wp2_with fail
  exact hR'.out _ _ (((Ext.alloc _ _).push _).trans hE) hv

set_option maxRecDepth 100000 in
set_option maxHeartbeats 1000000 in
theorem allocRange_c {w : World} {p : Value} (R : Ending → World → Prop) (hR : ∀ w' rb ib, Ext w w' → w.heap.size ≤ rb → w.heap.size ≤ ib → rb ≠ ib → w'.heap[rb]? = some (.cells #[.slice none 0 0, .pointer (some ⟨ib, 0, none⟩), .int .i64 0] 289 (0, 0)) →
      w'.heap[ib]? = some (.cells #[.nilIface] 204 (0, 0)) → R (.returned (.pointer (some ⟨rb, 0, none⟩))) w') :
    Calls Try.prog 183 #[p] w R := by
  have hR' := Lib.hid hR
  clear hR
  go_enter Try.func183, Try.ntmps183
  go_wp2_with fail
  refine abs2 (G := fun wr => R _ wr) ?_
  intro w1 hE1 hb1 hb2 hs1
  refine hR'.out _ _ _ hE1 ?_ ?_ ?_ hb2 hb1
  all_goals omega

set_option maxRecDepth 100000 in
set_option maxHeartbeats 1000000 in
theorem rangeUsing_c {w : World} {X : List Nat} {s : Value} {ts : List T} {hb : Nat} (hs : IsTs w X s ts) (hX : Old X w) (R : Ending → World → Prop)
    (hR : ∀ w' v B, Ext w w' → IsRange w' X v ts 0 B → (∀ b ∈ B, w.heap.size ≤ b) → R (.returned v) w') :
    Calls Try.prog 163 #[s, .iface 177 (.pointer (some ⟨hb, 0, none⟩))] w R := by
  obtain ⟨b, off, c, rfl, l2, l3, l4, l5⟩ := id hs.ex
  have hs' := Lib.hid hs
  have hR' := Lib.hid hR
  have hX' := Lib.hid hX
  clear hR hs hX
  by_cases hl : ts.length = 0
  · have hl' : ((ts.length : Int) == 0) = true := by simpa using hl
    have hnil : ts = [] := List.eq_nil_of_length_eq_zero hl
    have hnil' := Lib.hid hnil
    clear hnil l4 l5 hl
    go_enter Try.func163, Try.ntmps163
    go_wp2_with fail
    refine hR'.out _ _ [] (.alloc _ _) ?_ (by simp)
    rw [hnil'.out]
    exact .empty _ _
  · have hl' : ((ts.length : Int) == 0) = false := by rw [beq_eq_false_iff_ne]; omega
    clear l4 l5 hl
    go_enter Try.func163, Try.ntmps163
    go_wp2_with fail
    refine allocRange_c _ ?_
    intro w1 rb ib hE1 hrb hib hne h1 h2
    dsimp only
    go_wp2_with (first | (refine wpL_store1 rfl _ _ _ rfl Try.info269 (p := ⟨rb, 0, none⟩) (v := .slice (some ⟨b, off, none⟩) ts.length c) rfl rfl rfl (by rw [cells_of h1 0]; rfl) (frozen_of_row _ _ _ _ _ h1) ?_; obtain ⟨hh3, hg3, hs3⟩ := set_facts (off := 0) (.slice (some ⟨b, off, none⟩) ts.length c) h1; generalize w1.setCell ⟨rb, 0, none⟩ (.slice (some ⟨b, off, none⟩) ts.length c) = w3 at hh3 hg3 hs3 ⊢) | (refine wpL_store1 rfl _ _ _ rfl Try.info3 (p := ⟨rb, 2, none⟩) (v := .int .i64 (-1)) rfl rfl rfl (by rw [cells_of hh3 2]; rfl) (frozen_of_row _ _ _ _ _ hh3) ?_; obtain ⟨hh4, hg4, hs4⟩ := set_facts (off := 2) (.int .i64 (-1)) hh3; generalize w3.setCell ⟨rb, 2, none⟩ (.int .i64 (-1)) = w4 at hh4 hg4 hs4 ⊢))
    have hM : Mut w1 [rb] w4 := (grown_mut hg3 (by simp)).trans (grown_mut hg4 (by simp))
    have hE4 : Ext w w4 := hE1.mutated hM (by simpa using hrb)
    refine hR'.out _ _ [rb, ib] hE4 (.list (v := .slice (some ⟨b, off, none⟩) ts.length c) (x := .nilIface) hh4 ?_ hne (fun h => by have := hX'.out _ h; omega) (fun h => by have := hX'.out _ h; omega) ?_) (by simp; omega)
    · exact (hM.block _ (Array.getElem?_eq_some_iff.1 h2).1 (by simpa using fun e => hne (e.symm))).trans h2
    · exact hs'.out.mv (((hE4.mv X).more hib).more hrb)

set_option maxRecDepth 100000 in
set_option maxHeartbeats 1000000 in
theorem range_c {w : World} {X : List Nat} {s : Value} {ts : List T} (hs : IsTs w X s ts) (hX : Old X w) (R : Ending → World → Prop)
    (hR : ∀ w' v B, Ext w w' → IsRange w' X v ts 0 B → (∀ b ∈ B, w.heap.size ≤ b) → R (.returned v) w') :
    Calls Try.prog 162 #[s] w R := by
  have hs' := Lib.hid hs
  have hR' := Lib.hid hR
  have hX' := Lib.hid hX
  clear hR hs hX
  go_enter Try.func162, Try.ntmps162
  go_wp2_with fail
  refine rangeUsing_c (hs'.out.mv ((Ext.alloc _ _).mv X)) (hX'.out.le (by simp)) _ ?_
  intro w1 v B hE hv hB
  dsimp only
  go_wp2_with fail
  exact hR'.out _ _ B ((Ext.alloc _ _).trans hE) hv (fun b hb => by have := hB b hb; simp at this; omega)

set_option maxRecDepth 100000 in
set_option maxHeartbeats 1000000 in
theorem at_c {w : World} {X : List Nat} {s : Value} {ts : List T} {n : Nat} (hs : IsTs w X s ts) (hX : Old X w) (hn : n < ts.length) (R : Ending → World → Prop) (hR : ∀ w' v, Ext w w' → IsVal w' X v (ts[n]) → R (.returned v) w') :
    Calls Try.prog 157 #[s, .int .i64 n] w R := by
  obtain ⟨b, off, c, rfl, l2, l3, l4, l5⟩ := id hs.ex
  obtain ⟨x, q0, hx⟩ := l5 n hn
  have hx' := Lib.hid hx
  have hR' := Lib.hid hR
  have hX' := Lib.hid hX
  clear hR hs hX l4 l5 hx
  go_enter Try.func157, Try.ntmps157
  go_wp2_with fail
  refine newValue_c hx'.out hX'.out _ ?_
  intro w1 v hE hv
  dsimp only
  go_wp2_with fail
  exact hR'.out _ _ hE hv

set_option maxRecDepth 100000 in
set_option maxHeartbeats 1000000 in
theorem toList_c {w : World} {X : List Nat} {o : Option Addr} {c : Nat} {l : List V} (hl : IsVs w X (.slice o l.length c) l) (hX : Old X w) (R : Ending → World → Prop) (hR : ∀ w' v, Ext w w' → IsLst w' X v (V.plainL l) → R (.returned v) w') :
    Calls Try.prog 45 #[.slice o l.length c] w R := by
  have hl' := Lib.hid hl
  have hR' := Lib.hid hR
  have hX' := Lib.hid hX
  clear hR hl hX
  go_enter Try.func45, Try.ntmps45
  go_wp2_with fail
  refine toValue_c (cs := [.int .i64 5, .int .i64 0, .float .f64 0, .string ⟨#[]⟩, .slice none 0 0, .slice o l.length c]) (IsV.of (by decide) (by decide) (by decide) (by decide) (IsStrs.nil _ _) hl'.out) hX'.out _ ?_
  intro w1 y hE1 hy
  rw [plain_5] at hy
  obtain ⟨vb, x, rfl, h2, h3, h4⟩ := hy.ex
  have c0 := cells_of h2 0
  have h4' := Lib.hid h4
  clear h4 hy
  dsimp only
  go_wp2_with fail
  refine asList_c h4'.out _ ?_
  intro w2 v hE2 hv
  dsimp only
  go_wp2_with fail
  exact hR'.out _ _ (hE1.trans hE2) hv

/-- a new block, and whatever further ones -/
theorem ext_new {w w1 : World} {o1 : Obj} (h : Ext (w.alloc o1) w1) : Ext w w1 ∧ w1.heap[w.heap.size]? = some o1 ∧ w.heap.size + 1 ≤ w1.heap.size :=
  ⟨(Ext.alloc _ _).trans h, (h.below.block _ (by simp)).trans (by show (w.heap.push _)[_]? = _; rw [push_get, if_pos rfl]), by have := h.size; simpa using this⟩

set_option maxRecDepth 100000 in
set_option maxHeartbeats 1000000 in
theorem unstructured_c {w : World} {x : Value} (R : Ending → World → Prop) (hR : ∀ w', Ext w w' → R (.returned x) w') :
    Calls Try.prog 153 #[.agg #[x]] w R := by
  have hR' := Lib.hid hR
  clear hR
  go_enter Try.func153, Try.ntmps153
  go_wp2_with fail
  exact hR'.out _ (.alloc _ _)

set_option maxRecDepth 100000 in
set_option maxHeartbeats 1000000 in
theorem fromValue_cells {w : World} {X : List Nat} {vb : Nat} {x : Value} {t : T} (h2 : w.heap[vb]? = some (.cells #[x] 204 (0, 0))) (h4 : IsT w X x t) (hX : Old X w) (R : Ending → World → Prop)
    (hR : ∀ w' cs, Ext w w' → IsV w' X cs t.back → R (.returned (.agg cs.toArray)) w') :
    Calls Try.prog 46 #[.iface 176 (.pointer (some ⟨vb, 0, none⟩))] w R := by
  have hvb := (Array.getElem?_eq_some_iff.1 h2).1
  have c0 := cells_of h2 0
  have h4' := Lib.hid h4
  have hR' := Lib.hid hR
  have hX' := Lib.hid hX
  clear hR hX h4
  go_enter Try.func46, Try.ntmps46
  go_wp2_with fail
  refine unstructured_c _ ?_
  intro w1 hE1
  obtain ⟨hE1, hb1, hs1⟩ := ext_new hE1
  dsimp only
  go_wp2_with fail
  refine fromTree_c t _ (w.heap.size :: X) x (h4'.out.mv ((hE1.mv X).more (Nat.le_refl _))) (.cons (by omega) (Old.le hX'.out hE1.size)) _ ?_
  intro w2 cs hE2 hy
  obtain ⟨y, rfl⟩ := hy.shape
  have hy' := Lib.hid hy
  clear hy
  have hb2 : w2.heap[w.heap.size]? = _ := (hE2.below.block _ (by omega)).trans hb1
  dsimp only
  simp only [Cells6.list]
  go_wp2_with (refine wpL_storeRow (cells := #[Value.int .i64 y.kind, .int .i64 y.n, .float .f64 y.f, .string y.s, .slice y.ko y.kn y.kc, .slice y.o y.m y.c]) rfl _ _ _ rfl Try.size28 rfl rfl hb2 rfl (by simp [Value.oneCell']) ?_; intro w3 hh3 hg3)
  go_simp
  have z0 : w3.cell? ⟨w.heap.size, 0, none⟩ = some (.int .i64 y.kind) := cells_of hh3 0
  have z1 : w3.cell? ⟨w.heap.size, 1, none⟩ = some (.int .i64 y.n) := cells_of hh3 1
  have z2 : w3.cell? ⟨w.heap.size, 2, none⟩ = some (.float .f64 y.f) := cells_of hh3 2
  have z3 : w3.cell? ⟨w.heap.size, 3, none⟩ = some (.string y.s) := cells_of hh3 3
  have z4 : w3.cell? ⟨w.heap.size, 4, none⟩ = some (.slice y.ko y.kn y.kc) := cells_of hh3 4
  have z5 : w3.cell? ⟨w.heap.size, 5, none⟩ = some (.slice y.o y.m y.c) := cells_of hh3 5
  refine bodyPost_ret (by simp [results, Try.results46, go_sem, z0, z1, z2, z3, z4, z5]; try rfl) rfl ?_
  exact hR'.out w3 y.list ((hE1.trans hE2).grown hg3 (fun j hj => by simp at hj; omega)) ((hy'.out.mv ((Mv.refl _ _).grown hg3 (fun j hj => by cases hj; simp))).mv ((Mv.refl _ _).less fun b hb => by simp [hb]))

theorem fromValue_c {w : World} {X : List Nat} {v : Value} {t : T} (hv : IsVal w X v t) (hX : Old X w) (R : Ending → World → Prop) (hR : ∀ w' cs, Ext w w' → IsV w' X cs t.back → R (.returned (.agg cs.toArray)) w') :
    Calls Try.prog 46 #[v] w R := by
  obtain ⟨vb, x, rfl, h2, h3, h4⟩ := hv.ex
  exact fromValue_cells h2 h4 hX R hR

theorem Row.mut {α : Type} {k : Kind α} {e : TypeId} {w w' : World} {X B : List Nat} {v : Value} {us : List α} (h : Row k e w X v us) (m : Mut w B w') (hB : ∀ b ∈ B, b ∈ X) : Row k e w' X v us := by
  obtain ⟨rows, h1, h2, h3⟩ := h.ex
  exact ⟨rows, h1.keep fun g hg => m.block g (h1.lt hg) (fun hb => h3 g hg (hB g hb)), h2.imp fun _ _ h => k.mv h (m.mv fun b hb => List.mem_append_right _ (hB b hb)), h3⟩

set_option maxRecDepth 100000 in
set_option maxHeartbeats 4000000 in
set_option pp.maxSteps 1000000 in
set_option pp.deepTerms true in
theorem listItems_c {w : World} {X : List Nat} {o : Option Addr} {c : Nat} {l : List V} (hl : IsVs w X (.slice o l.length c) l) (hX : Old X w) (R : Ending → World → Prop) (hR : ∀ w' v, Ext w w' → IsVs w' X v (V.cleanL l) → R (.returned v) w') :
    Calls Try.prog 16 #[.slice o l.length c] w R := by
  obtain ⟨_, _, _, _, e, -, h88, -⟩ := id hl.ex
  cases e
  have hback : (V.plainL l).map T.back = V.cleanL l := by
    rw [V.plainL_eq, V.cleanL_eq, List.map_map]
    exact List.map_congr_left fun v _ => back_plain v
  have hlen : (V.plainL l).length = l.length := plainL_length l
  obtain ⟨ts, hts⟩ : ∃ ts, V.plainL l = ts := ⟨_, rfl⟩
  rw [hts] at hback hlen
  have hl' := Lib.hid hl
  have hR' := Lib.hid hR
  have hX' := Lib.hid hX
  have hback' := Lib.hid hback
  have hlen' := Lib.hid hlen
  have hts' := Lib.hid hts
  clear hR hl hX hback hlen hts
  go_enter Try.func16, Try.ntmps16
  go_wp2_with fail
  refine toList_c hl'.out hX'.out _ ?_
  intro w1 lv hE1 hlv
  rw [hts'.out] at hlv
  obtain ⟨s, rfl, hs⟩ := hlv.ex
  have hs' := Lib.hid hs
  clear hs hlv
  dsimp only
  go_wp2_with fail
  refine range_c hs'.out (hX'.out.le hE1.size) _ ?_
  intro w2 rv B hE2 hr hB
  have hE := hE1.trans hE2
  dsimp only
  cases hr with
  | empty b n =>
    have hcl := hback'.out
    have hcl' := Lib.hid hcl
    clear hcl
    go_wp2_with fail
    go_loopw [3] (fun v wr => v = .slice none 0 0 ∧ Ext w wr) (fun _ _ => 0)
    case atStart => exact ⟨rfl, hE⟩
    case round =>
      obtain ⟨rfl, hEr⟩ := hrel
      go_wp2_with fail
      refine emptyNext_c _ ?_
      dsimp only
      go_wp2_with fail
      refine hR'.out _ _ hEr ?_
      rw [← hcl'.out]
      exact IsVs.nil _ _
  | @list rb ib _ sv x _ h1 h2 hne hx1 hx2 h3 =>
    have hBr : w.heap.size ≤ rb := by have := hB rb (by simp); have := hE1.size; omega
    have hBi : w.heap.size ≤ ib := by have := hB ib (by simp); have := hE1.size; omega
    have hr0 : IsRange w2 X (.iface 287 (.pointer (some ⟨rb, 0, none⟩))) ts 0 [rb, ib] := .list h1 h2 hne hx1 hx2 h3
    have hr0' := Lib.hid hr0
    clear hr0 h1 h2 h3 hB
    go_wp2_with fail
    go_loopw [3] (fun v wr => ∃ n, n ≤ ts.length ∧ Ext w wr ∧ (∀ g, v.ownBlock = some g → w.heap.size ≤ g) ∧ Row kV 28 wr (rb :: ib :: X) v ((ts.take n).map T.back) ∧ sliceLen v = n ∧
        Hid (IsRange wr (vb v ++ X) (.iface 287 (.pointer (some ⟨rb, 0, none⟩))) ts n [rb, ib])) (fun v _ => ts.length - sliceLen v)
    case atStart => exact ⟨0, Nat.zero_le _, hE, fun g hg => by simp [Value.ownBlock] at hg, Row.nil _ _ _ _, rfl, hr0'⟩
    case round =>
      obtain ⟨n, hn, hEr, hgv, hrow, hsl, hrg⟩ := hrel
      have hsl' := Lib.hid hsl
      clear hsl
      have hrg1 := hrg.out
      cases hrg1 with
      | @list _ _ _ sv x _ h1 h2 _ hx1 hx2 h3 =>
      have h1' := Lib.hid h1
      have h2' := Lib.hid h2
      have h3' := Lib.hid h3
      clear h1 h2 h3
      go_wp2_with fail
      refine rangeNext_c h1'.out h2'.out hne hx1 hx2 h3'.out hn _ ?_
      intro w3 hM3 hr3
      have hrow3 := hrow.mut hM3 (by simp)
      have hE3 : Ext w w3 := hEr.mutated hM3 (by simp; omega)
      by_cases hlt : n < ts.length
      · have hd : decide (n < ts.length) = true := by simpa using hlt
        rw [hd]
        clear hd
        cases hr3 with
        | @list _ _ _ sv3 x3 _ h1 h2 _ hx1 hx2 h3 =>
        have h1'' := Lib.hid h1
        have h2'' := Lib.hid h2
        have h3'' := Lib.hid h3
        clear h1 h2 h3
        dsimp only
        go_wp2_with fail
        refine rangeItem_c h1''.out h2''.out hne hx1 hx2 h3''.out hlt _ ?_
        intro w4 y hM4 hr4 hy2 hy
        have hrow4 := hrow3.mut hM4 (by simp)
        have hE4 : Ext w w4 := hE3.mutated hM4 (by simp; omega)
        have hXX : Old (rb :: ib :: X) w4 := .cons (by have := (Array.getElem?_eq_some_iff.1 h1''.out).1; have := hM4.size; omega) (.cons (by have := (Array.getElem?_eq_some_iff.1 h2''.out).1; have := hM4.size; omega) (hX'.out.le hE4.size))
        have hy' := Lib.hid hy
        have hr4' := Lib.hid hr4
        have hy2' := Lib.hid hy2
        clear hy hr4 hy2
        dsimp only
        go_wp2_with fail
        refine fromValue_cells (X := vb u3 ++ (rb :: ib :: X)) hy2'.out (hy'.out.mv ((Mv.refl _ _).less fun b hb => ?_)) (hrow4.old hXX) _ ?_
        · simp only [List.mem_append, List.mem_cons] at hb ⊢
          rcases hb with h | h | h | h <;> simp [h]
        intro w5 cs hE5 hz
        obtain ⟨z, rfl⟩ := hz.shape
        have hz' := Lib.hid hz
        clear hz
        have hlk : ((ts.take n).map T.back).length = n := by rw [List.length_map, List.length_take]; omega
        have hb3 : ((ts.take n).map T.back).length + 1 ≤ l.length := by rw [hlk, ← hlen'.out]; omega
        have hb4 : (((ts.take n).map T.back).length + 1) * 88 ≤ 140737488355328 := Nat.le_trans (Nat.mul_le_mul_right 88 hb3) (Nat.le_trans h88 (by decide))
        have hb5 : ((ts.take n).map T.back).length + 1 ≤ maxLen := by rw [maxLen_eq]; omega
        have hlk' := Lib.hid hlk
        clear hlk
        simp only [Cells6.list]
        go_wp2_with (at_builtin; refine wpL_rowApp (c := z.list.toArray) rfl hrow4 hE5 (hXX.le hE5.size) hz'.out _ _ _ rfl Try.underlying26 Try.info28 rfl (by decide) rfl rfl hb4 hb5 ?_; intro v' w6 hrow6 hg6 hne6 hd6)
        go_roundw
        case rel =>
          have hvn : ∀ g, v'.ownBlock = some g → w.heap.size ≤ g := fun g hg => by
            rcases hd6 g hg with h | h
            · exact hgv g h
            · have := hE4.size; have := hE5.size; omega
          have e : (ts.take (n + 1)).map T.back = (ts.take n).map T.back ++ [(ts[n]).back] := by
            rw [List.take_succ_eq_append_getElem hlt, List.map_append, List.map_singleton]
          refine ⟨n + 1, by omega, (hE4.trans hE5).grown hg6 hgv, hvn, e ▸ hrow6, ?_, ?_⟩
          · obtain ⟨rows, h1, _⟩ := hrow6.ex
            rw [h1.sliceLen, List.length_append, hlk'.out]
            rfl
          · have hr5 := hr4'.out
            cases hr5 with
            | @list _ _ _ sv5 x5 _ h1 h2 _ hx1 hx2 h3 =>
            have hmv := (hE5.mv (vb u3 ++ X)).trans (Mv.app (Z := X) hg6 hd6)
            have hrb := hmv.block rb (Array.getElem?_eq_some_iff.1 h1).1 hx1
            have hib := hmv.block ib (Array.getElem?_eq_some_iff.1 h2).1 hx2
            refine .list (v := sv5) (x := x5) (hrb.1.trans h1) (hib.1.trans h2) hne hrb.2 hib.2 ?_
            have hmv2 := (hE5.mv (vb u3 ++ (rb :: ib :: X))).trans (Mv.app (Z := rb :: ib :: X) hg6 hd6)
            refine ((h3.mv ((Mv.refl _ _).less fun b hb => ?_)).mv hmv2).mv ((Mv.refl _ _).less fun b hb => ?_)
            · simp only [List.mem_append, List.mem_cons] at hb ⊢
              rcases hb with h | h | h | h <;> simp [h]
            · simp only [List.mem_append, List.mem_cons] at hb ⊢
              rcases hb with h | h | h | h <;> simp [h]
        case measure =>
          obtain ⟨rows, h1, _⟩ := hrow6.ex
          rw [hsl'.out, h1.sliceLen, List.length_append, hlk'.out]
          simp
          omega
      · have hd : decide (n < ts.length) = false := by simpa using hlt
        rw [hd]
        have en : n = ts.length := by omega
        have en' := Lib.hid en
        clear hd en
        dsimp only
        go_wp2_with fail
        refine hR'.out _ _ hE3 ?_
        rw [List.take_of_length_le (by have := en'.out; omega), hback'.out] at hrow3
        exact (hrow3.less (by intro b hb; simp [hb])).isVs (by rw [V.cleanL_eq, List.length_map]; exact h88)

end Go.Proofs.Ytmihdlbcjiaibaa
