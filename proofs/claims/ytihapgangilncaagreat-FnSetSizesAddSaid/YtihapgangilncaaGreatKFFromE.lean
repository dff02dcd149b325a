/- impl.fromElem: a path element taken back. -/
import Derived.Test.YtihapgangilncaaGreatKFRowS
namespace Go.Proofs.YtihapgangilncaaGreat
open Go.RowKit
set_option linter.unusedSimpArgs false

/-- what fromElem yields -/
def backE : PEl → EL
  | .field s => ⟨0, s, [], [], vzero, 0⟩
  | .key fs => ⟨1, ⟨#[]⟩, fs.map (·.1), fs.map (fun p => p.2.back), vzero, 0⟩
  | .value t => ⟨2, ⟨#[]⟩, [], [], t.back, 0⟩
  | .index n => ⟨3, ⟨#[]⟩, [], [], vzero, n⟩
/-- a key whose values fit into one list of impl.Value -/
def SmallPe : PEl → Prop
  | .key fs => fs.length * 88 ≤ 140737488351232
  | _ => True

/-- a row stays where another row grows -/
theorem Row.other {α : Type} {k : Kind α} {e : TypeId} {w w' : World} {X : List Nat} {v u u' : Value} {us : List α} (h : Row k e w (vb u ++ X) v us) (hg : w.grownBy w' u.ownBlock) (hd : ∀ g, u'.ownBlock = some g → u.ownBlock = some g ∨ w.heap.size ≤ g) : Row k e w' (vb u' ++ X) v us := by
  obtain ⟨rows, h1, h2, h3⟩ := h.ex
  refine ⟨rows, h1.keep fun g hv => hg.block g (h1.lt hv) (fun e => h3 g hv (by simp [vb, ← e])), h2.imp fun _ _ h => k.mv h ?_, fun g hv hm => ?_⟩
  · have e1 : Mv w (vb v ++ (vb u ++ X)) w (vb u ++ (vb v ++ X)) := (Mv.refl _ _).less fun b hb => by simp only [List.mem_append] at hb ⊢; rcases hb with h | h | h <;> simp [h]
    exact (e1.trans (Mv.app hg hd)).less fun b hb => by simp only [List.mem_append] at hb ⊢; rcases hb with h | h | h <;> simp [h]
  · rcases List.mem_append.1 hm with hm | hm
    · have hu : u'.ownBlock = some g := by simpa [vb] using hm
      rcases hd g hu with h | h
      · exact h3 g hv (by simp [vb, h])
      · have := h1.lt hv; omega
    · exact h3 g hv (by simp [hm])

set_option maxRecDepth 100000 in
set_option maxHeartbeats 4000000 in
set_option pp.maxSteps 1000000 in
set_option pp.deepTerms true in
theorem fromElem_field {w : World} {X : List Nat} {cs : List Value} {s : ByteArray} (he : kPe.is w X cs (.field s)) (R : Ending → World → Prop)
    (hR : ∀ w' cs', Ext w w' → kEl.is w' X cs' (backE (.field s)) → R (.returned (.agg cs'.toArray)) w') : Calls Tryz.prog 89 #[.agg cs.toArray] w R := by
  obtain ⟨_, rfl, pa, oa, us, rfl, hbX, hbl, hc, hk⟩ := he
  have hR' := Lib.hid hR
  obtain ⟨rfl, hsz⟩ := id hk
  have ga := hc 0 (by decide)
  simp only [Nat.add_zero, List.getElem?_cons_zero] at ga
  have hsz' := Lib.hid hsz
  clear hR hc hk hsz
  go_enter Tryz.func89, Tryz.ntmps89
  go_upto_if 6 with (fail)
  refine abs2 (G := Code.wp _ _ _ _) ?_
  intro w1 hE1 hb1 hb2 hs1
  have hl1 : w.heap.size + 1 < w1.heap.size := by omega
  clear hs1
  have e0 : w1.cell? ⟨w.heap.size, 0, none⟩ = some (.pointer (some ⟨pa, oa, none⟩)) := cells_of hb1 0; have e1 : w1.cell? ⟨w.heap.size, 1, none⟩ = some (.pointer none) := cells_of hb1 1; have e2 : w1.cell? ⟨w.heap.size, 2, none⟩ = some (.pointer none) := cells_of hb1 2; have e3 : w1.cell? ⟨w.heap.size, 3, none⟩ = some (.pointer none) := cells_of hb1 3
  replace ga := hE1.keep ga
  clear hb1
  go_wp2_with (refine wpL_storeRow (cells := #[.int .i64 0, .string s, .slice none 0 0, .slice none 0 0, .int .i64 0, .int .i64 0, .float .f64 0, .string ⟨#[]⟩, .slice none 0 0, .slice none 0 0, .int .i64 0]) rfl 47 _ _ rfl Tryz.size47 rfl rfl hb2 rfl (by simp [Value.oneCell']) ?_; intro w4 h4 g4)
  have z0 : w4.cell? ⟨w.heap.size + 1, 0, none⟩ = some (.int .i64 0) := cells_of h4 0; have z1 : w4.cell? ⟨w.heap.size + 1, 1, none⟩ = some (.string s) := cells_of h4 1; have z2 : w4.cell? ⟨w.heap.size + 1, 2, none⟩ = some (.slice none 0 0) := cells_of h4 2; have z3 : w4.cell? ⟨w.heap.size + 1, 3, none⟩ = some (.slice none 0 0) := cells_of h4 3; have z4 : w4.cell? ⟨w.heap.size + 1, 4, none⟩ = some (.int .i64 0) := cells_of h4 4; have z5 : w4.cell? ⟨w.heap.size + 1, 5, none⟩ = some (.int .i64 0) := cells_of h4 5; have z6 : w4.cell? ⟨w.heap.size + 1, 6, none⟩ = some (.float .f64 0) := cells_of h4 6; have z7 : w4.cell? ⟨w.heap.size + 1, 7, none⟩ = some (.string ⟨#[]⟩) := cells_of h4 7; have z8 : w4.cell? ⟨w.heap.size + 1, 8, none⟩ = some (.slice none 0 0) := cells_of h4 8; have z9 : w4.cell? ⟨w.heap.size + 1, 9, none⟩ = some (.slice none 0 0) := cells_of h4 9; have z10 : w4.cell? ⟨w.heap.size + 1, 10, none⟩ = some (.int .i64 0) := cells_of h4 10
  refine bodyPost_ret (by simp [results, Tryz.results89, go_sem, z0, z1, z2, z3, z4, z5, z6, z7, z8, z9, z10]; try rfl) rfl ?_
  have hE : Ext w w4 := hE1.grown g4 (fun j hj => by cases hj; omega)
  exact hR'.out w4 _ hE ⟨_, _, _, rfl, (show (Lit.int .i64 0).wf = true by decide), (show (Lit.int .i64 0).wf = true by decide), hsz'.out, IsStrs.nil _ _, IsVs.nil _ _, vzero_is _ _⟩

set_option maxRecDepth 100000 in
set_option maxHeartbeats 4000000 in
set_option pp.maxSteps 1000000 in
set_option pp.deepTerms true in
theorem fromElem_index {w : World} {X : List Nat} {cs : List Value} {n : Int} (he : kPe.is w X cs (.index n)) (R : Ending → World → Prop)
    (hR : ∀ w' cs', Ext w w' → kEl.is w' X cs' (backE (.index n)) → R (.returned (.agg cs'.toArray)) w') : Calls Tryz.prog 89 #[.agg cs.toArray] w R := by
  obtain ⟨_, rfl, pa, oa, us, rfl, hbX, hbl, hc, hk⟩ := he
  have hR' := Lib.hid hR
  obtain ⟨rfl, hsz⟩ := id hk
  have ga := hc 0 (by decide)
  simp only [Nat.add_zero, List.getElem?_cons_zero] at ga
  have hsz' := Lib.hid hsz
  clear hR hc hk hsz
  go_enter Tryz.func89, Tryz.ntmps89
  go_upto_if 6 with (fail)
  refine abs2 (G := Code.wp _ _ _ _) ?_
  intro w1 hE1 hb1 hb2 hs1
  have hl1 : w.heap.size + 1 < w1.heap.size := by omega
  clear hs1
  have e0 : w1.cell? ⟨w.heap.size, 0, none⟩ = some (.pointer none) := cells_of hb1 0; have e1 : w1.cell? ⟨w.heap.size, 1, none⟩ = some (.pointer none) := cells_of hb1 1; have e2 : w1.cell? ⟨w.heap.size, 2, none⟩ = some (.pointer none) := cells_of hb1 2; have e3 : w1.cell? ⟨w.heap.size, 3, none⟩ = some (.pointer (some ⟨pa, oa, none⟩)) := cells_of hb1 3
  replace ga := hE1.keep ga
  clear hb1
  go_wp2_with (refine wpL_storeRow (cells := #[.int .i64 3, .string ⟨#[]⟩, .slice none 0 0, .slice none 0 0, .int .i64 0, .int .i64 0, .float .f64 0, .string ⟨#[]⟩, .slice none 0 0, .slice none 0 0, .int .i64 n]) rfl 47 _ _ rfl Tryz.size47 rfl rfl hb2 rfl (by simp [Value.oneCell']) ?_; intro w4 h4 g4)
  have z0 : w4.cell? ⟨w.heap.size + 1, 0, none⟩ = some (.int .i64 3) := cells_of h4 0; have z1 : w4.cell? ⟨w.heap.size + 1, 1, none⟩ = some (.string ⟨#[]⟩) := cells_of h4 1; have z2 : w4.cell? ⟨w.heap.size + 1, 2, none⟩ = some (.slice none 0 0) := cells_of h4 2; have z3 : w4.cell? ⟨w.heap.size + 1, 3, none⟩ = some (.slice none 0 0) := cells_of h4 3; have z4 : w4.cell? ⟨w.heap.size + 1, 4, none⟩ = some (.int .i64 0) := cells_of h4 4; have z5 : w4.cell? ⟨w.heap.size + 1, 5, none⟩ = some (.int .i64 0) := cells_of h4 5; have z6 : w4.cell? ⟨w.heap.size + 1, 6, none⟩ = some (.float .f64 0) := cells_of h4 6; have z7 : w4.cell? ⟨w.heap.size + 1, 7, none⟩ = some (.string ⟨#[]⟩) := cells_of h4 7; have z8 : w4.cell? ⟨w.heap.size + 1, 8, none⟩ = some (.slice none 0 0) := cells_of h4 8; have z9 : w4.cell? ⟨w.heap.size + 1, 9, none⟩ = some (.slice none 0 0) := cells_of h4 9; have z10 : w4.cell? ⟨w.heap.size + 1, 10, none⟩ = some (.int .i64 n) := cells_of h4 10
  refine bodyPost_ret (by simp [results, Tryz.results89, go_sem, z0, z1, z2, z3, z4, z5, z6, z7, z8, z9, z10]; try rfl) rfl ?_
  have hE : Ext w w4 := hE1.grown g4 (fun j hj => by cases hj; omega)
  exact hR'.out w4 _ hE ⟨_, _, _, rfl, (show (Lit.int .i64 3).wf = true by decide), hsz'.out, Nat.zero_le _, IsStrs.nil _ _, IsVs.nil _ _, vzero_is _ _⟩

set_option maxRecDepth 100000 in
set_option maxHeartbeats 4000000 in
set_option pp.maxSteps 1000000 in
set_option pp.deepTerms true in
theorem fromElem_value {w : World} {X : List Nat} {cs : List Value} {t : T} (he : kPe.is w X cs (.value t)) (hX : Old X w) (R : Ending → World → Prop)
    (hR : ∀ w' cs', Ext w w' → kEl.is w' X cs' (backE (.value t)) → R (.returned (.agg cs'.toArray)) w') : Calls Tryz.prog 89 #[.agg cs.toArray] w R := by
  obtain ⟨_, rfl, pa, oa, us, rfl, hbX, hbl, hc, hk⟩ := he
  have hR' := Lib.hid hR
  have hX' := Lib.hid hX
  obtain ⟨tv, rfl, hval⟩ := id hk
  have ga := hc 0 (by decide)
  simp only [Nat.add_zero, List.getElem?_cons_zero] at ga
  have hval' := Lib.hid hval
  clear hR hX hc hk hval
  go_enter Tryz.func89, Tryz.ntmps89
  go_upto_if 6 with (fail)
  refine abs2 (G := Code.wp _ _ _ _) ?_
  intro w1 hE1 hb1 hb2 hs1
  have hl1 : w.heap.size + 1 < w1.heap.size := by omega
  clear hs1
  have e0 : w1.cell? ⟨w.heap.size, 0, none⟩ = some (.pointer none) := cells_of hb1 0; have e1 : w1.cell? ⟨w.heap.size, 1, none⟩ = some (.pointer none) := cells_of hb1 1; have e2 : w1.cell? ⟨w.heap.size, 2, none⟩ = some (.pointer (some ⟨pa, oa, none⟩)) := cells_of hb1 2; have e3 : w1.cell? ⟨w.heap.size, 3, none⟩ = some (.pointer none) := cells_of hb1 3
  replace ga := hE1.keep ga
  clear hb1
  go_wp2_with fail
  refine fromValue_c (X := (w.heap.size + 1) :: X) (hval'.out.mv ((hE1.mv X).more (by omega))) (.cons hl1 (hX'.out.le hE1.size)) _ ?_
  intro w2 ys hE2 hy
  obtain ⟨y, rfl⟩ := hy.shape
  have hone : ∀ u ∈ y.list, u.oneCell' = true := fun u hu => by
    simp only [Cells6.list, List.mem_cons, List.not_mem_nil, or_false] at hu
    rcases hu with rfl | rfl | rfl | rfl | rfl | rfl <;> rfl
  have hy' := Lib.hid hy
  have hb3 := (hE2.below.block _ hl1).trans hb2
  clear hy hb2 e0 e1 e2 e3 ga
  simp only [Cells6.list] at hy' hone ⊢
  go_wp2_with (refine wpL_storeRow (cells := #[.int .i64 2, .string ⟨#[]⟩, .slice none 0 0, .slice none 0 0, .int .i64 y.kind, .int .i64 y.n, .float .f64 y.f, .string y.s, .slice y.ko y.kn y.kc, .slice y.o y.m y.c, .int .i64 0]) rfl 47 _ _ rfl Tryz.size47 rfl rfl hb3 rfl (by simp [Value.oneCell']) ?_; intro w4 h4 g4)
  have z0 : w4.cell? ⟨w.heap.size + 1, 0, none⟩ = some (.int .i64 2) := cells_of h4 0; have z1 : w4.cell? ⟨w.heap.size + 1, 1, none⟩ = some (.string ⟨#[]⟩) := cells_of h4 1; have z2 : w4.cell? ⟨w.heap.size + 1, 2, none⟩ = some (.slice none 0 0) := cells_of h4 2; have z3 : w4.cell? ⟨w.heap.size + 1, 3, none⟩ = some (.slice none 0 0) := cells_of h4 3; have z4 : w4.cell? ⟨w.heap.size + 1, 4, none⟩ = some (.int .i64 y.kind) := cells_of h4 4; have z5 : w4.cell? ⟨w.heap.size + 1, 5, none⟩ = some (.int .i64 y.n) := cells_of h4 5; have z6 : w4.cell? ⟨w.heap.size + 1, 6, none⟩ = some (.float .f64 y.f) := cells_of h4 6; have z7 : w4.cell? ⟨w.heap.size + 1, 7, none⟩ = some (.string y.s) := cells_of h4 7; have z8 : w4.cell? ⟨w.heap.size + 1, 8, none⟩ = some (.slice y.ko y.kn y.kc) := cells_of h4 8; have z9 : w4.cell? ⟨w.heap.size + 1, 9, none⟩ = some (.slice y.o y.m y.c) := cells_of h4 9; have z10 : w4.cell? ⟨w.heap.size + 1, 10, none⟩ = some (.int .i64 0) := cells_of h4 10
  refine bodyPost_ret (by simp [results, Tryz.results89, go_sem, z0, z1, z2, z3, z4, z5, z6, z7, z8, z9, z10]; try rfl) rfl ?_
  have hE : Ext w w4 := (hE1.trans hE2).grown g4 (fun j hj => by cases hj; omega)
  have hm4 : Mv w2 ((w.heap.size + 1) :: X) w4 X := ((Mv.refl _ _).grown g4 (fun j hj => by cases hj; simp)).less (fun b hb => by simp [hb])
  exact hR'.out w4 [_, _, _, _, _, _, _, _, _, _, _] hE ⟨_, _, [_, _, _, _, _, _], rfl, (show (Lit.int .i64 2).wf = true by decide), (show (Lit.int .i64 0).wf = true by decide), Nat.zero_le _, IsStrs.nil _ _, IsVs.nil _ _, hy'.out.mv hm4⟩

set_option maxRecDepth 100000 in
set_option maxHeartbeats 4000000 in
set_option pp.maxSteps 1000000 in
set_option pp.deepTerms true in
theorem fromElem_key {w : World} {X : List Nat} {cs : List Value} {fs : EntsOfT T} (he : kPe.is w X cs (.key fs)) (hX : Old X w) (h88 : fs.length * 88 ≤ 140737488351232) (R : Ending → World → Prop)
    (hR : ∀ w' cs', Ext w w' → kEl.is w' X cs' (backE (.key fs)) → R (.returned (.agg cs'.toArray)) w') : Calls Tryz.prog 89 #[.agg cs.toArray] w R := by
  obtain ⟨_, rfl, pa, oa, us, rfl, hbX, hbl, hc, hk⟩ := he
  have hR' := Lib.hid hR
  have hX' := Lib.hid hX
  obtain ⟨fv, rfl, hfv⟩ := id hk
  have ga := hc 0 (by decide)
  simp only [Nat.add_zero, List.getElem?_cons_zero] at ga
  obtain ⟨o, c, b, off, rfl, l2, l3, l4, l5⟩ := id hfv.ex
  have l4' := Lib.hid l4
  have l5' := Lib.hid l5
  have h88' := Lib.hid h88
  have hnl : (fs.length : Int) ≤ 140737488351232 := by omega
  clear hR hX hc hk l4 l5 l2 l3 hfv h88
  go_enter Tryz.func89, Tryz.ntmps89
  go_upto_if 6 with (fail)
  refine abs2 (G := Code.wp _ _ _ _) ?_
  intro w1 hE1 hb1 hb2 hs1
  have hl1 : w.heap.size + 1 < w1.heap.size := by omega
  clear hs1
  have e0 : w1.cell? ⟨w.heap.size, 0, none⟩ = some (.pointer none) := cells_of hb1 0; have e1 : w1.cell? ⟨w.heap.size, 1, none⟩ = some (.pointer (some ⟨pa, oa, none⟩)) := cells_of hb1 1; have e2 : w1.cell? ⟨w.heap.size, 2, none⟩ = some (.pointer none) := cells_of hb1 2; have e3 : w1.cell? ⟨w.heap.size, 3, none⟩ = some (.pointer none) := cells_of hb1 3
  replace ga := hE1.keep ga
  clear hb1
  have hb2' := Lib.hid hb2
  clear hb2
  go_upto_region 5 with (first | (refine wpL_storeRow (cells := #[.int .i64 1, .string ⟨#[]⟩, .slice none 0 0, .slice none 0 0, .int .i64 0, .int .i64 0, .float .f64 0, .string ⟨#[]⟩, .slice none 0 0, .slice none 0 0, .int .i64 0]) (b := w1.heap.size) rfl 47 _ _ rfl Tryz.size47 rfl rfl (alloc_new w1 _ rfl) rfl (by simp [Value.oneCell']) ?_; intro w4 h4 g4))
  have hb4' := Lib.hid h4
  have hE4 : Ext w1 w4 := ((Ext.refl w1).push _).grown g4 (fun k hk => by cases hk; exact Nat.le_refl _)
  replace ga := hE4.keep ga; replace e0 := hE4.keep e0; replace e1 := hE4.keep e1; replace e2 := hE4.keep e2; replace e3 := hE4.keep e3
  have hB4 := (Array.getElem?_eq_some_iff.1 h4).1
  clear h4 g4
  go_wp2_with fail
  clear e0 e1 e2 e3 ga
  go_loopw [5, 25] (fun _ i wr => ∃ (k : Nat) (v2 v3 : Value), k ≤ fs.length ∧ i = .int .i64 k ∧ Ext w1 wr ∧ w1.heap.size < wr.heap.size ∧ Hid (wr.heap[w1.heap.size]? = some (.cells #[.int .i64 1, .string ⟨#[]⟩, v2, v3, .int .i64 0, .int .i64 0, .float .f64 0, .string ⟨#[]⟩, .slice none 0 0, .slice none 0 0, .int .i64 0] 47 (0, 0))) ∧
      Hid (∀ g, v2.ownBlock = some g → w1.heap.size ≤ g) ∧ Hid (∀ g, v3.ownBlock = some g → w1.heap.size ≤ g) ∧
      Hid (Row kS 9 wr (vb v3 ++ (w1.heap.size :: (w.heap.size + 1) :: X)) v2 ((fs.map (·.1)).take k)) ∧ Hid (Row kV 45 wr (vb v2 ++ (w1.heap.size :: (w.heap.size + 1) :: X)) v3 ((fs.map (fun p => p.2.back)).take k))) (fun _ i _ => fs.length - (intOf i).toNat)
  case atStart => exact ⟨0, _, _, Nat.zero_le _, rfl, hE4, hB4, hb4', Lib.hid (fun g hg => by simp [Value.ownBlock] at hg), Lib.hid (fun g hg => by simp [Value.ownBlock] at hg), Lib.hid (Row.nil _ _ _ _), Lib.hid (Row.nil _ _ _ _)⟩
  case round =>
    obtain ⟨k, v2, v3, hk, rfl, hEr, hsz, hout, hg2, hg3, hr2, hr3⟩ := hrel
    rename World => wr
    have hEw := Lib.hid (hE1.trans hEr)
    have hBw : Hid (Old (w1.heap.size :: (w.heap.size + 1) :: X) wr) := Lib.hid (.cons hsz (.cons (Nat.lt_trans hl1 hsz) (hX'.out.le hEw.out.size)))
    by_cases hlt : k < fs.length
    · obtain ⟨cs, hc, hcs⟩ := l5'.out k hlt
      obtain ⟨rfl, -⟩ := l4'.out (by omega)
      obtain ⟨vv, rfl, hsn, hval⟩ := hcs
      have hone : vv.oneCell' = true := by obtain ⟨_, _, rfl, _⟩ := hval.ex; rfl
      have q0 := hEw.out.keep (hc 0 (by decide))
      have q1 := hEw.out.keep (hc 1 (by decide))
      simp only [show kFd.size = 2 from rfl, Nat.add_zero] at q0 q1
      have hi1 : (k : Int) < (fs.length : Int) := by omega
      have hkm : (k : Int) + 1 ≤ 9223372036854775807 := by omega
      have hlk1 : ((fs.map (·.1)).take k).length + 1 ≤ fs.length := by rw [List.length_take, List.length_map]; omega
      have hlk2 : ((fs.map (fun p => p.2.back)).take k).length + 1 ≤ fs.length := by rw [List.length_take, List.length_map]; omega
      have hval' := Lib.hid hval
      have hsn' := Lib.hid hsn
      have hlk1' := Lib.hid hlk1
      have hlk2' := Lib.hid hlk2
      have hXv3 : Hid (Old (vb v3 ++ (w1.heap.size :: (w.heap.size + 1) :: X)) wr) := Lib.hid (fun b hb => by
        rcases List.mem_append.1 hb with hb | hb
        · exact hr3.out.lt (by simpa [vb] using hb)
        · exact hBw.out b hb)
      obtain ⟨p, hp⟩ : ∃ p, fs[k]'hlt = p := ⟨_, rfl⟩
      rw [hp] at hval' hsn'
      simp only [hp] at q0 q1 hone
      have hp' := Lib.hid hp
      clear hc hval hsn hlk1 hlk2 hp
      go_upto_region 8 with (first
        | (refine wpL_storeRow (cells := #[.string p.1, vv]) (b := wr.heap.size) rfl 223 _ _ rfl Tryz.infoFd rfl rfl (alloc_new wr _ rfl) rfl (by simpa [Value.oneCell'] using hone) ?_; intro w5 h5 g5; have hE5 : Ext wr w5 := ((Ext.refl wr).push _).grown g5 (fun k hk => by cases hk; exact Nat.le_refl _); have s0 : w5.cell? ⟨wr.heap.size, 0, none⟩ = some (.string p.1) := cells_of h5 0; have s1 : w5.cell? ⟨wr.heap.size, 1, none⟩ = some (vv) := cells_of h5 1; have hb5 := Lib.hid ((hE5.below.block _ hsz).trans hout.out); have r2 : w5.cell? ⟨w1.heap.size, 2, none⟩ = some v2 := cells_of hb5.out 2; have hE5' := Lib.hid hE5; have h5' := Lib.hid h5; clear q0 q1 h5 g5 hE5))
      go_wp2_with (first
        | (at_builtin; refine wpL_rowApp (c := #[.string p.1]) rfl hr2.out hE5'.out (hXv3.out.le hE5'.out.size) ⟨rfl, hsn'.out⟩ _ _ _ rfl Tryz.underlying41 Tryz.info9 rfl (by decide) rfl rfl (by have := hlk1'.out; have := h88'.out; omega) (by rw [maxLen_eq]; have := hlk1'.out; have := h88'.out; omega) ?_; intro v2' w6 hr6 hg6 hne6 hd6; have hvo6 := hr6.one; have hb6 := Lib.hid ((hg6.block w1.heap.size (Nat.lt_of_lt_of_le hsz hE5'.out.size) (hr2.out.notin (by simp))).trans hb5.out); have hr6' := Lib.hid hr6; have hg6' := Lib.hid hg6; have hd6' := Lib.hid hd6; clear hr6 hg6 hne6 hd6)
        | (refine wpL_storeC (new := #[.int .i64 1, .string ⟨#[]⟩, v2', v3, .int .i64 0, .int .i64 0, .float .f64 0, .string ⟨#[]⟩, .slice none 0 0, .slice none 0 0, .int .i64 0]) (b := w1.heap.size) (off := 2) rfl 41 _ _ rfl Tryz.info41 rfl rfl hvo6 hb6.out (by simp) rfl ?_; intro w7 h7 g7; have h7' := Lib.hid h7; have g7' := Lib.hid g7; clear h7 g7))
      have hb67 : w5.heap.size ≤ w6.heap.size := hg6'.out.size
      have hsz5 := hE5'.out.size
      have hbl5 := (Array.getElem?_eq_some_iff.1 h5'.out).1
      have h7e := Lib.hid ((g7'.out.block wr.heap.size (by omega) (fun e => by have := Option.some.inj e; omega)).trans ((hg6'.out.block wr.heap.size hbl5 (fun e => by have := hr2.out.lt e.symm; omega)).trans h5'.out))
      have s1' : w7.cell? ⟨wr.heap.size, 1, none⟩ = some vv := cells_of h7e.out 1
      have p3 : w7.cell? ⟨w1.heap.size, 3, none⟩ = some v3 := cells_of h7'.out 3
      have hE17 := Lib.hid (((hEr.trans hE5'.out).grown hg6'.out hg2.out).grown g7'.out (fun k hk => by cases hk; exact Nat.le_refl _))
      have hg2' : Hid (∀ g, v2'.ownBlock = some g → w1.heap.size ≤ g) := Lib.hid (fun g hg => by
        rcases hd6'.out g hg with h | h
        · exact hg2.out g h
        · omega)
      have hr2' : Hid (Row kS 9 w7 (vb v3 ++ (w1.heap.size :: (w.heap.size + 1) :: X)) v2' ((fs.map (·.1)).take k ++ [p.1])) := Lib.hid (hr6'.out.keep g7'.out (by simp))
      have hr3' : Hid (Row kV 45 w7 (vb v2' ++ (w1.heap.size :: (w.heap.size + 1) :: X)) v3 ((fs.map (fun p => p.2.back)).take k)) := Lib.hid (((hr3.out.ext hE5'.out).other hg6'.out hd6'.out).keep g7'.out (by simp))
      have hsz7 : wr.heap.size < w7.heap.size := (Array.getElem?_eq_some_iff.1 h7e.out).1
      have hval7 : Hid (IsVal w7 (vb v3 ++ (vb v2' ++ (w1.heap.size :: (w.heap.size + 1) :: X))) vv p.2) := Lib.hid (hval'.out.mv (((((hE1.trans hE17.out).mv X).more (n := w.heap.size + 1) (by omega)).more (n := w1.heap.size) (by omega)).moreL (fun z hz => by have := hg2'.out z (by simpa [vb] using hz); omega) |>.moreL (fun z hz => by have := hg3.out z (by simpa [vb] using hz); omega)))
      have hX7 : Hid (Old (vb v2' ++ (w1.heap.size :: (w.heap.size + 1) :: X)) w7) := Lib.hid (fun b hb => by
        rcases List.mem_append.1 hb with hb | hb
        · exact hr2'.out.lt (by simpa [vb] using hb)
        · exact hBw.out.le (Nat.le_of_lt hsz7) b hb)
      have hvo3 := hr3'.out.one
      clear s0 s1 r2 hvo6 h5' hb5 hE5' hb6 hr6' hg6' hd6' g7' h7e hr2 hr3 hXv3 hone hb67 hsz5 hbl5 hval'
      refine wp_region_script [0, 1, 2, 3, 7] [4, 5] (fun w' => Ext w7 w') [(.pure, 0), (.read, 1), (.pure, 2), (.read, 3), (.one, 4), (.one, 5), (.one, 6), (.pure, 7), (.one, 8)] (by kernel_rfl) (by kernel_rfl) ?_
      (apply scr_pure'; (· rfl); (· rfl); (· (intro w'; go_simp; try rfl)); (· (simp [go_sem]; try rfl)))
      (apply scr_read'; (· rfl); (· rfl); (· first | exact hC | exact (Ext.refl _).drew); (· (intro w' hw'; have p3_ := hw'.keep p3; go_simp; try rfl)); (· (simp [go_sem]; try rfl)))
      (apply scr_pure'; (· rfl); (· rfl); (· (intro w'; go_simp; try rfl)); (· (simp [go_sem]; try rfl)))
      (apply scr_read'; (· rfl); (· rfl); (· first | exact hC | exact (Ext.refl _).drew); (· (intro w' hw'; have s1'_ := hw'.keep s1'; go_simp; try rfl)); (· (simp [go_sem]; try rfl)))
      refine scr_one rfl rfl (fun K hK => ?_)
      go_simp
      refine fromValue_c (X := vb v3 ++ (vb v2' ++ (w1.heap.size :: (w.heap.size + 1) :: X))) (hval7.out.mv ((Ext.refl w7).drew.mv _)) ((hr3'.out.ext (Ext.refl w7).drew).old (hX7.out.le (Ext.refl w7).drew.size)) _ ?_
      intro w8 ys hE8 hy
      obtain ⟨y, rfl⟩ := hy.shape
      have hy' := Lib.hid hy
      clear hy
      have hw8 := (Ext.refl w7).drew.trans hE8
      refine hK _ _ (fun _ => hw8) ?_
      clear hK
      simp only [Cells6.list]
      refine scr_one rfl rfl (fun K hK => ?_)
      go_simp
      refine hK _ _ (fun _ => hw8.push _) ?_
      clear hK
      refine scr_one rfl rfl (fun K hK => ?_)
      refine wp_rowApp (c := y.list.toArray) hr3'.out hw8 (hX7.out.le hw8.size) hy'.out _ _ _ rfl Tryz.underlying42 Tryz.info45 rfl (by decide) (by go_simp) (by go_simp) (by have := hlk2'.out; have := h88'.out; omega) (by rw [maxLen_eq]; have := hlk2'.out; have := h88'.out; omega) ?_
      intro v3' w9 hr9 hg9 hne9 hd9
      have hvo9 := hr9.one
      have hr9' := Lib.hid hr9
      have hg9' := Lib.hid hg9
      have hd9' := Lib.hid hd9
      have hw8' := Lib.hid hw8
      clear hr9 hg9 hne9 hd9
      refine hK _ _ (fun h => by simp at h) ?_
      clear hK
      (apply scr_pure'; (· rfl); (· rfl); (· (intro w'; go_simp; try rfl)); (· (simp [go_sem]; try rfl)))
      have hb9 := Lib.hid ((hg9'.out.block w1.heap.size (by have := hw8'.out.size; omega) (hr3'.out.notin (by simp))).trans ((hw8'.out.below.block _ (by omega)).trans h7'.out))
      refine scr_one rfl rfl (fun K hK => ?_)
      refine wp_storeC (new := #[.int .i64 1, .string ⟨#[]⟩, v2', v3', .int .i64 0, .int .i64 0, .float .f64 0, .string ⟨#[]⟩, .slice none 0 0, .slice none 0 0, .int .i64 0]) (b := w1.heap.size) (off := 3) 42 _ _ rfl Tryz.info42 (by go_simp) (by go_simp) hvo9 hb9.out (by simp) rfl ?_
      intro w10 h10 g10
      have h10' := Lib.hid h10
      have g10' := Lib.hid g10
      clear h10 g10
      refine hK _ _ (fun h => by simp at h) ?_
      clear hK
      refine scr_end ?_
      simp only [Exit.inBlock, Exit.then]
      clear hw8
      go_wp2_with fail
      go_roundw
      case rel =>
        have hlt10 := (Array.getElem?_eq_some_iff.1 h10'.out).1
        refine ⟨k + 1, v2', v3', by omega, by go_num, ((hE17.out.trans hw8'.out).grown hg9'.out hg3.out).grown g10'.out (fun k hk => by cases hk; exact Nat.le_refl _), hlt10, h10', hg2', Lib.hid (fun g hg => ?_), Lib.hid ?_, Lib.hid ?_⟩
        · rcases hd9'.out g hg with h | h
          · exact hg3.out g h
          · have := hw8'.out.size; omega
        · have e : (fs.map (·.1)).take (k + 1) = (fs.map (·.1)).take k ++ [p.1] := by
            rw [List.take_succ_eq_append_getElem (by simpa using hlt), List.getElem_map, hp'.out]
          rw [e]
          exact ((hr2'.out.ext hw8'.out).other hg9'.out hd9'.out).keep g10'.out (by simp)
        · have e : (fs.map (fun p => p.2.back)).take (k + 1) = (fs.map (fun p => p.2.back)).take k ++ [p.2.back] := by
            rw [List.take_succ_eq_append_getElem (by simpa using hlt), List.getElem_map, hp'.out]
          rw [e]
          exact hr9'.out.keep g10'.out (by simp)
      case measure => simp [intOf]; omega
    · have ek : k = fs.length := by omega
      have hi1 : ¬ (k : Int) < (fs.length : Int) := by omega
      rw [List.take_of_length_le (by rw [List.length_map]; omega)] at hr2 hr3
      have ek' := Lib.hid ek
      have hvo2 := hr2.out.one
      have hvo3 := hr3.out.one
      have p0 : wr.cell? ⟨w1.heap.size, 0, none⟩ = some (.int .i64 1) := cells_of hout.out 0; have p1 : wr.cell? ⟨w1.heap.size, 1, none⟩ = some (.string ⟨#[]⟩) := cells_of hout.out 1; have p2 : wr.cell? ⟨w1.heap.size, 2, none⟩ = some (v2) := cells_of hout.out 2; have p3 : wr.cell? ⟨w1.heap.size, 3, none⟩ = some (v3) := cells_of hout.out 3; have p4 : wr.cell? ⟨w1.heap.size, 4, none⟩ = some (.int .i64 0) := cells_of hout.out 4; have p5 : wr.cell? ⟨w1.heap.size, 5, none⟩ = some (.int .i64 0) := cells_of hout.out 5; have p6 : wr.cell? ⟨w1.heap.size, 6, none⟩ = some (.float .f64 0) := cells_of hout.out 6; have p7 : wr.cell? ⟨w1.heap.size, 7, none⟩ = some (.string ⟨#[]⟩) := cells_of hout.out 7; have p8 : wr.cell? ⟨w1.heap.size, 8, none⟩ = some (.slice none 0 0) := cells_of hout.out 8; have p9 : wr.cell? ⟨w1.heap.size, 9, none⟩ = some (.slice none 0 0) := cells_of hout.out 9; have p10 : wr.cell? ⟨w1.heap.size, 10, none⟩ = some (.int .i64 0) := cells_of hout.out 10
      have hrv := Lib.hid ((hEr.below.block _ hl1).trans hb2'.out)
      clear ek
      go_wp2_with (refine wpL_storeRow (cells := #[.int .i64 1, .string ⟨#[]⟩, v2, v3, .int .i64 0, .int .i64 0, .float .f64 0, .string ⟨#[]⟩, .slice none 0 0, .slice none 0 0, .int .i64 0]) (b := w.heap.size + 1) rfl 47 _ _ rfl Tryz.size47 rfl rfl hrv.out rfl (by simp [Value.oneCell']; exact ⟨hvo2, hvo3⟩) ?_; intro w4 h4 g4)
      have z0 : w4.cell? ⟨w.heap.size + 1, 0, none⟩ = some (.int .i64 1) := cells_of h4 0; have z1 : w4.cell? ⟨w.heap.size + 1, 1, none⟩ = some (.string ⟨#[]⟩) := cells_of h4 1; have z2 : w4.cell? ⟨w.heap.size + 1, 2, none⟩ = some (v2) := cells_of h4 2; have z3 : w4.cell? ⟨w.heap.size + 1, 3, none⟩ = some (v3) := cells_of h4 3; have z4 : w4.cell? ⟨w.heap.size + 1, 4, none⟩ = some (.int .i64 0) := cells_of h4 4; have z5 : w4.cell? ⟨w.heap.size + 1, 5, none⟩ = some (.int .i64 0) := cells_of h4 5; have z6 : w4.cell? ⟨w.heap.size + 1, 6, none⟩ = some (.float .f64 0) := cells_of h4 6; have z7 : w4.cell? ⟨w.heap.size + 1, 7, none⟩ = some (.string ⟨#[]⟩) := cells_of h4 7; have z8 : w4.cell? ⟨w.heap.size + 1, 8, none⟩ = some (.slice none 0 0) := cells_of h4 8; have z9 : w4.cell? ⟨w.heap.size + 1, 9, none⟩ = some (.slice none 0 0) := cells_of h4 9; have z10 : w4.cell? ⟨w.heap.size + 1, 10, none⟩ = some (.int .i64 0) := cells_of h4 10
      refine bodyPost_ret (by simp [results, Tryz.results89, go_sem, z0, z1, z2, z3, z4, z5, z6, z7, z8, z9, z10]; try rfl) rfl ?_
      have hE : Ext w w4 := hEw.out.grown g4 (fun j hj => by cases hj; omega)
      have hm4 : Mv wr (w1.heap.size :: (w.heap.size + 1) :: X) w4 X := ((Mv.refl _ _).grown g4 (fun j hj => by cases hj; simp)).less (fun b hb => by simp [hb])
      have l2 : Row kS 9 wr (w1.heap.size :: (w.heap.size + 1) :: X) v2 (fs.map (·.1)) := hr2.out.less fun b hb => by simp at hb ⊢; rcases hb with h | h | h <;> simp [h]
      have l3 : Row kV 45 wr (w1.heap.size :: (w.heap.size + 1) :: X) v3 (fs.map (fun p => p.2.back)) := hr3.out.less fun b hb => by simp at hb ⊢; rcases hb with h | h | h <;> simp [h]
      exact hR'.out w4 [_, _, _, _, _, _, _, _, _, _, _] hE ⟨_, _, [_, _, _, _, _, _], rfl, (show (Lit.int .i64 1).wf = true by decide), (show (Lit.int .i64 0).wf = true by decide), Nat.zero_le _, (l2.isStrs (by rw [List.length_map]; have := h88'.out; omega)).mv hm4, (l3.isVs (by rw [List.length_map]; exact h88'.out)).mv hm4, vzero_is _ _⟩

theorem fromElem_c {w : World} {X : List Nat} {cs : List Value} {e : PEl} (he : kPe.is w X cs e) (hX : Old X w) (hs : SmallPe e) (R : Ending → World → Prop)
    (hR : ∀ w' cs', Ext w w' → kEl.is w' X cs' (backE e) → R (.returned (.agg cs'.toArray)) w') : Calls Tryz.prog 89 #[.agg cs.toArray] w R := by
  cases e
  · exact fromElem_field he R hR
  · exact fromElem_key he hX hs R hR
  · exact fromElem_value he hX R hR
  · exact fromElem_index he R hR
end Go.Proofs.YtihapgangilncaaGreat
