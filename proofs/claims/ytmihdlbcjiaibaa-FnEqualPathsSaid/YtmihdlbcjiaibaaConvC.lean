/- impl.fromField. -/
import Derived.Test.YtmihdlbcjiaibaaConvB
namespace Go.Proofs.Ytmihdlbcjiaibaa
open Go.RowKit

theorem IsT.head {w : World} {X : List Nat} {x : Value} {t : T} (h : IsT w X x t) : (x = .nilIface ∧ t = .null) ∨ ∃ u v, x = .iface u v ∧ t ≠ .null := by
  cases h
  case null => exact .inl ⟨rfl, rfl⟩
  all_goals exact .inr ⟨_, _, rfl, fun e => by cases e⟩
theorem frFt_dflt {f : SA → A} {name : ByteArray} {type : SRf SA} {t : T} (h : t ≠ .null) : (frFt f ⟨name, type, t⟩).dflt = [t.back] := by
  cases t <;> first | rfl | exact absurd rfl h
theorem IsVs.single {w : World} {X : List Nat} {b : Nat} {y : Cells6} {v : V} (hb : w.heap[b]? = some (.cells #[.int .i64 y.kind, .int .i64 y.n, .float .f64 y.f, .string y.s, .slice y.ko y.kn y.kc, .slice y.o y.m y.c] 28 (0, 0))) (hX : b ∉ X) (h : IsV w X y.list v) :
    IsVs w X (.slice (some ⟨b, 0, none⟩) 1 1) [v] := by
  refine ⟨some ⟨b, 0, none⟩, 1, b, 0, rfl, Nat.le_refl _, by simp, fun _ => ⟨rfl, hX⟩, fun i hi => ?_⟩
  obtain rfl : i = 0 := by simpa using hi
  exact ⟨y, cells_of hb 0, cells_of hb 1, cells_of hb 2, cells_of hb 3, cells_of hb 4, cells_of hb 5, h⟩

set_option maxRecDepth 100000 in
set_option maxHeartbeats 8000000 in
set_option pp.maxSteps 1000000 in
set_option pp.deepTerms true in
theorem fromField_c {d : Nat} (ih : FromAtomC d) {w : World} {X : List Nat} {cs : List Value} {l : SFt SA} (hl : (ksFt (ksA d)).is w X cs l) (hX : Old X w) (R : Ending → World → Prop)
    (hR : ∀ w' cs', Ext w w' → (kFt (kA d)).is w' X cs' (frFt (frA d) l) → R (.returned (.agg cs'.toArray)) w') : Calls Try.prog 82 #[.agg cs.toArray] w R := by
  obtain ⟨rs, vk, rfl, hr, hk, hl⟩ := hl
  obtain ⟨name, type, dflt⟩ := l
  dsimp only at hr hk hl ⊢
  obtain ⟨a0, a1, a2, a3, a4, a5, rfl, o0, o1, o2, o3, o4, o5⟩ := ksRf_six hr
  have hko := hk.one
  have hr' := Lib.hid hr
  have hk' := Lib.hid hk
  have hR' := Lib.hid hR
  have hX' := Lib.hid hX
  clear hr hR hX hk
  simp only [List.cons_append, List.nil_append]
  go_enter Try.func82, Try.ntmps82
  go_wp2_with fail
  refine abs2 (G := Code.wp _ _ _ _) ?_
  intro w1 hE1 hb1 hb2 hs1
  have c0 := cells_of hb1 0
  have c1 := cells_of hb1 1
  have c2 := cells_of hb1 2
  have c3 := cells_of hb1 3
  have c4 := cells_of hb1 4
  have c5 := cells_of hb1 5
  have c6 := cells_of hb1 6
  have c7 := cells_of hb1 7
  simp only [List.getElem?_toArray, List.getElem?_cons_zero, List.getElem?_cons_succ] at c0 c1 c2 c3 c4 c5 c6 c7
  refine wp_region_tree [0, 1, 2, 3, 5] [4, 6] (fun w' => Ext w1 w') (.pure 0 (.read 1 (.pure 2 (.read 3 (.two 4 6 (.pure 5 (.one 6 (.one 7 .nil))) (.one 4 (.pure 5 (.one 7 .nil)))))))) (by kernel_rfl) (by kernel_rfl) ?_
  (apply tr_pure; (· rfl); (· rfl); (· (intro w'; go_simp; try rfl)); (· (simp [go_sem]; try rfl)))
  (apply tr_read; (· rfl); (· rfl); (· first | exact hC | exact (Ext.refl _).drew); (· (intro w' hw'; have c0_ := hw'.keep c0; go_simp; try rfl)); (· (simp [go_sem]; try rfl)))
  (apply tr_pure; (· rfl); (· rfl); (· (intro w'; go_simp; try rfl)); (· (simp [go_sem]; try rfl)))
  (apply tr_read; (· rfl); (· rfl); (· first | exact hC | exact (Ext.refl _).drew); (· (intro w' hw'; have c1_ := hw'.keep c1; have c2_ := hw'.keep c2; have c3_ := hw'.keep c3; have c4_ := hw'.keep c4; have c5_ := hw'.keep c5; have c6_ := hw'.keep c6; go_simp; try rfl)); (· (simp [go_sem]; try rfl)))
  refine tr_two ?_ ?_
  focus (
    refine tr_one rfl rfl (fun K hK => ?_)
    go_simp
    refine fromRef_c ih (X := w.heap.size :: (w.heap.size + 1) :: X) ((ksRf (ksA d)).mv hr'.out (((hE1.drew.mv X).more (n := w.heap.size + 1) (by omega)).more (Nat.le_refl _))) (.cons (by simp; omega) (.cons (by simp; omega) (hX'.out.le hE1.drew.size))) _ ?_
    intro w2 cs2 hE2 hy
    obtain ⟨p0, p1, p2, p3, p4, p5, rfl, u0, u1, u2, u3, u4, u5⟩ := kRf_six hy
    have hw2 := (Ext.refl w1).drew.trans hE2
    refine hK _ _ (fun _ => hw2) ?_
    clear hK
    (apply tr_pure; (· rfl); (· rfl); (· (intro w'; go_simp; try rfl)); (· (simp [go_sem]; try rfl)))
    refine tr_one rfl rfl (fun K hK => ?_)
    go_simp
    refine hK _ _ (fun _ => hw2.push _) ?_
    clear hK
    refine tr_one rfl rfl (fun K hK => ?_)
    refine wp_storeRow (cells := #[.string name, p0, p1, p2, p3, p4, p5, .slice none 0 0]) 92 _ _ rfl Try.size92 (by go_simp) (by go_simp) (alloc_new _ _ rfl) rfl (by simp [u0, u1, u2, u3, u4, u5, str_one, slice_one]) ?_
    intro w4 h4 g4
    refine hK _ _ (fun h => by simp at h) ?_
    clear hK
    refine tr_end ?_
    simp only [Exit.then]
    have hE3 : Ext w1 w4 := (hw2.push _).grown g4 (fun k hk => by cases hk; exact hw2.size)
    have hy4 : (kRf (kA d)).is w4 (w2.heap.size :: w.heap.size :: (w.heap.size + 1) :: X) [p0, p1, p2, p3, p4, p5] (frRf (frA d) type) := (kRf (kA d)).mv hy (((Ext.alloc w2 _).mv _).more (Nat.le_refl _) |>.grown g4 (by intro k hk; cases hk; simp))
    have hBs : w1.heap.size ≤ w2.heap.size := hw2.size
    have hB2 : w.heap.size + 2 ≤ w2.heap.size := by omega
    have e1 : w4.heap[w.heap.size + 1]? = _ := (g4.block _ (by simp; omega) (by simp; omega)).trans ((alloc_old w2 _ (by omega)).trans ((hw2.below.block _ (by omega)).trans hb2))
    generalize w2.heap.size = B at h4 hy4 hBs hB2
    clear hy g4 hw2 hE2 hBs)
  rotate_left
  focus (
    refine tr_one rfl rfl (fun K hK => ?_)
    go_simp
    refine hK _ _ (fun _ => (Ext.refl w1).drew.push _) ?_
    clear hK
    refine tr_one rfl rfl (fun K hK => ?_)
    go_simp
    refine fromRef_c ih (X := w1.heap.size :: w.heap.size :: (w.heap.size + 1) :: X) ((ksRf (ksA d)).mv hr'.out ((((((hE1.drew.push _).mv X).more (n := w.heap.size + 1) (by omega)).more (Nat.le_refl _))).more (by omega))) (.cons (by simp) (.cons (by simp; omega) (.cons (by simp; omega) (hX'.out.le (hE1.drew.push _).size)))) _ ?_
    intro w2 cs2 hE2 hy
    obtain ⟨p0, p1, p2, p3, p4, p5, rfl, u0, u1, u2, u3, u4, u5⟩ := kRf_six hy
    have hw2 := ((Ext.refl w1).drew.push _).trans hE2
    refine hK _ _ (fun _ => hw2) ?_
    clear hK
    (apply tr_pure; (· rfl); (· rfl); (· (intro w'; go_simp; try rfl)); (· (simp [go_sem]; try rfl)))
    refine tr_one rfl rfl (fun K hK => ?_)
    have hbB : w2.heap[w1.heap.size]? = _ := (hE2.below.block _ (by simp)).trans (alloc_new w1.drew _ rfl)
    refine wp_storeRow (cells := #[.string name, p0, p1, p2, p3, p4, p5, .slice none 0 0]) 92 _ _ rfl Try.size92 (by go_simp) (by go_simp) hbB rfl (by simp [u0, u1, u2, u3, u4, u5, str_one, slice_one]) ?_
    intro w4 h4 g4
    refine hK _ _ (fun h => by simp at h) ?_
    clear hK
    refine tr_end ?_
    simp only [Exit.then]
    have hE3 : Ext w1 w4 := hw2.grown g4 (fun k hk => by cases hk; exact Nat.le_refl _)
    have hy4 : (kRf (kA d)).is w4 (w1.heap.size :: w.heap.size :: (w.heap.size + 1) :: X) [p0, p1, p2, p3, p4, p5] (frRf (frA d) type) := (kRf (kA d)).mv hy ((Mv.refl _ _).grown g4 (by intro k hk; cases hk; simp))
    have e1 : w4.heap[w.heap.size + 1]? = _ := (g4.block _ (by have := hw2.size; omega) (by simp; omega)).trans ((hw2.below.block _ (by omega)).trans hb2)
    clear hy g4 hw2 hE2 hbB
    obtain ⟨B, hBB⟩ : ∃ B, w.heap.size + 2 = B := ⟨_, rfl⟩
    rw [hs1] at h4 hy4
    rw [hBB] at h4 hy4 ⊢
    have hB2 : w.heap.size + 2 ≤ B := by omega
    clear hBB)
  all_goals (
    have hy4' := Lib.hid hy4
    clear hy4
    have f0 := cells_of h4 0
    have f1 := cells_of h4 1
    have f2 := cells_of h4 2
    have f3 := cells_of h4 3
    have f4 := cells_of h4 4
    have f5 := cells_of h4 5
    have f6 := cells_of h4 6
    have f7 := cells_of h4 7
    simp only [List.getElem?_toArray, List.getElem?_cons_zero, List.getElem?_cons_succ] at f0 f1 f2 f3 f4 f5 f6 f7
    replace c7 := hE3.keep c7
    clear c0 c1 c2 c3 c4 c5 c6
    rcases hk'.out.head with ⟨rfl, hnl⟩ | ⟨u, xv, rfl, hnn⟩
    · have hnl' := Lib.hid hnl
      clear hnl
      go_wp2_with (refine wpL_storeRow (cells := #[.string name, p0, p1, p2, p3, p4, p5, .slice none 0 0]) rfl 92 _ _ rfl Try.size92 rfl rfl e1 rfl (by simp [u0, u1, u2, u3, u4, u5, str_one, slice_one]) ?_; intro w6 h6 g6)
      go_simp
      have z0 := cells_of h6 0
      have z1 := cells_of h6 1
      have z2 := cells_of h6 2
      have z3 := cells_of h6 3
      have z4 := cells_of h6 4
      have z5 := cells_of h6 5
      have z6 := cells_of h6 6
      have z7 := cells_of h6 7
      simp only [List.getElem?_toArray, List.getElem?_cons_zero, List.getElem?_cons_succ] at z0 z1 z2 z3 z4 z5 z6 z7
      refine bodyPost_ret (by simp [results, Try.results82, go_sem, z0, z1, z2, z3, z4, z5, z6, z7]; try rfl) rfl ?_
      refine hR'.out w6 [_, _, _, _, _, _, _, _] ((hE1.trans hE3).grown g6 (fun k hk => by cases hk; omega)) ⟨[p0, p1, p2, p3, p4, p5], _, rfl, (kRf (kA d)).mv hy4'.out (((Mv.refl _ _).grown g6 (by intro k hk; cases hk; simp)).less fun b hb => by simp [hb]), ?_, hl⟩
      rw [show (frFt (frA d) ⟨name, type, dflt⟩).dflt = [] from by rw [hnl'.out]; rfl]
      exact IsVs.nil _ _
    · have hEE := hE1.trans hE3
      have hnn' := Lib.hid hnn
      have hBl := (Array.getElem?_eq_some_iff.1 h4).1
      clear hnn
      go_wp2_with fail
      refine fromTree_c dflt _ (B :: w.heap.size :: (w.heap.size + 1) :: X) _ (hk'.out.mv ((((hEE.mv X).more (n := w.heap.size + 1) (by omega)).more (Nat.le_refl _)).more (by omega))) (.cons hBl (.cons (by omega) (.cons (by omega) (hX'.out.le hEE.size)))) _ ?_
      intro w5 cs5 hE5 hy5
      obtain ⟨y, rfl⟩ := hy5.shape
      have hy5' := Lib.hid hy5
      clear hy5
      have h5 : w5.heap[B]? = _ := (hE5.below.block _ hBl).trans h4
      have e5 : w5.heap[w.heap.size + 1]? = _ := (hE5.below.block _ (by omega)).trans e1
      have hBl5 := (Array.getElem?_eq_some_iff.1 h5).1
      dsimp only
      simp only [Cells6.list]
      have hq5 := (alloc_old w5 (.cells #[.int .i64 y.kind, .int .i64 y.n, .float .f64 y.f, .string y.s, .slice y.ko y.kn y.kc, .slice y.o y.m y.c] 28 (0, 0)) hBl5).trans h5
      have hq5' := Lib.hid hq5
      clear hq5
      go_wp2_with (first | (refine wpL_store1 rfl 26 _ _ rfl Try.info26 (p := ⟨B, 7, none⟩) (v := .slice (some ⟨w5.heap.size, 0, none⟩) 1 1) rfl rfl rfl (by rw [cells_of hq5'.out 7]; rfl) (frozen_of_row _ _ _ _ _ hq5'.out) ?_; obtain ⟨h7, g7, -⟩ := set_facts (off := 7) (.slice (some ⟨w5.heap.size, 0, none⟩) 1 1) hq5'.out; have n7 := alloc_new w5 (.cells #[.int .i64 y.kind, .int .i64 y.n, .float .f64 y.f, .string y.s, .slice y.ko y.kn y.kc, .slice y.o y.m y.c] 28 (0, 0)) rfl; have eA := (alloc_old w5 (.cells #[.int .i64 y.kind, .int .i64 y.n, .float .f64 y.f, .string y.s, .slice y.ko y.kn y.kc, .slice y.o y.m y.c] 28 (0, 0)) (by omega)).trans e5; have hEA := Ext.alloc w5 (.cells #[.int .i64 y.kind, .int .i64 y.n, .float .f64 y.f, .string y.s, .slice y.ko y.kn y.kc, .slice y.o y.m y.c] 28 (0, 0)); generalize (w5.alloc (.cells #[.int .i64 y.kind, .int .i64 y.n, .float .f64 y.f, .string y.s, .slice y.ko y.kn y.kc, .slice y.o y.m y.c] 28 (0, 0))) = wA at h7 g7 n7 eA hEA ⊢; generalize wA.setCell ⟨B, 7, none⟩ (.slice (some ⟨w5.heap.size, 0, none⟩) 1 1) = w7 at h7 g7 ⊢; clear f0 f1 f2 f3 f4 f5 f6 f7; have f0 : w7.cell? ⟨B, 0, none⟩ = some (.string name) := cells_of h7 0; have f1 : w7.cell? ⟨B, 1, none⟩ = some p0 := cells_of h7 1; have f2 : w7.cell? ⟨B, 2, none⟩ = some p1 := cells_of h7 2; have f3 : w7.cell? ⟨B, 3, none⟩ = some p2 := cells_of h7 3; have f4 : w7.cell? ⟨B, 4, none⟩ = some p3 := cells_of h7 4; have f5 : w7.cell? ⟨B, 5, none⟩ = some p4 := cells_of h7 5; have f6 : w7.cell? ⟨B, 6, none⟩ = some p5 := cells_of h7 6; have f7 : w7.cell? ⟨B, 7, none⟩ = some (.slice (some ⟨w5.heap.size, 0, none⟩) 1 1) := cells_of h7 7; have e7 : w7.heap[w.heap.size + 1]? = _ := (g7.block _ (by have := hEA.size; omega) (by simp; omega)).trans eA) | (refine wpL_storeRow (cells := #[.string name, p0, p1, p2, p3, p4, p5, .slice (some ⟨w5.heap.size, 0, none⟩) 1 1]) rfl 92 _ _ rfl Try.size92 rfl rfl e7 rfl (by simp [u0, u1, u2, u3, u4, u5, str_one, slice_one]) ?_; intro w6 h6 g6))
      go_simp
      have z0 := cells_of h6 0
      have z1 := cells_of h6 1
      have z2 := cells_of h6 2
      have z3 := cells_of h6 3
      have z4 := cells_of h6 4
      have z5 := cells_of h6 5
      have z6 := cells_of h6 6
      have z7 := cells_of h6 7
      simp only [List.getElem?_toArray, List.getElem?_cons_zero, List.getElem?_cons_succ] at z0 z1 z2 z3 z4 z5 z6 z7
      refine bodyPost_ret (by simp [results, Try.results82, go_sem, z0, z1, z2, z3, z4, z5, z6, z7]; try rfl) rfl ?_
      have hE5A := hE5.trans hEA
      have hm := ((hE5A.mv (B :: w.heap.size :: (w.heap.size + 1) :: X)).grown g7 (by intro k hk; cases hk; simp)).grown g6 (by intro k hk; cases hk; simp)
      have hm2 := ((hEA.mv (B :: w.heap.size :: (w.heap.size + 1) :: X)).grown g7 (by intro k hk; cases hk; simp)).grown g6 (by intro k hk; cases hk; simp)
      have hn6 : w6.heap[w5.heap.size]? = _ := (g6.block _ (by have := (Array.getElem?_eq_some_iff.1 n7).1; have := g7.size; omega) (by simp; omega)).trans ((g7.block _ (Array.getElem?_eq_some_iff.1 n7).1 (by simp; omega)).trans n7)
      refine hR'.out w6 [_, _, _, _, _, _, _, _] (((hEE.trans hE5A).grown g7 (fun k hk => by cases hk; omega)).grown g6 (fun k hk => by cases hk; omega)) ⟨[p0, p1, p2, p3, p4, p5], _, rfl, (kRf (kA d)).mv hy4'.out (hm.less fun b hb => by simp [hb]), ?_, hl⟩
      rw [show (frFt (frA d) ⟨name, type, dflt⟩).dflt = [dflt.back] from frFt_dflt hnn'.out]
      exact IsVs.single (y := y) hn6 (fun h => by have := hX'.out _ h; have := hEE.size; have := hE5.size; omega) (hy5'.out.mv (hm2.less fun b hb => by simp [hb])))

end Go.Proofs.Ytmihdlbcjiaibaa
