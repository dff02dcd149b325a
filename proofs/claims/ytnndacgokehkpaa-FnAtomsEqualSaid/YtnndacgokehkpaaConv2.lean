/- impl.toField, toMap, toAtom. -/
import Derived.Test.YtnndacgokehkpaaConv
import Derived.Test.YtnndacgokehkpaaFork
namespace Go.Proofs.Ytnndacgokehkpaa
open Go.RowKit

theorem Try.size123 : (Try.prog.info? 123).map (·.size) = some 8 := by kernel_rfl

set_option maxRecDepth 100000 in
set_option maxHeartbeats 8000000 in
set_option pp.maxSteps 1000000 in
set_option pp.deepTerms true in
theorem toField_c {d : Nat} (ih : ToAtomC d) {w : World} {X : List Nat} {cs : List Value} {l : FtOf A} (hl : (kFt (kA d)).is w X cs l) (hX : Old X w) (R : Ending → World → Prop)
    (hR : ∀ w' cs', Ext w w' → (ksFt (ksA d)).is w' X cs' (toFt (toA d) l) → R (.returned (.agg cs'.toArray)) w') : Calls Try.prog 55 #[.agg cs.toArray] w R := by
  obtain ⟨rs, vk, rfl, hr, hk, hl⟩ := hl
  obtain ⟨name, type, dflt⟩ := l
  dsimp only at hr hk hl ⊢
  obtain ⟨a0, a1, a2, a3, a4, a5, rfl, o0, o1, o2, o3, o4, o5⟩ := kRf_six hr
  obtain ⟨ko, kc, db, doff, rfl, k1, k2, k3, k4⟩ := id hk.ex
  have hr' := Lib.hid hr
  have hk' := Lib.hid hk
  have hk3 := Lib.hid k3
  have hk4 := Lib.hid k4
  have hR' := Lib.hid hR
  have hX' := Lib.hid hX
  clear hr hR hX hk k1 k2 k3 k4
  simp only [List.cons_append, List.nil_append]
  go_enter Try.func55, Try.ntmps55
  go_wp2_with fail
  refine abs2 (G := Code.wp _ _ _ _) ?_
  intro w1 hE1 hb1 hb2 hs1
  have c0 := cells_of hb1 0
  have c1 := cells_of hb1 1
  have c2 := cells_of hb1 2
  have c3 := cells_of hb1 3
  have c4 := cells_of hb1 4
  have c5 := cells_of hb1 5
  have c6 := cells_of hb1 6
  have c7 := cells_of hb1 7
  simp only [List.getElem?_toArray, List.getElem?_cons_zero, List.getElem?_cons_succ] at c0 c1 c2 c3 c4 c5 c6 c7
  refine wp_region_tree [0, 1, 2, 3, 5] [4, 6] (fun w' => Ext w1 w') (.pure 0 (.read 1 (.pure 2 (.read 3 (.two 4 6 (.pure 5 (.one 6 (.one 7 .nil))) (.one 4 (.pure 5 (.one 7 .nil)))))))) (by kernel_rfl) (by kernel_rfl) ?_
  (apply tr_pure; (· rfl); (· rfl); (· (intro w'; go_simp; try rfl)); (· (simp [go_sem]; try rfl)))
  (apply tr_read; (· rfl); (· rfl); (· first | exact hC | exact (Ext.refl _).drew); (· (intro w' hw'; have c0_ := hw'.keep c0; go_simp; try rfl)); (· (simp [go_sem]; try rfl)))
  (apply tr_pure; (· rfl); (· rfl); (· (intro w'; go_simp; try rfl)); (· (simp [go_sem]; try rfl)))
  (apply tr_read; (· rfl); (· rfl); (· first | exact hC | exact (Ext.refl _).drew); (· (intro w' hw'; have c1_ := hw'.keep c1; have c2_ := hw'.keep c2; have c3_ := hw'.keep c3; have c4_ := hw'.keep c4; have c5_ := hw'.keep c5; have c6_ := hw'.keep c6; go_simp; try rfl)); (· (simp [go_sem]; try rfl)))
  refine tr_two ?_ ?_
  focus (
    refine tr_one rfl rfl (fun K hK => ?_)
    go_simp
    refine toRef_c ih (X := w.heap.size :: (w.heap.size + 1) :: X) ((kRf (kA d)).mv hr'.out (((hE1.drew.mv X).more (n := w.heap.size + 1) (by omega)).more (Nat.le_refl _))) (.cons (by simp; omega) (.cons (by simp; omega) (hX'.out.le hE1.drew.size))) _ ?_
    intro w2 cs2 hE2 hy
    obtain ⟨p0, p1, p2, p3, p4, p5, rfl, u0, u1, u2, u3, u4, u5⟩ := ksRf_six hy
    have hw2 := (Ext.refl w1).drew.trans hE2
    refine hK _ _ (fun _ => hw2) ?_
    clear hK
    (apply tr_pure; (· rfl); (· rfl); (· (intro w'; go_simp; try rfl)); (· (simp [go_sem]; try rfl)))
    refine tr_one rfl rfl (fun K hK => ?_)
    go_simp
    refine hK _ _ (fun _ => hw2.push _) ?_
    clear hK
    refine tr_one rfl rfl (fun K hK => ?_)
    refine wp_storeRow (cells := #[.string name, p0, p1, p2, p3, p4, p5, .nilIface]) 123 _ _ rfl Try.size123 (by go_simp) (by go_simp) (alloc_new _ _ rfl) rfl (by simp [u0, u1, u2, u3, u4, u5, str_one, nil_one]) ?_
    intro w4 h4 g4
    refine hK _ _ (fun h => by simp at h) ?_
    clear hK
    refine tr_end ?_
    simp only [Exit.then]
    have hE3 : Ext w1 w4 := (hw2.push _).grown g4 (fun k hk => by cases hk; exact hw2.size)
    have hy4 : (ksRf (ksA d)).is w4 (w2.heap.size :: w.heap.size :: (w.heap.size + 1) :: X) [p0, p1, p2, p3, p4, p5] (toRf (toA d) type) := (ksRf (ksA d)).mv hy (((Ext.alloc w2 _).mv _).more (Nat.le_refl _) |>.grown g4 (by intro k hk; cases hk; simp))
    have hBs : w1.heap.size ≤ w2.heap.size := hw2.size
    have hB2 : w.heap.size + 2 ≤ w2.heap.size := by omega
    have e1 : w4.heap[w.heap.size + 1]? = _ := (g4.block _ (by simp; omega) (by simp; omega)).trans ((alloc_old w2 _ (by omega)).trans ((hw2.below.block _ (by omega)).trans hb2))
    generalize w2.heap.size = B at h4 hy4 hBs hB2
    clear hy g4 hw2 hE2 hBs)
  rotate_left
  focus (
    refine tr_one rfl rfl (fun K hK => ?_)
    go_simp
    refine hK _ _ (fun _ => (Ext.refl w1).drew.push _) ?_
    clear hK
    refine tr_one rfl rfl (fun K hK => ?_)
    go_simp
    refine toRef_c ih (X := w1.heap.size :: w.heap.size :: (w.heap.size + 1) :: X) ((kRf (kA d)).mv hr'.out ((((((hE1.drew.push _).mv X).more (n := w.heap.size + 1) (by omega)).more (Nat.le_refl _))).more (by omega))) (.cons (by simp) (.cons (by simp; omega) (.cons (by simp; omega) (hX'.out.le (hE1.drew.push _).size)))) _ ?_
    intro w2 cs2 hE2 hy
    obtain ⟨p0, p1, p2, p3, p4, p5, rfl, u0, u1, u2, u3, u4, u5⟩ := ksRf_six hy
    have hw2 := ((Ext.refl w1).drew.push _).trans hE2
    refine hK _ _ (fun _ => hw2) ?_
    clear hK
    (apply tr_pure; (· rfl); (· rfl); (· (intro w'; go_simp; try rfl)); (· (simp [go_sem]; try rfl)))
    refine tr_one rfl rfl (fun K hK => ?_)
    have hbB : w2.heap[w1.heap.size]? = _ := (hE2.below.block _ (by simp)).trans (alloc_new w1.drew _ rfl)
    refine wp_storeRow (cells := #[.string name, p0, p1, p2, p3, p4, p5, .nilIface]) 123 _ _ rfl Try.size123 (by go_simp) (by go_simp) hbB rfl (by simp [u0, u1, u2, u3, u4, u5, str_one, nil_one]) ?_
    intro w4 h4 g4
    refine hK _ _ (fun h => by simp at h) ?_
    clear hK
    refine tr_end ?_
    simp only [Exit.then]
    have hE3 : Ext w1 w4 := hw2.grown g4 (fun k hk => by cases hk; exact Nat.le_refl _)
    have hy4 : (ksRf (ksA d)).is w4 (w1.heap.size :: w.heap.size :: (w.heap.size + 1) :: X) [p0, p1, p2, p3, p4, p5] (toRf (toA d) type) := (ksRf (ksA d)).mv hy ((Mv.refl _ _).grown g4 (by intro k hk; cases hk; simp))
    have e1 : w4.heap[w.heap.size + 1]? = _ := (g4.block _ (by have := hw2.size; omega) (by simp; omega)).trans ((hw2.below.block _ (by omega)).trans hb2)
    clear hy g4 hw2 hE2 hbB
    obtain ⟨B, hBB⟩ : ∃ B, w.heap.size + 2 = B := ⟨_, rfl⟩
    rw [hs1] at h4 hy4
    rw [hBB] at h4 hy4 ⊢
    have hB2 : w.heap.size + 2 ≤ B := by omega
    clear hBB)
  all_goals (
    have hy4' := Lib.hid hy4
    clear hy4
    have f0 := cells_of h4 0
    have f1 := cells_of h4 1
    have f2 := cells_of h4 2
    have f3 := cells_of h4 3
    have f4 := cells_of h4 4
    have f5 := cells_of h4 5
    have f6 := cells_of h4 6
    have f7 := cells_of h4 7
    simp only [List.getElem?_toArray, List.getElem?_cons_zero, List.getElem?_cons_succ] at f0 f1 f2 f3 f4 f5 f6 f7
    replace c7 := hE3.keep c7
    clear c0 c1 c2 c3 c4 c5 c6
    cases dflt with
    | nil =>
      go_wp2_with (refine wpL_storeRow (cells := #[.string name, p0, p1, p2, p3, p4, p5, .nilIface]) rfl 123 _ _ rfl Try.size123 rfl rfl e1 rfl (by simp [u0, u1, u2, u3, u4, u5, str_one, nil_one]) ?_; intro w6 h6 g6)
      go_simp
      have z0 := cells_of h6 0
      have z1 := cells_of h6 1
      have z2 := cells_of h6 2
      have z3 := cells_of h6 3
      have z4 := cells_of h6 4
      have z5 := cells_of h6 5
      have z6 := cells_of h6 6
      have z7 := cells_of h6 7
      simp only [List.getElem?_toArray, List.getElem?_cons_zero, List.getElem?_cons_succ] at z0 z1 z2 z3 z4 z5 z6 z7
      refine bodyPost_ret (by simp [results, Try.results55, go_sem, z0, z1, z2, z3, z4, z5, z6, z7]; try rfl) rfl ?_
      exact hR'.out w6 [_, _, _, _, _, _, _, _] ((hE1.trans hE3).grown g6 (fun k hk => by cases hk; omega)) ⟨[p0, p1, p2, p3, p4, p5], _, rfl, (ksRf (ksA d)).mv hy4'.out (((Mv.refl _ _).grown g6 (by intro k hk; cases hk; simp)).less fun b hb => by simp [hb]), .null, hl⟩
    | cons v vs =>
      obtain ⟨x, q0, q1, q2, q3, q4, q5, hx⟩ := hk4.out 0 (by simp)
      obtain ⟨rfl, hdX⟩ := hk3.out (by simp)
      have hEE := hE1.trans hE3
      simp only [Nat.zero_mul, Nat.add_zero] at q0 q1 q2 q3 q4 q5
      have hgt : decide ((0 : Int) < ((v :: vs).length : Int)) = true := by simp
      have hlp : (0 : Int) < ((v :: vs).length : Int) := by simp
      replace q0 := hEE.keep q0
      replace q1 := hEE.keep q1
      replace q2 := hEE.keep q2
      replace q3 := hEE.keep q3
      replace q4 := hEE.keep q4
      replace q5 := hEE.keep q5
      have hx' := Lib.hid hx
      clear hx
      go_wp2_with fail
      have hBl := (Array.getElem?_eq_some_iff.1 h4).1
      refine plain_all v _ (B :: w.heap.size :: (w.heap.size + 1) :: X) x.list (hx'.out.mv ((((hEE.mv X).more (n := w.heap.size + 1) (by omega)).more (Nat.le_refl _)).more (by omega))) (.cons hBl (.cons (by omega) (.cons (by omega) (hX'.out.le hEE.size)))) _ ?_
      intro w5 y hE5 hyT
      have hyo := hyT.one
      have hyT' := Lib.hid hyT
      clear hyT q0 q1 q2 q3 q4 q5
      have h5 : w5.heap[B]? = _ := (hE5.below.block _ hBl).trans h4
      have e5 : w5.heap[w.heap.size + 1]? = _ := (hE5.below.block _ (by omega)).trans e1
      dsimp only
      go_wp2_with (first | (refine wpL_store1 rfl 20 _ _ rfl Try.info20 (p := ⟨B, 7, none⟩) (v := y) rfl rfl hyo (by rw [cells_of h5 7]; rfl) (frozen_of_row _ _ _ _ _ h5) ?_; obtain ⟨h7, g7, -⟩ := set_facts (off := 7) y h5; generalize w5.setCell ⟨B, 7, none⟩ y = w7 at h7 g7 ⊢; clear f0 f1 f2 f3 f4 f5 f6 f7; have f0 : w7.cell? ⟨B, 0, none⟩ = some (.string name) := cells_of h7 0; have f1 : w7.cell? ⟨B, 1, none⟩ = some p0 := cells_of h7 1; have f2 : w7.cell? ⟨B, 2, none⟩ = some p1 := cells_of h7 2; have f3 : w7.cell? ⟨B, 3, none⟩ = some p2 := cells_of h7 3; have f4 : w7.cell? ⟨B, 4, none⟩ = some p3 := cells_of h7 4; have f5 : w7.cell? ⟨B, 5, none⟩ = some p4 := cells_of h7 5; have f6 : w7.cell? ⟨B, 6, none⟩ = some p5 := cells_of h7 6; have f7 : w7.cell? ⟨B, 7, none⟩ = some y := cells_of h7 7; have e7 : w7.heap[w.heap.size + 1]? = _ := (g7.block _ (by have := hE5.size; omega) (by simp; omega)).trans e5) | (refine wpL_storeRow (cells := #[.string name, p0, p1, p2, p3, p4, p5, y]) rfl 123 _ _ rfl Try.size123 rfl rfl e7 rfl (by simp [u0, u1, u2, u3, u4, u5, str_one, hyo]) ?_; intro w6 h6 g6))
      go_simp
      have z0 := cells_of h6 0
      have z1 := cells_of h6 1
      have z2 := cells_of h6 2
      have z3 := cells_of h6 3
      have z4 := cells_of h6 4
      have z5 := cells_of h6 5
      have z6 := cells_of h6 6
      have z7 := cells_of h6 7
      simp only [List.getElem?_toArray, List.getElem?_cons_zero, List.getElem?_cons_succ] at z0 z1 z2 z3 z4 z5 z6 z7
      refine bodyPost_ret (by simp [results, Try.results55, go_sem, z0, z1, z2, z3, z4, z5, z6, z7]; try rfl) rfl ?_
      have hm := ((hE5.mv (B :: w.heap.size :: (w.heap.size + 1) :: X)).grown g7 (by intro k hk; cases hk; simp)).grown g6 (by intro k hk; cases hk; simp)
      have hm2 := ((Mv.refl w5 (B :: w.heap.size :: (w.heap.size + 1) :: X)).grown g7 (by intro k hk; cases hk; simp)).grown g6 (by intro k hk; cases hk; simp)
      exact hR'.out w6 [_, _, _, _, _, _, _, _] (((hEE.trans hE5).grown g7 (fun k hk => by cases hk; omega)).grown g6 (fun k hk => by cases hk; omega)) ⟨[p0, p1, p2, p3, p4, p5], _, rfl, (ksRf (ksA d)).mv hy4'.out (hm.less fun b hb => by simp [hb]), hyT'.out.mv (hm2.less fun b hb => by simp [hb]), hl⟩)

end Go.Proofs.Ytnndacgokehkpaa
