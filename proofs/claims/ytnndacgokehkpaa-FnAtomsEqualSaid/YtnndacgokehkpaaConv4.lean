/- impl.toAtom: all types, of however many levels. -/
import Derived.Test.YtnndacgokehkpaaConv3
import Derived.Deep.DeepCutAuto
namespace Go.Proofs.Ytnndacgokehkpaa
open Go.RowKit

theorem Try.info70 : (Try.prog.info? 70).map (fun i => (i.zero, i.size, i.bytes)) = some (some (.pointer none), 1, 8) := by kernel_rfl
theorem Try.info71 : (Try.prog.info? 71).map (fun i => (i.zero, i.size, i.bytes)) = some (some (.pointer none), 1, 8) := by kernel_rfl
theorem Try.info72 : (Try.prog.info? 72).map (fun i => (i.zero, i.size, i.bytes)) = some (some (.pointer none), 1, 8) := by kernel_rfl

theorem nine_of {cs : List Value} (h : cs.length = 9) : ∃ c0 c1 c2 c3 c4 c5 c6 c7 c8, cs = [c0, c1, c2, c3, c4, c5, c6, c7, c8] := by
  match cs, h with
  | [c0, c1, c2, c3, c4, c5, c6, c7, c8], _ => exact ⟨_, _, _, _, _, _, _, _, _, rfl⟩

set_option maxRecDepth 100000 in
set_option maxHeartbeats 16000000 in
set_option pp.maxSteps 1000000 in
set_option pp.deepTerms true in
theorem toAtom_step {d : Nat} (ih : ToAtomC d) : ToAtomC (d + 1) := by
  intro w X cs a ha hX R hR
  obtain ⟨s, ls, ms⟩ := a
  obtain ⟨vl, vm, rfl, hs, hls, hms⟩ := ha
  obtain ⟨lo, lc, lb, loff, rfl, l1, l2, l3, l4⟩ := id hls.ex
  obtain ⟨mo, mc, mb, moff, rfl, m1, m2, m3, m4⟩ := id hms.ex
  have hl3 := Lib.hid l3
  have hl4 := Lib.hid l4
  have hm3 := Lib.hid m3
  have hm4 := Lib.hid m4
  have hR' := Lib.hid hR
  have hX' := Lib.hid hX
  have hih := Lib.hid ih
  clear hR hX ih l1 l2 l3 l4 m1 m2 m3 m4 hls hms
  go_enter Try.func29, Try.ntmps29
  go_upto_if 10 with (fail)
  refine abs3 (G := Code.wp _ _ _ _) ?_
  intro w1 hE1 hb1 hb2 hb3 hs1
  go_cut [] (fun wx => ∃ ps, Ext w wx ∧ w1.heap.size ≤ wx.heap.size ∧ wx.heap[w.heap.size]? = w1.heap[w.heap.size]? ∧ wx.heap[w.heap.size + 1]? = w1.heap[w.heap.size + 1]? ∧ wx.heap[w.heap.size + 2]? = some (.cells #[ps, .pointer none, .pointer none] 74 (0, 0)) ∧
    IsP kS wx (w.heap.size :: (w.heap.size + 1) :: (w.heap.size + 2) :: X) ps (if s = ⟨#[]⟩ then none else some s))
  case first =>
    have c0 : w1.cell? ⟨w.heap.size, 0, none⟩ = some (.string s) := cells_of hb1 0
    have k3 : w.heap.size + 2 < w1.heap.size := by omega
    have hq := (alloc_old w1 (.cells #[.string s] 93 (0, 0)) k3).trans hb3
    have hq' := Lib.hid hq
    have hs1' := Lib.hid hs1
    clear hq hs1
    cases hse : s.toList.isEmpty
    · go_wp2_with (refine wpL_store1 rfl 70 _ _ rfl Try.info70 (p := ⟨w.heap.size + 2, 0, none⟩) (v := .pointer (some ⟨w1.heap.size, 0, none⟩)) rfl rfl rfl (by rw [cells_of hq'.out 0]; rfl) (frozen_of_row _ _ _ _ _ hq'.out) ?_)
      obtain ⟨e3, g5, -⟩ := set_facts (off := 0) (.pointer (some ⟨w1.heap.size, 0, none⟩)) ((alloc_old w1 (.cells #[.string s] 93 (0, 0)) (by omega)).trans hb3)
      have e5 := alloc_new w1 (.cells #[.string s] 93 (0, 0)) rfl
      have hE4 := Ext.alloc w1 (.cells #[.string s] 93 (0, 0))
      generalize (w1.alloc (.cells #[.string s] 93 (0, 0))) = w4 at e3 e5 g5 hE4 ⊢
      generalize w4.setCell ⟨w.heap.size + 2, 0, none⟩ (.pointer (some ⟨w1.heap.size, 0, none⟩)) = w5 at e3 g5 ⊢
      go_meet
      refine ⟨_, (hE1.trans hE4).grown g5 (fun k hk => by cases hk; omega), by have := hE4.size; have := g5.size; omega, (g5.block _ (by have := hE4.size; omega) (by simp)).trans (hE4.below.block _ (by omega)), (g5.block _ (by have := hE4.size; omega) (by simp)).trans (hE4.below.block _ (by omega)), e3, ?_⟩
      rw [if_neg (empty_ne hse)]
      exact IsP.of_block (cs := [.string s]) ((g5.block _ (Array.getElem?_eq_some_iff.1 e5).1 (by simp; omega)).trans e5) (by have hz := hs1'.out; simp only [List.mem_cons, not_or]; exact ⟨by omega, by omega, by omega, fun h => by have := hX'.out _ h; omega⟩) ⟨rfl, hs⟩
    · go_wp2_with fail
      go_meet
      refine ⟨_, hE1, Nat.le_refl _, rfl, rfl, hb3, ?_⟩
      rw [if_pos (empty_eq hse)]
      rfl
  case rest =>
    obtain ⟨ps, hE2, hs2, hx1, hx2, hx3, hps⟩ := hcut
    have hpo := hps.one
    have hps' := Lib.hid hps
    clear hps
    rename World => wx
    replace hx1 := hx1.trans hb1
    replace hx2 := hx2.trans hb2
    have c1 : wx.cell? ⟨w.heap.size, 1, none⟩ = some (.slice lo ls.length lc) := cells_of hx1 1
    go_upto_if 17 with (fail)
    go_cut [] (fun wy => ∃ pl, Ext w wy ∧ wx.heap.size ≤ wy.heap.size ∧ wy.heap[w.heap.size]? = wx.heap[w.heap.size]? ∧ wy.heap[w.heap.size + 1]? = wx.heap[w.heap.size + 1]? ∧ wy.heap[w.heap.size + 2]? = some (.cells #[ps, pl, .pointer none] 74 (0, 0)) ∧
      IsP kS wy (w.heap.size :: (w.heap.size + 1) :: (w.heap.size + 2) :: X) ps (if s = ⟨#[]⟩ then none else some s) ∧ IsP (ksLt (ksA d)) wy (w.heap.size :: (w.heap.size + 1) :: (w.heap.size + 2) :: X) pl (ls.head?.map (toLt (toA d))))
    case first =>
      cases ls with
      | nil =>
        go_wp2_with fail
        go_meet
        exact ⟨_, hE2, Nat.le_refl _, rfl, rfl, hx3, hps'.out, rfl⟩
      | cons l0 ls =>
        have e8 : (kLt (kA d)).size = 8 := by simp [kLt, kA_size]
        obtain ⟨cs', hc, hcs⟩ := hl4.out 0 (by simp)
        rw [e8] at hc
        obtain ⟨rfl, hdX⟩ := hl3.out (by simp)
        obtain ⟨t0, t1, t2, t3, t4, t5, t6, t7, rfl⟩ := eight_of (by rw [(kLt (kA d)).len hcs, e8])
        have m0 := hE2.keep (hc 0 (by omega))
        have m1 := hE2.keep (hc 1 (by omega))
        have m2 := hE2.keep (hc 2 (by omega))
        have m3 := hE2.keep (hc 3 (by omega))
        have m4 := hE2.keep (hc 4 (by omega))
        have m5 := hE2.keep (hc 5 (by omega))
        have m6 := hE2.keep (hc 6 (by omega))
        have m7 := hE2.keep (hc 7 (by omega))
        simp only [Nat.zero_mul, Nat.add_zero] at m0 m1 m2 m3 m4 m5 m6 m7
        have hgt : decide ((0 : Int) < ((l0 :: ls).length : Int)) = true := by simp
        have hgn : decide (0 < (l0 :: ls).length) = true := by simp
        have hlp : (0 : Int) < ((l0 :: ls).length : Int) := by simp
        have hcs' := Lib.hid hcs
        have hz := Lib.hid hs1
        have hB3 := Lib.hid hx3
        clear hcs hc e8 hs1 hx3
        go_wp2_with fail
        refine toListType_c hih.out (X := (w.heap.size :: (w.heap.size + 1) :: (w.heap.size + 2) :: X)) ((kLt (kA d)).mv hcs'.out ((((hE2.mv X).more (n := w.heap.size + 2) (by omega)).more (n := w.heap.size + 1) (by omega)).more (Nat.le_refl _))) (.cons (by have := hz.out; omega) (.cons (by have := hz.out; omega) (.cons (by have := hz.out; omega) (hX'.out.le hE2.size)))) _ ?_
        intro w5 cs5 hE5 hy5
        obtain ⟨p0, p1, p2, p3, p4, p5, p6, p7, rfl⟩ := eight_of (by rw [(ksLt (ksA d)).len hy5]; simp [ksLt, ksA_size])
        have hy5' := Lib.hid hy5
        have hpo := (ksLt (ksA d)).one hy5
        have u0 := hpo p0 (by simp)
        have u1 := hpo p1 (by simp)
        have u2 := hpo p2 (by simp)
        have u3 := hpo p3 (by simp)
        have u4 := hpo p4 (by simp)
        have u5 := hpo p5 (by simp)
        have u6 := hpo p6 (by simp)
        have u7 := hpo p7 (by simp)
        clear m0 m1 m2 m3 m4 m5 m6 m7 hy5 hpo
        have hB5 : w5.heap[w.heap.size + 2]? = _ := (hE5.below.block _ (by have := hz.out; omega)).trans hB3.out
        have hBl := (Array.getElem?_eq_some_iff.1 hB5).1
        dsimp only
        go_wp2_with (first | (refine wpL_storeRow (cells := #[p0, p1, p2, p3, p4, p5, p6, p7]) rfl 100 _ _ rfl Try.size100 rfl rfl (alloc_new _ _ rfl) rfl (by simp [u0, u1, u2, u3, u4, u5, u6, u7]) ?_; intro w6 h6 g6; have hE6 : Ext w5 w6 := ((Ext.refl w5).push _).grown g6 (fun k hk => by cases hk; exact Nat.le_refl _); have hB6 : w6.heap[w.heap.size + 2]? = _ := (hE6.below.block _ hBl).trans hB5) | (refine wpL_store1 rfl 71 _ _ rfl Try.info71 (p := ⟨w.heap.size + 2, 1, none⟩) (v := .pointer (some ⟨w5.heap.size, 0, none⟩)) rfl rfl rfl (by rw [cells_of hB6 1]; rfl) (frozen_of_row _ _ _ _ _ hB6) ?_; obtain ⟨h7, g7, -⟩ := set_facts (off := 1) (.pointer (some ⟨w5.heap.size, 0, none⟩)) hB6; generalize w6.setCell ⟨w.heap.size + 2, 1, none⟩ (.pointer (some ⟨w5.heap.size, 0, none⟩)) = w7 at h7 g7 ⊢))
        go_meet
        have hEE := hE5.trans hE6
        have hm : Mv w5 (w.heap.size :: (w.heap.size + 1) :: (w.heap.size + 2) :: X) w7 (w.heap.size :: (w.heap.size + 1) :: (w.heap.size + 2) :: X) := (hE6.mv _).grown g7 (by intro k hk; cases hk; simp)
        have hm0 := (hE5.mv (w.heap.size :: (w.heap.size + 1) :: (w.heap.size + 2) :: X)).trans hm
        have h67 : w7.heap[w5.heap.size]? = _ := (g7.block _ (Array.getElem?_eq_some_iff.1 h6).1 (by simp; omega)).trans h6
        refine ⟨_, (hE2.trans hEE).grown g7 (fun k hk => by cases hk; omega), by have := hEE.size; have := g7.size; omega, (g7.block _ (by have := hEE.size; have := hz.out; omega) (by simp)).trans (hEE.below.block _ (by have := hz.out; omega)), (g7.block _ (by have := hEE.size; have := hz.out; omega) (by simp)).trans (hEE.below.block _ (by have := hz.out; omega)), h7, hps'.out.mv hm0, ?_⟩
        exact IsP.of_block (cs := [p0, p1, p2, p3, p4, p5, p6, p7]) h67 (by have := hz.out; have := hE5.size; simp only [List.mem_cons, not_or]; exact ⟨by omega, by omega, by omega, fun h => by have := hX'.out _ h; omega⟩) ((ksLt (ksA d)).mv hy5'.out hm)
    case rest =>
      obtain ⟨pl, hE3, hsy, hy1, hy2, hy3, hps2, hpl⟩ := hcut
      have hlo := hpl.one
      have hps2' := Lib.hid hps2
      have hpl' := Lib.hid hpl
      clear hps2 hpl hps'
      rename World => wy
      replace hy1 := hy1.trans hx1
      replace hy2 := hy2.trans hx2
      clear c1
      have c2 : wy.cell? ⟨w.heap.size, 2, none⟩ = some (.slice mo ms.length mc) := cells_of hy1 2
      go_upto_if 27 with (fail)
      go_cut [] (fun wz => ∃ pm, Ext w wz ∧ wy.heap.size ≤ wz.heap.size ∧ wz.heap[w.heap.size]? = wy.heap[w.heap.size]? ∧ wz.heap[w.heap.size + 1]? = wy.heap[w.heap.size + 1]? ∧ wz.heap[w.heap.size + 2]? = some (.cells #[ps, pl, pm] 74 (0, 0)) ∧
        IsP kS wz (w.heap.size :: (w.heap.size + 1) :: (w.heap.size + 2) :: X) ps (if s = ⟨#[]⟩ then none else some s) ∧ IsP (ksLt (ksA d)) wz (w.heap.size :: (w.heap.size + 1) :: (w.heap.size + 2) :: X) pl (ls.head?.map (toLt (toA d))) ∧ IsP (ksMt (ksA d)) wz (w.heap.size :: (w.heap.size + 1) :: (w.heap.size + 2) :: X) pm (ms.head?.map (toMt (toA d))))
      case first =>
        cases ms with
        | nil =>
          go_wp2_with fail
          go_meet
          exact ⟨_, hE3, Nat.le_refl _, rfl, rfl, hy3, hps2'.out, hpl'.out, rfl⟩
        | cons m0_ ms =>
          have e8 : (kMt (kA d)).size = 8 := by simp [kMt, kA_size]
          obtain ⟨cs', hc, hcs⟩ := hm4.out 0 (by simp)
          rw [e8] at hc
          obtain ⟨rfl, hdX⟩ := hm3.out (by simp)
          obtain ⟨t0, t1, t2, t3, t4, t5, t6, t7, rfl⟩ := eight_of (by rw [(kMt (kA d)).len hcs, e8])
          have m0 := hE3.keep (hc 0 (by omega))
          have m1 := hE3.keep (hc 1 (by omega))
          have m2 := hE3.keep (hc 2 (by omega))
          have m3 := hE3.keep (hc 3 (by omega))
          have m4 := hE3.keep (hc 4 (by omega))
          have m5 := hE3.keep (hc 5 (by omega))
          have m6 := hE3.keep (hc 6 (by omega))
          have m7 := hE3.keep (hc 7 (by omega))
          simp only [Nat.zero_mul, Nat.add_zero] at m0 m1 m2 m3 m4 m5 m6 m7
          have hgt : decide ((0 : Int) < ((m0_ :: ms).length : Int)) = true := by simp
          have hgn : decide (0 < (m0_ :: ms).length) = true := by simp
          have hlp : (0 : Int) < ((m0_ :: ms).length : Int) := by simp
          have hcs' := Lib.hid hcs
          have hz := Lib.hid hs1
          have hB3 := Lib.hid hy3
          clear hcs hc e8 hs1 hy3
          go_wp2_with fail
          refine toMap_c hih.out (X := (w.heap.size :: (w.heap.size + 1) :: (w.heap.size + 2) :: X)) ((kMt (kA d)).mv hcs'.out ((((hE3.mv X).more (n := w.heap.size + 2) (by omega)).more (n := w.heap.size + 1) (by omega)).more (Nat.le_refl _))) (.cons (by have := hz.out; omega) (.cons (by have := hz.out; omega) (.cons (by have := hz.out; omega) (hX'.out.le hE3.size)))) _ ?_
          intro w5 cs5 hE5 hy5
          obtain ⟨p0, p1, p2, p3, p4, p5, p6, p7, p8, rfl⟩ := nine_of (by rw [(ksMt (ksA d)).len hy5]; simp [ksMt, ksA_size])
          have hy5' := Lib.hid hy5
          have hpo := (ksMt (ksA d)).one hy5
          have u0 := hpo p0 (by simp)
          have u1 := hpo p1 (by simp)
          have u2 := hpo p2 (by simp)
          have u3 := hpo p3 (by simp)
          have u4 := hpo p4 (by simp)
          have u5 := hpo p5 (by simp)
          have u6 := hpo p6 (by simp)
          have u7 := hpo p7 (by simp)
          have u8 := hpo p8 (by simp)
          clear m0 m1 m2 m3 m4 m5 m6 m7 hy5 hpo
          have hB5 : w5.heap[w.heap.size + 2]? = _ := (hE5.below.block _ (by have := hz.out; omega)).trans hB3.out
          have hBl := (Array.getElem?_eq_some_iff.1 hB5).1
          dsimp only
          go_wp2_with (first | (refine wpL_storeRow (cells := #[p0, p1, p2, p3, p4, p5, p6, p7, p8]) rfl 105 _ _ rfl Try.size105 rfl rfl (alloc_new _ _ rfl) rfl (by simp [u0, u1, u2, u3, u4, u5, u6, u7, u8]) ?_; intro w6 h6 g6; have hE6 : Ext w5 w6 := ((Ext.refl w5).push _).grown g6 (fun k hk => by cases hk; exact Nat.le_refl _); have hB6 : w6.heap[w.heap.size + 2]? = _ := (hE6.below.block _ hBl).trans hB5) | (refine wpL_store1 rfl 72 _ _ rfl Try.info72 (p := ⟨w.heap.size + 2, 2, none⟩) (v := .pointer (some ⟨w5.heap.size, 0, none⟩)) rfl rfl rfl (by rw [cells_of hB6 2]; rfl) (frozen_of_row _ _ _ _ _ hB6) ?_; obtain ⟨h7, g7, -⟩ := set_facts (off := 2) (.pointer (some ⟨w5.heap.size, 0, none⟩)) hB6; generalize w6.setCell ⟨w.heap.size + 2, 2, none⟩ (.pointer (some ⟨w5.heap.size, 0, none⟩)) = w7 at h7 g7 ⊢))
          go_meet
          have hEE := hE5.trans hE6
          have hm : Mv w5 (w.heap.size :: (w.heap.size + 1) :: (w.heap.size + 2) :: X) w7 (w.heap.size :: (w.heap.size + 1) :: (w.heap.size + 2) :: X) := (hE6.mv _).grown g7 (by intro k hk; cases hk; simp)
          have hm0 := (hE5.mv (w.heap.size :: (w.heap.size + 1) :: (w.heap.size + 2) :: X)).trans hm
          have h67 : w7.heap[w5.heap.size]? = _ := (g7.block _ (Array.getElem?_eq_some_iff.1 h6).1 (by simp; omega)).trans h6
          refine ⟨_, (hE3.trans hEE).grown g7 (fun k hk => by cases hk; omega), by have := hEE.size; have := g7.size; omega, (g7.block _ (by have := hEE.size; have := hz.out; omega) (by simp)).trans (hEE.below.block _ (by have := hz.out; omega)), (g7.block _ (by have := hEE.size; have := hz.out; omega) (by simp)).trans (hEE.below.block _ (by have := hz.out; omega)), h7, hps2'.out.mv hm0, hpl'.out.mv hm0, ?_⟩
          exact IsP.of_block (cs := [p0, p1, p2, p3, p4, p5, p6, p7, p8]) h67 (by have := hz.out; have := hE5.size; simp only [List.mem_cons, not_or]; exact ⟨by omega, by omega, by omega, fun h => by have := hX'.out _ h; omega⟩) ((ksMt (ksA d)).mv hy5'.out hm)
      case rest =>
        obtain ⟨pm, hE4, hsz, hz1, hz2, hz3, hps3, hpl3, hpm⟩ := hcut
        have hmo := hpm.one
        rename World => wz
        replace hz2 := hz2.trans hy2
        have v0 : wz.cell? ⟨w.heap.size + 2, 0, none⟩ = some ps := cells_of hz3 0
        have v1 : wz.cell? ⟨w.heap.size + 2, 1, none⟩ = some pl := cells_of hz3 1
        have v2 : wz.cell? ⟨w.heap.size + 2, 2, none⟩ = some pm := cells_of hz3 2
        have hps3' := Lib.hid hps3
        have hpl3' := Lib.hid hpl3
        have hpm' := Lib.hid hpm
        clear hps3 hpl3 hpm c2
        go_wp2_with (refine wpL_storeRow (cells := #[ps, pl, pm]) rfl 74 _ _ rfl Try.size74 rfl rfl hz2 rfl (by simp [hpo, hlo, hmo]) ?_; intro w6 h6 g6)
        go_simp
        have z0 := cells_of h6 0
        have z1 := cells_of h6 1
        have z2 := cells_of h6 2
        simp only [List.getElem?_toArray, List.getElem?_cons_zero, List.getElem?_cons_succ] at z0 z1 z2
        refine bodyPost_ret (by simp [results, Try.results29, go_sem, z0, z1, z2]; try rfl) rfl ?_
        have hm : Mv wz (w.heap.size :: (w.heap.size + 1) :: (w.heap.size + 2) :: X) w6 X := ((Mv.refl _ _).grown g6 (by intro k hk; cases hk; simp)).less fun b hb => by simp [hb]
        exact hR'.out w6 [_, _, _] (hE4.grown g6 (fun k hk => by cases hk; omega)) ⟨ps, pl, pm, rfl, hps3'.out.mv hm, hpl3'.out.mv hm, hpm'.out.mv hm⟩

theorem toAtom_c (d : Nat) : ToAtomC d := by
  induction d with
  | zero => intro w X cs a ha; exact ha.elim
  | succ d ih => exact toAtom_step ih

end Go.Proofs.Ytnndacgokehkpaa
