/- PathElementSet.Union, PathElementSet.Intersection (printed by gen_uni.py). -/
import Derived.Test.YtihapgangilncaaGreatKFHole
import Derived.Test.YtihapgangilncaaGreatKFRowS
import Derived.Test.YtihapgangilncaaGreatKFSetR
import Derived.Test.YtihapgangilncaaGreatKFPar
import Derived.Test.YtihapgangilncaaGreatKFOrder
import Derived.Test.YtihapgangilncaaGreatKFPeCmp
import Derived.WalkMore
namespace Go.Proofs.YtihapgangilncaaGreat
open Go.RowKit
set_option linter.unusedSimpArgs false

set_option maxRecDepth 100000 in
set_option maxHeartbeats 8000000 in
set_option pp.maxSteps 1000000 in
set_option pp.deepTerms true in
theorem esUnion_c {w : World} {X : List Nat} {b1 o1 b2 o2 : Nat} {sv tv : Value} {ms ks : List PEl} (h1 : w.cell? ⟨b1, o1, none⟩ = some sv) (hs : IsSl kPe 32 w X sv ms) (h2 : w.cell? ⟨b2, o2, none⟩ = some tv) (ht : IsSl kPe 32 w X tv ks)
    (hbytes : (ms.length + ks.length) * 32 ≤ 140737488351232) (hX : Old X w) (R : Ending → World → Prop)
    (hR : ∀ w' bn v', Ext w w' → bn ∉ X → w'.cell? ⟨bn, 0, none⟩ = some v' → IsSl kPe 32 w' X v' (unionM cmpPe ms ks) → R (.returned (.pointer (some ⟨bn, 0, none⟩))) w') :
    Calls Tryz.prog 124 #[.pointer (some ⟨b1, o1, none⟩), .pointer (some ⟨b2, o2, none⟩)] w R := by
  obtain ⟨mo, mc, mb, moff, rfl, m2, m3, m4, m5⟩ := id hs.ex
  obtain ⟨ko, kc, kb, koff, rfl, k2, k3, k4, k5⟩ := id ht.ex
  have m4' := Lib.hid m4
  have m5' := Lib.hid m5
  have k4' := Lib.hid k4
  have k5' := Lib.hid k5
  have hs' := Lib.hid hs
  have ht' := Lib.hid ht
  have hX' := Lib.hid hX
  have hR' := Lib.hid hR
  have hmI : (ms.length : Int) ≤ 140737488351232 := by omega
  have hcI : (ks.length : Int) ≤ 140737488351232 := by omega
  have m2' := Lib.hid m2
  have k2' := Lib.hid k2
  have m3' := Lib.hid m3
  have hbb := Lib.hid hbytes
  clear hs ht hX hR m4 m5 k4 k5 hbytes m2 k2 m3 k3
  go_enter Tryz.func124, Tryz.ntmps124
  go_upto_region 2 with (fail)
  refine abs1 (G := Code.wp _ _ _ _) ?_
  intro w1 hE1 hb1 hs1
  have hb1' := Lib.hid hb1
  clear hb1 hs1
  go_wp2_with fail
  have hf0 : Hid (Row kPe 89 w1 (w.heap.size :: X) (.slice none 0 0) ([] : List PEl)) := Lib.hid (Row.nil _ _ _ _)
  have hu0 : Hid (unionM cmpPe ms ks = [] ++ unionM cmpPe (ms.drop 0) (ks.drop 0)) := Lib.hid rfl
  go_loopw [6, 7] (fun i j wr => ∃ (p q : Nat) (v : Value) (us : List PEl), p ≤ ms.length ∧ q ≤ ks.length ∧ i = .int .i64 p ∧ j = .int .i64 q ∧ Ext w wr ∧ Hid (wr.heap[w.heap.size]? = some (.cells #[v] 81 (0, 0))) ∧ Hid (∀ g, v.ownBlock = some g → w.heap.size + 1 ≤ g) ∧
      Hid (Row kPe 89 wr (w.heap.size :: X) v us) ∧ Hid (unionM cmpPe ms ks = us ++ unionM cmpPe (ms.drop p) (ks.drop q)) ∧ Hid (us.length ≤ p + q)) (fun i j _ => (ms.length - (intOf i).toNat) + (ks.length - (intOf j).toNat))
  case atStart => exact ⟨0, 0, _, [], Nat.zero_le _, Nat.zero_le _, rfl, rfl, hE1, hb1', Lib.hid (fun g h => by simp [Value.ownBlock] at h), hf0, hu0, Lib.hid (by simp)⟩
  case round =>
    obtain ⟨p, q, v, us, hp, hq, rfl, rfl, hEr, hbx, hgv, hrow, hun, hul⟩ := hrel
    rename World => wr
    clear hf0 hu0 hb1'
    have d1 := hEr.keep h1
    have d2 := hEr.keep h2
    have hbo := cells_of hbx.out 0
    have hvo := hrow.out.one
    by_cases hlt : p < ms.length ∧ q < ks.length
    · obtain ⟨hlm, hlk⟩ := hlt
      obtain ⟨xs, hc, hcs⟩ := m5'.out p hlm
      obtain ⟨ys, hd, hds⟩ := k5'.out q hlk
      obtain ⟨rfl, -⟩ := m4'.out (by omega)
      obtain ⟨rfl, -⟩ := k4'.out (by omega)
      obtain ⟨x0, x1, x2, x3, rfl⟩ := kPe_four hcs
      obtain ⟨y0, y1, y2, y3, rfl⟩ := kPe_four hds
      have hnx := Lib.hid hcs
      have hny := Lib.hid hds
      have hpe := Lib.hid hcs
      have hpk := Lib.hid hds
      simp only [show kPe.size = 4 from rfl] at hc hd
      have a0 := hc 0 (by decide)
      have a1 := hc 1 (by decide)
      have a2 := hc 2 (by decide)
      have a3 := hc 3 (by decide)
      have z0 := hd 0 (by decide)
      have z1 := hd 1 (by decide)
      have z2 := hd 2 (by decide)
      have z3 := hd 3 (by decide)
      simp only [Nat.add_zero] at a0 z0
      have q0 := hEr.keep a0
      have q1 := hEr.keep a1
      have q2 := hEr.keep a2
      have q3 := hEr.keep a3
      have r0 := hEr.keep z0
      have r1 := hEr.keep z1
      have r2 := hEr.keep z2
      have r3 := hEr.keep z3
      have hi1 : (p : Int) < (ms.length : Int) := by omega
      have hj1 : (q : Int) < (ks.length : Int) := by omega
      have hkm : (p : Int) + 1 ≤ 9223372036854775807 := by omega
      have hkq : (q : Int) + 1 ≤ 9223372036854775807 := by omega
      have hlt1 := Lib.hid (fun h : decide (cmpPe ms[p] ks[q] < 0) = true => unionM_lt (c := cmpPe) hlm hlk (of_decide_eq_true h))
      have hgt1 := Lib.hid (fun (h : decide (cmpPe ms[p] ks[q] < 0) = false) (h2 : decide (cmpPe ks[q] ms[p] < 0) = true) => unionM_gt (c := cmpPe) hlm hlk (of_decide_eq_false h) (of_decide_eq_true h2))
      have heq1 := Lib.hid (fun (h : decide (cmpPe ms[p] ks[q] < 0) = false) (h2 : decide (cmpPe ks[q] ms[p] < 0) = false) => unionM_eq (c := cmpPe) hlm hlk (of_decide_eq_false h) (of_decide_eq_false h2))
      have hb4 := Lib.hid (show (us.length + 1) * 32 ≤ 140737488355328 by have := hbb.out; have := hul.out; omega)
      have hb5 := Lib.hid (show us.length + 1 ≤ maxLen by rw [maxLen_eq]; have := hbb.out; have := hul.out; omega)
      clear hc hcs hd hds hbo
      go_wp2_with fail
      refine wp_region_script [0, 1, 2, 3, 4, 5, 6, 7, 8, 9, 10, 11, 12, 13] [] (fun w' => Ext wr w') [(.pure, 0), (.pure, 1), (.pure, 2), (.read, 3), (.pure, 4), (.pure, 5), (.read, 6), (.pure, 7), (.pure, 8), (.pure, 9), (.read, 10), (.pure, 11), (.pure, 12), (.read, 13), (.one, 14)] (by kernel_rfl) (by kernel_rfl) ?_
      have hC : Ext wr wr.drew := (Ext.refl _).drew
      iterate 3 (apply scr_pure'; (· rfl); (· rfl); (· (intro w'; go_simp; try rfl)); (· (simp [go_sem]; try rfl)))
      (apply scr_read'; (· rfl); (· rfl); (· exact hC); (· (intro w' hw'; have d1_ := hw'.keep d1; go_simp; try rfl)); (· (simp [go_sem]; try rfl)))
      iterate 2 (apply scr_pure'; (· rfl); (· rfl); (· (intro w'; go_simp; try rfl)); (· (simp [go_sem]; try rfl)))
      (apply scr_read'; (· rfl); (· rfl); (· exact hC); (· (intro w' hw'; have q0_ := hw'.keep q0; have q1_ := hw'.keep q1; have q2_ := hw'.keep q2; have q3_ := hw'.keep q3; go_simp; try rfl)); (· (simp [go_sem]; try rfl)))
      iterate 3 (apply scr_pure'; (· rfl); (· rfl); (· (intro w'; go_simp; try rfl)); (· (simp [go_sem]; try rfl)))
      (apply scr_read'; (· rfl); (· rfl); (· exact hC); (· (intro w' hw'; have d2_ := hw'.keep d2; go_simp; try rfl)); (· (simp [go_sem]; try rfl)))
      iterate 2 (apply scr_pure'; (· rfl); (· rfl); (· (intro w'; go_simp; try rfl)); (· (simp [go_sem]; try rfl)))
      (apply scr_read'; (· rfl); (· rfl); (· exact hC); (· (intro w' hw'; have r0_ := hw'.keep r0; have r1_ := hw'.keep r1; have r2_ := hw'.keep r2; have r3_ := hw'.keep r3; go_simp; try rfl)); (· (simp [go_sem]; try rfl)))
      have hEd := Lib.hid (hEr.trans hC)
      refine scr_one rfl rfl (fun K hK => ?_)
      go_simp
      refine peLess_c (cs := [x0, x1, x2, x3]) (ds := [y0, y1, y2, y3]) (kPe.mv hpe.out (hEd.out.mv X)) (kPe.mv hpk.out (hEd.out.mv X)) _ ?_
      obtain ⟨r, hr⟩ : ∃ r, decide (cmpPe ms[p] ks[q] < 0) = r := ⟨_, rfl⟩
      rw [hr] at hlt1 hgt1 heq1 ⊢
      intro w2 hE2
      have hE22 := Lib.hid (hC.trans hE2)
      have hEr2 := Lib.hid (hEd.out.trans hE2)
      refine hK _ _ (fun h => by simp at h) ?_
      clear hK hC hE2 hr q0 q1 q2 q3 r0 r1 r2 r3 d1 d2
      have hb2 := Lib.hid ((hE22.out.below.block _ (Array.getElem?_eq_some_iff.1 hbx.out).1).trans hbx.out)
      have hrow2 := Lib.hid (hrow.out.ext hE22.out)
      refine scr_end ?_
      try simp only [Exit.then]
      cases r
      · skip
        have f2 := cells_of hb2.out 0
        have hl2 := Lib.hid (Array.getElem?_eq_some_iff.1 hb2.out).1
        have d2 := hEr2.out.keep h2
        have r0 := hEr2.out.keep z0
        have r1 := hEr2.out.keep z1
        have r2 := hEr2.out.keep z2
        have r3 := hEr2.out.keep z3
        go_wp2_with fail
        refine wp_region_script [0, 1, 2, 3, 4, 5, 6, 7, 8, 9, 10, 11, 14, 15] [12] (fun w' => Ext w2 w') [(.pure, 0), (.pure, 1), (.pure, 2), (.pure, 3), (.read, 4), (.pure, 5), (.pure, 6), (.pure, 7), (.read, 8), (.pure, 9), (.pure, 10), (.read, 11), (.one, 12), (.one, 13), (.pure, 14), (.pure, 15), (.one, 16)] (by kernel_rfl) (by kernel_rfl) ?_
        have hC : Ext w2 w2.drew := (Ext.refl _).drew
        iterate 4 (apply scr_pure'; (· rfl); (· rfl); (· (intro w'; go_simp; try rfl)); (· (simp [go_sem]; try rfl)))
        (apply scr_read'; (· rfl); (· rfl); (· exact hC); (· (intro w' hw'; have f2_ := hw'.keep f2; go_simp; try rfl)); (· (simp [go_sem]; try rfl)))
        iterate 3 (apply scr_pure'; (· rfl); (· rfl); (· (intro w'; go_simp; try rfl)); (· (simp [go_sem]; try rfl)))
        (apply scr_read'; (· rfl); (· rfl); (· exact hC); (· (intro w' hw'; have d2_ := hw'.keep d2; go_simp; try rfl)); (· (simp [go_sem]; try rfl)))
        iterate 2 (apply scr_pure'; (· rfl); (· rfl); (· (intro w'; go_simp; try rfl)); (· (simp [go_sem]; try rfl)))
        (apply scr_read'; (· rfl); (· rfl); (· exact hC); (· (intro w' hw'; have r0_ := hw'.keep r0; have r1_ := hw'.keep r1; have r2_ := hw'.keep r2; have r3_ := hw'.keep r3; go_simp; try rfl)); (· (simp [go_sem]; try rfl)))
        have hE3 := Lib.hid (hEr2.out.trans hC)
        have hu3 := Lib.hid (kPe.mv hny.out (((hE3.out.mv X).more (n := w.heap.size) (Nat.le_refl _)).moreL (Z := vb v) (fun g hg => Nat.le_of_succ_le (hgv.out g (by simpa [vb] using hg)))))
        have hXo := Lib.hid (show Old (w.heap.size :: X) w2.drew from .cons (Nat.lt_of_lt_of_le hl2.out hC.size) (hX'.out.le hE3.out.size))
        have hC' := Lib.hid hC
        refine scr_one rfl rfl (fun K hK => ?_)
        go_simp
        refine hK _ _ (fun _ => hC.push _) ?_
        clear hK hC
        clear d2 r0 r1 r2 r3
        refine scr_one rfl rfl (fun K hK => ?_)
        refine wp_rowApp (c := #[y0, y1, y2, y3]) (u := ks[q]) hrow2.out hC'.out hXo.out hu3.out _ _ _ rfl Tryz.underlying79 Tryz.info89 rfl (by decide) (by go_simp) (by go_simp) hb4.out hb5.out ?_
        intro v' w8 hr8 hg8 hne8 hd8
        have hv8 := hr8.one
        have hb8 := Lib.hid ((hg8.block w.heap.size (Nat.lt_of_lt_of_le hl2.out hC'.out.size) (hrow2.out.notin (by simp))).trans ((hC'.out.below.block _ hl2.out).trans hb2.out))
        have hr8' := Lib.hid hr8
        have hg8' := Lib.hid hg8
        have hd8' := Lib.hid hd8
        clear hr8 hg8 hne8 hd8 f2
        refine hK _ _ (fun h => by simp at h) ?_
        clear hK
        iterate 2 (apply scr_pure'; (· rfl); (· rfl); (· (intro w'; go_simp; try rfl)); (· (simp [go_sem]; try rfl)))
        refine scr_one rfl rfl (fun K hK => ?_)
        refine wp_storeC (new := #[v']) (b := w.heap.size) (off := 0) 79 _ _ rfl Tryz.info79 (by go_simp) (by go_simp) hv8 hb8.out (by simp) rfl ?_
        intro w9 h9 g9
        have h9' := Lib.hid h9
        have g9' := Lib.hid g9
        clear h9 g9
        refine hK _ _ (fun h => by simp at h) ?_
        clear hK
        refine scr_end ?_
        try simp only [Exit.then]
        have hgv9 := Lib.hid (show ∀ g, v'.ownBlock = some g → w.heap.size + 1 ≤ g from fun g hg => by
          rcases hd8'.out g hg with h | h
          · exact hgv.out g h
          · exact Nat.le_trans (Nat.succ_le_of_lt hl2.out) (Nat.le_trans hC'.out.size h))
        have hE9 := Lib.hid (show Ext w w9 from (hE3.out.grown hg8'.out (fun j hj => Nat.le_of_succ_le (hgv.out j hj))).grown g9'.out (fun j hj => by cases hj; exact Nat.le_refl _))
        have hr9 := Lib.hid (hr8'.out.keep g9'.out (by simp))
        have d1 := hE9.out.keep h1
        have d2 := hE9.out.keep h2
        have q0 := hE9.out.keep a0
        have q1 := hE9.out.keep a1
        have q2 := hE9.out.keep a2
        have q3 := hE9.out.keep a3
        have r0 := hE9.out.keep z0
        have r1 := hE9.out.keep z1
        have r2 := hE9.out.keep z2
        have r3 := hE9.out.keep z3
        go_wp2_with fail
        refine wp_region_script [0, 1, 2, 3, 4, 5, 6, 7, 8, 9, 10, 11, 12, 13, 15] [] (fun w' => Ext w9 w') [(.pure, 0), (.pure, 1), (.pure, 2), (.read, 3), (.pure, 4), (.pure, 5), (.read, 6), (.pure, 7), (.pure, 8), (.pure, 9), (.read, 10), (.pure, 11), (.pure, 12), (.read, 13), (.one, 14), (.pure, 15)] (by kernel_rfl) (by kernel_rfl) ?_
        have hC2 : Ext w9 w9.drew := (Ext.refl _).drew
        iterate 3 (apply scr_pure'; (· rfl); (· rfl); (· (intro w'; go_simp; try rfl)); (· (simp [go_sem]; try rfl)))
        (apply scr_read'; (· rfl); (· rfl); (· exact hC2); (· (intro w' hw'; have d2_ := hw'.keep d2; go_simp; try rfl)); (· (simp [go_sem]; try rfl)))
        iterate 2 (apply scr_pure'; (· rfl); (· rfl); (· (intro w'; go_simp; try rfl)); (· (simp [go_sem]; try rfl)))
        (apply scr_read'; (· rfl); (· rfl); (· exact hC2); (· (intro w' hw'; have r0_ := hw'.keep r0; have r1_ := hw'.keep r1; have r2_ := hw'.keep r2; have r3_ := hw'.keep r3; go_simp; try rfl)); (· (simp [go_sem]; try rfl)))
        iterate 3 (apply scr_pure'; (· rfl); (· rfl); (· (intro w'; go_simp; try rfl)); (· (simp [go_sem]; try rfl)))
        (apply scr_read'; (· rfl); (· rfl); (· exact hC2); (· (intro w' hw'; have d1_ := hw'.keep d1; go_simp; try rfl)); (· (simp [go_sem]; try rfl)))
        iterate 2 (apply scr_pure'; (· rfl); (· rfl); (· (intro w'; go_simp; try rfl)); (· (simp [go_sem]; try rfl)))
        (apply scr_read'; (· rfl); (· rfl); (· exact hC2); (· (intro w' hw'; have q0_ := hw'.keep q0; have q1_ := hw'.keep q1; have q2_ := hw'.keep q2; have q3_ := hw'.keep q3; go_simp; try rfl)); (· (simp [go_sem]; try rfl)))
        have hEe := Lib.hid (hE9.out.trans hC2)
        refine scr_one rfl rfl (fun K hK => ?_)
        go_simp
        refine peLess_c (cs := [y0, y1, y2, y3]) (ds := [x0, x1, x2, x3]) (kPe.mv hpk.out (hEe.out.mv X)) (kPe.mv hpe.out (hEe.out.mv X)) _ ?_
        obtain ⟨t, ht⟩ : ∃ t, decide (cmpPe ks[q] ms[p] < 0) = t := ⟨_, rfl⟩
        rw [ht] at hgt1 heq1 ⊢
        intro w6 hE6
        have hE66 := Lib.hid (hC2.trans hE6)
        have hE06 := Lib.hid (hEe.out.trans hE6)
        refine hK _ _ (fun h => by simp at h) ?_
        clear hK hC2 hE6 ht
        clear d1 d2 q0 q1 q2 q3 r0 r1 r2 r3
        cases t
        all_goals
          (apply scr_pure'; (· rfl); (· rfl); (· (intro w'; go_simp; try rfl)); (· (simp [go_sem]; try rfl)))
          refine scr_end ?_
          try simp only [Exit.then]
        · skip
          go_wp2_with fail
          go_roundw
          case rel => exact ⟨p + 1, q + 1, v', us ++ [ks[q]], by omega, by omega, by go_num, by go_num, hE06.out, Lib.hid ((hE66.out.below.block _ (Array.getElem?_eq_some_iff.1 h9'.out).1).trans h9'.out), hgv9, Lib.hid (hr9.out.ext hE66.out), Lib.hid (by rw [hun.out, heq1.out (by simp) (by simp)]; simp), Lib.hid (by have := hul.out; rw [List.length_append]; simp; omega)⟩
          case measure => simp [intOf]; omega
        · skip
          go_wp2_with fail
          go_roundw
          case rel => exact ⟨p, q + 1, v', us ++ [ks[q]], hp, by omega, rfl, by go_num, hE06.out, Lib.hid ((hE66.out.below.block _ (Array.getElem?_eq_some_iff.1 h9'.out).1).trans h9'.out), hgv9, Lib.hid (hr9.out.ext hE66.out), Lib.hid (by rw [hun.out, hgt1.out (by simp) (by simp)]; simp), Lib.hid (by have := hul.out; rw [List.length_append]; simp; omega)⟩
          case measure => simp [intOf]; omega
      · skip
        have f2 := cells_of hb2.out 0
        have hl2 := Lib.hid (Array.getElem?_eq_some_iff.1 hb2.out).1
        have d1 := hEr2.out.keep h1
        have q0 := hEr2.out.keep a0
        have q1 := hEr2.out.keep a1
        have q2 := hEr2.out.keep a2
        have q3 := hEr2.out.keep a3
        go_wp2_with fail
        refine wp_region_script [0, 1, 2, 3, 4, 5, 6, 7, 8, 9, 10, 11, 14, 15] [12] (fun w' => Ext w2 w') [(.pure, 0), (.pure, 1), (.pure, 2), (.pure, 3), (.read, 4), (.pure, 5), (.pure, 6), (.pure, 7), (.read, 8), (.pure, 9), (.pure, 10), (.read, 11), (.one, 12), (.one, 13), (.pure, 14), (.pure, 15), (.one, 16)] (by kernel_rfl) (by kernel_rfl) ?_
        have hC : Ext w2 w2.drew := (Ext.refl _).drew
        iterate 4 (apply scr_pure'; (· rfl); (· rfl); (· (intro w'; go_simp; try rfl)); (· (simp [go_sem]; try rfl)))
        (apply scr_read'; (· rfl); (· rfl); (· exact hC); (· (intro w' hw'; have f2_ := hw'.keep f2; go_simp; try rfl)); (· (simp [go_sem]; try rfl)))
        iterate 3 (apply scr_pure'; (· rfl); (· rfl); (· (intro w'; go_simp; try rfl)); (· (simp [go_sem]; try rfl)))
        (apply scr_read'; (· rfl); (· rfl); (· exact hC); (· (intro w' hw'; have d1_ := hw'.keep d1; go_simp; try rfl)); (· (simp [go_sem]; try rfl)))
        iterate 2 (apply scr_pure'; (· rfl); (· rfl); (· (intro w'; go_simp; try rfl)); (· (simp [go_sem]; try rfl)))
        (apply scr_read'; (· rfl); (· rfl); (· exact hC); (· (intro w' hw'; have q0_ := hw'.keep q0; have q1_ := hw'.keep q1; have q2_ := hw'.keep q2; have q3_ := hw'.keep q3; go_simp; try rfl)); (· (simp [go_sem]; try rfl)))
        have hE3 := Lib.hid (hEr2.out.trans hC)
        have hu3 := Lib.hid (kPe.mv hnx.out (((hE3.out.mv X).more (n := w.heap.size) (Nat.le_refl _)).moreL (Z := vb v) (fun g hg => Nat.le_of_succ_le (hgv.out g (by simpa [vb] using hg)))))
        have hXo := Lib.hid (show Old (w.heap.size :: X) w2.drew from .cons (Nat.lt_of_lt_of_le hl2.out hC.size) (hX'.out.le hE3.out.size))
        have hC' := Lib.hid hC
        refine scr_one rfl rfl (fun K hK => ?_)
        go_simp
        refine hK _ _ (fun _ => hC.push _) ?_
        clear hK hC
        clear d1 q0 q1 q2 q3
        refine scr_one rfl rfl (fun K hK => ?_)
        refine wp_rowApp (c := #[x0, x1, x2, x3]) (u := ms[p]) hrow2.out hC'.out hXo.out hu3.out _ _ _ rfl Tryz.underlying79 Tryz.info89 rfl (by decide) (by go_simp) (by go_simp) hb4.out hb5.out ?_
        intro v' w8 hr8 hg8 hne8 hd8
        have hv8 := hr8.one
        have hb8 := Lib.hid ((hg8.block w.heap.size (Nat.lt_of_lt_of_le hl2.out hC'.out.size) (hrow2.out.notin (by simp))).trans ((hC'.out.below.block _ hl2.out).trans hb2.out))
        have hr8' := Lib.hid hr8
        have hg8' := Lib.hid hg8
        have hd8' := Lib.hid hd8
        clear hr8 hg8 hne8 hd8 f2
        refine hK _ _ (fun h => by simp at h) ?_
        clear hK
        iterate 2 (apply scr_pure'; (· rfl); (· rfl); (· (intro w'; go_simp; try rfl)); (· (simp [go_sem]; try rfl)))
        refine scr_one rfl rfl (fun K hK => ?_)
        refine wp_storeC (new := #[v']) (b := w.heap.size) (off := 0) 79 _ _ rfl Tryz.info79 (by go_simp) (by go_simp) hv8 hb8.out (by simp) rfl ?_
        intro w9 h9 g9
        have h9' := Lib.hid h9
        have g9' := Lib.hid g9
        clear h9 g9
        refine hK _ _ (fun h => by simp at h) ?_
        clear hK
        refine scr_end ?_
        try simp only [Exit.then]
        have hgv9 := Lib.hid (show ∀ g, v'.ownBlock = some g → w.heap.size + 1 ≤ g from fun g hg => by
          rcases hd8'.out g hg with h | h
          · exact hgv.out g h
          · exact Nat.le_trans (Nat.succ_le_of_lt hl2.out) (Nat.le_trans hC'.out.size h))
        have hE9 := Lib.hid (show Ext w w9 from (hE3.out.grown hg8'.out (fun j hj => Nat.le_of_succ_le (hgv.out j hj))).grown g9'.out (fun j hj => by cases hj; exact Nat.le_refl _))
        have hr9 := Lib.hid (hr8'.out.keep g9'.out (by simp))
        go_wp2_with fail
        go_roundw
        case rel => exact ⟨p + 1, q, v', us ++ [ms[p]], by omega, hq, by go_num, rfl, hE9.out, h9', hgv9, hr9, Lib.hid (by rw [hun.out, hlt1.out (by simp)]; simp), Lib.hid (by have := hul.out; rw [List.length_append]; simp; omega)⟩
        case measure => simp [intOf]; omega
    · have hfin : Hid (unionM cmpPe ms ks = us ++ (ms.drop p ++ ks.drop q)) := Lib.hid (by rw [hun.out, unionM_end]; rw [Classical.not_and_iff_not_or_not] at hlt; rcases hlt with h | h; exact .inl (List.drop_eq_nil_of_le (by omega)); exact .inr (List.drop_eq_nil_of_le (by omega)))
      have hlen : Hid (us.length + (ms.length - p) + (ks.length - q) ≤ ms.length + ks.length) := Lib.hid (by have := hul.out; omega)
      have hEr' := Lib.hid hEr
      clear hbo
      by_cases hlm : p < ms.length
      · have hqe : q = ks.length := by omega
        subst hqe
        obtain ⟨rfl, -⟩ := m4'.out (by omega)
        have hi1 : (p : Int) < (ms.length : Int) := by omega
        have hj1 : ¬ (ks.length : Int) < (ks.length : Int) := by omega
        have f2 := cells_of hbx.out 0
        have hl2 := Lib.hid (Array.getElem?_eq_some_iff.1 hbx.out).1
        have d1 := hEr'.out.keep h1
        go_wp2_with fail
        refine wp_region_script [0, 1, 2, 3, 4, 5, 6, 7, 8, 9, 10, 12, 13] [] (fun w' => Ext wr w') [(.pure, 0), (.pure, 1), (.pure, 2), (.pure, 3), (.read, 4), (.pure, 5), (.pure, 6), (.pure, 7), (.read, 8), (.pure, 9), (.pure, 10), (.one, 11), (.pure, 12), (.pure, 13), (.one, 14)] (by kernel_rfl) (by kernel_rfl) ?_
        have hC : Ext wr wr.drew := (Ext.refl _).drew
        iterate 4 (apply scr_pure'; (· rfl); (· rfl); (· (intro w'; go_simp; try rfl)); (· (simp [go_sem]; try rfl)))
        (apply scr_read'; (· rfl); (· rfl); (· exact hC); (· (intro w' hw'; have f2_ := hw'.keep f2; go_simp; try rfl)); (· (simp [go_sem]; try rfl)))
        iterate 3 (apply scr_pure'; (· rfl); (· rfl); (· (intro w'; go_simp; try rfl)); (· (simp [go_sem]; try rfl)))
        (apply scr_read'; (· rfl); (· rfl); (· exact hC); (· (intro w' hw'; have d1_ := hw'.keep d1; go_simp; try rfl)); (· (simp [go_sem]; try rfl)))
        iterate 2 (apply scr_pure'; (· rfl); (· rfl); (· (intro w'; go_simp; try rfl)); (· (simp [go_sem]; try rfl)))
        have hE3 := Lib.hid (hEr'.out.trans hC)
        have hXo := Lib.hid (show Old (w.heap.size :: X) wr.drew from .cons (Nat.lt_of_lt_of_le hl2.out hC.size) (hX'.out.le hE3.out.size))
        have hC' := Lib.hid hC
        clear hC d1
        have hu3 := Lib.hid (IsSl.mv (IsSl.dropV (s := 4) rfl hs'.out hlm m2'.out) (((hE3.out.mv X).more (n := w.heap.size) (Nat.le_refl _)).moreL (Z := vb v) (fun g hg => Nat.le_of_succ_le (hgv.out g (by simpa [vb] using hg)))) (by decide))
        refine scr_one rfl rfl (fun K hK => ?_)
        refine wp_rowAppS (k := kPe) (bytes := 32) hrow.out hC'.out hXo.out hu3.out _ _ _ rfl Tryz.underlying79 Tryz.info89 rfl (by decide) (by go_simp) (by go_simp) (by rw [List.length_drop]; have := hbb.out; have := hlen.out; omega) (by rw [List.length_drop, maxLen_eq]; have := hbb.out; have := hlen.out; omega) ?_
        intro v' w8 hr8 hg8 hd8
        have hv8 := hr8.one
        have hb8 := Lib.hid ((hg8.block w.heap.size (Nat.lt_of_lt_of_le hl2.out hC'.out.size) (hrow.out.notin (by simp))).trans ((hC'.out.below.block _ hl2.out).trans hbx.out))
        have hr8' := Lib.hid hr8
        have hg8' := Lib.hid hg8
        have hd8' := Lib.hid hd8
        clear hr8 hg8 hd8 f2
        refine hK _ _ (fun h => by simp at h) ?_
        clear hK
        iterate 2 (apply scr_pure'; (· rfl); (· rfl); (· (intro w'; go_simp; try rfl)); (· (simp [go_sem]; try rfl)))
        refine scr_one rfl rfl (fun K hK => ?_)
        refine wp_storeC (new := #[v']) (b := w.heap.size) (off := 0) 79 _ _ rfl Tryz.info79 (by go_simp) (by go_simp) hv8 hb8.out (by simp) rfl ?_
        intro w9 h9 g9
        have h9' := Lib.hid h9
        have g9' := Lib.hid g9
        clear h9 g9
        refine hK _ _ (fun h => by simp at h) ?_
        clear hK
        refine scr_end ?_
        try simp only [Exit.then]
        have hgv9 := Lib.hid (show ∀ g, v'.ownBlock = some g → w.heap.size + 1 ≤ g from fun g hg => by
          rcases hd8'.out g hg with h | h
          · exact hgv.out g h
          · exact Nat.le_trans (Nat.succ_le_of_lt hl2.out) (Nat.le_trans hC'.out.size h))
        have hE9 := Lib.hid (show Ext w w9 from (hE3.out.grown hg8'.out (fun j hj => Nat.le_of_succ_le (hgv.out j hj))).grown g9'.out (fun j hj => by cases hj; exact Nat.le_refl _))
        have hr9 := Lib.hid (hr8'.out.keep g9'.out (by simp))
        have d1 := hE9.out.keep h1
        have d2 := hE9.out.keep h2
        go_wp2_with fail
        all_goals exact hR'.out w9 _ _ hE9.out (fun h => by have := hX'.out _ h; omega) (cells_of h9'.out 0) (by rw [hfin.out, List.drop_of_length_le (Nat.le_refl ks.length), List.append_nil]; exact (hr9.out.less (fun z hz => List.mem_cons_of_mem _ hz)).isSl (by rw [List.length_append, List.length_drop]; exact Nat.le_trans (Nat.mul_le_mul_right _ (show us.length + (ms.length - p) ≤ ms.length + ks.length by have := hlen.out; omega)) hbb.out))
      · have hpe : p = ms.length := by omega
        subst hpe
        have hi1 : ¬ (ms.length : Int) < (ms.length : Int) := by omega
        by_cases hlk : q < ks.length
        · have hj1 : (q : Int) < (ks.length : Int) := by omega
          obtain ⟨rfl, -⟩ := k4'.out (by omega)
          have f2 := cells_of hbx.out 0
          have hl2 := Lib.hid (Array.getElem?_eq_some_iff.1 hbx.out).1
          have d2 := hEr'.out.keep h2
          go_wp2_with fail
          refine wp_region_script [0, 1, 2, 3, 4, 5, 6, 7, 8, 9, 10, 12, 13] [] (fun w' => Ext wr w') [(.pure, 0), (.pure, 1), (.pure, 2), (.pure, 3), (.read, 4), (.pure, 5), (.pure, 6), (.pure, 7), (.read, 8), (.pure, 9), (.pure, 10), (.one, 11), (.pure, 12), (.pure, 13), (.one, 14)] (by kernel_rfl) (by kernel_rfl) ?_
          have hC : Ext wr wr.drew := (Ext.refl _).drew
          iterate 4 (apply scr_pure'; (· rfl); (· rfl); (· (intro w'; go_simp; try rfl)); (· (simp [go_sem]; try rfl)))
          (apply scr_read'; (· rfl); (· rfl); (· exact hC); (· (intro w' hw'; have f2_ := hw'.keep f2; go_simp; try rfl)); (· (simp [go_sem]; try rfl)))
          iterate 3 (apply scr_pure'; (· rfl); (· rfl); (· (intro w'; go_simp; try rfl)); (· (simp [go_sem]; try rfl)))
          (apply scr_read'; (· rfl); (· rfl); (· exact hC); (· (intro w' hw'; have d2_ := hw'.keep d2; go_simp; try rfl)); (· (simp [go_sem]; try rfl)))
          iterate 2 (apply scr_pure'; (· rfl); (· rfl); (· (intro w'; go_simp; try rfl)); (· (simp [go_sem]; try rfl)))
          have hE3 := Lib.hid (hEr'.out.trans hC)
          have hXo := Lib.hid (show Old (w.heap.size :: X) wr.drew from .cons (Nat.lt_of_lt_of_le hl2.out hC.size) (hX'.out.le hE3.out.size))
          have hC' := Lib.hid hC
          clear hC d2
          have hu3 := Lib.hid (IsSl.mv (IsSl.dropV (s := 4) rfl ht'.out hlk k2'.out) (((hE3.out.mv X).more (n := w.heap.size) (Nat.le_refl _)).moreL (Z := vb v) (fun g hg => Nat.le_of_succ_le (hgv.out g (by simpa [vb] using hg)))) (by decide))
          refine scr_one rfl rfl (fun K hK => ?_)
          refine wp_rowAppS (k := kPe) (bytes := 32) hrow.out hC'.out hXo.out hu3.out _ _ _ rfl Tryz.underlying79 Tryz.info89 rfl (by decide) (by go_simp) (by go_simp) (by rw [List.length_drop]; have := hbb.out; have := hlen.out; omega) (by rw [List.length_drop, maxLen_eq]; have := hbb.out; have := hlen.out; omega) ?_
          intro v' w8 hr8 hg8 hd8
          have hv8 := hr8.one
          have hb8 := Lib.hid ((hg8.block w.heap.size (Nat.lt_of_lt_of_le hl2.out hC'.out.size) (hrow.out.notin (by simp))).trans ((hC'.out.below.block _ hl2.out).trans hbx.out))
          have hr8' := Lib.hid hr8
          have hg8' := Lib.hid hg8
          have hd8' := Lib.hid hd8
          clear hr8 hg8 hd8 f2
          refine hK _ _ (fun h => by simp at h) ?_
          clear hK
          iterate 2 (apply scr_pure'; (· rfl); (· rfl); (· (intro w'; go_simp; try rfl)); (· (simp [go_sem]; try rfl)))
          refine scr_one rfl rfl (fun K hK => ?_)
          refine wp_storeC (new := #[v']) (b := w.heap.size) (off := 0) 79 _ _ rfl Tryz.info79 (by go_simp) (by go_simp) hv8 hb8.out (by simp) rfl ?_
          intro w9 h9 g9
          have h9' := Lib.hid h9
          have g9' := Lib.hid g9
          clear h9 g9
          refine hK _ _ (fun h => by simp at h) ?_
          clear hK
          refine scr_end ?_
          try simp only [Exit.then]
          have hgv9 := Lib.hid (show ∀ g, v'.ownBlock = some g → w.heap.size + 1 ≤ g from fun g hg => by
            rcases hd8'.out g hg with h | h
            · exact hgv.out g h
            · exact Nat.le_trans (Nat.succ_le_of_lt hl2.out) (Nat.le_trans hC'.out.size h))
          have hE9 := Lib.hid (show Ext w w9 from (hE3.out.grown hg8'.out (fun j hj => Nat.le_of_succ_le (hgv.out j hj))).grown g9'.out (fun j hj => by cases hj; exact Nat.le_refl _))
          have hr9 := Lib.hid (hr8'.out.keep g9'.out (by simp))
          have d1 := hE9.out.keep h1
          have d2 := hE9.out.keep h2
          go_wp2_with fail
          all_goals exact hR'.out w9 _ _ hE9.out (fun h => by have := hX'.out _ h; omega) (cells_of h9'.out 0) (by rw [hfin.out, List.drop_of_length_le (Nat.le_refl ms.length), List.nil_append]; exact (hr9.out.less (fun z hz => List.mem_cons_of_mem _ hz)).isSl (by rw [List.length_append, List.length_drop]; exact Nat.le_trans (Nat.mul_le_mul_right _ (show us.length + (ks.length - q) ≤ ms.length + ks.length by have := hlen.out; omega)) hbb.out))
        · have hqe : q = ks.length := by omega
          subst hqe
          have hj1 : ¬ (ks.length : Int) < (ks.length : Int) := by omega
          have hbo := cells_of hbx.out 0
          go_wp2_with fail
          exact hR'.out wr _ _ hEr'.out (fun h => by have := hX'.out _ h; omega) hbo (by rw [hfin.out, List.drop_of_length_le (Nat.le_refl ms.length), List.drop_of_length_le (Nat.le_refl ks.length), List.append_nil, List.append_nil]; exact (hrow.out.less (fun z hz => List.mem_cons_of_mem _ hz)).isSl (Nat.le_trans (Nat.mul_le_mul_right _ (show us.length ≤ ms.length + ks.length by have := hlen.out; omega)) hbb.out))

set_option maxRecDepth 100000 in
set_option maxHeartbeats 8000000 in
set_option pp.maxSteps 1000000 in
set_option pp.deepTerms true in
theorem esInter_c {w : World} {X : List Nat} {b1 o1 b2 o2 : Nat} {sv tv : Value} {ms ks : List PEl} (h1 : w.cell? ⟨b1, o1, none⟩ = some sv) (hs : IsSl kPe 32 w X sv ms) (h2 : w.cell? ⟨b2, o2, none⟩ = some tv) (ht : IsSl kPe 32 w X tv ks)
    (hX : Old X w) (R : Ending → World → Prop)
    (hR : ∀ w' bn v', Ext w w' → bn ∉ X → w'.cell? ⟨bn, 0, none⟩ = some v' → IsSl kPe 32 w' X v' (interM cmpPe ms ks) → R (.returned (.pointer (some ⟨bn, 0, none⟩))) w') :
    Calls Tryz.prog 126 #[.pointer (some ⟨b1, o1, none⟩), .pointer (some ⟨b2, o2, none⟩)] w R := by
  obtain ⟨mo, mc, mb, moff, rfl, m2, m3, m4, m5⟩ := id hs.ex
  obtain ⟨ko, kc, kb, koff, rfl, k2, k3, k4, k5⟩ := id ht.ex
  have m4' := Lib.hid m4
  have m5' := Lib.hid m5
  have k4' := Lib.hid k4
  have k5' := Lib.hid k5
  have hs' := Lib.hid hs
  have ht' := Lib.hid ht
  have hX' := Lib.hid hX
  have hR' := Lib.hid hR
  have hmI : (ms.length : Int) ≤ 140737488351232 := by omega
  have hcI : (ks.length : Int) ≤ 140737488351232 := by omega
  have m2' := Lib.hid m2
  have k2' := Lib.hid k2
  have m3' := Lib.hid m3
  clear hs ht hX hR m4 m5 k4 k5 m2 k2 m3 k3
  go_enter Tryz.func126, Tryz.ntmps126
  go_upto_region 2 with (fail)
  refine abs1 (G := Code.wp _ _ _ _) ?_
  intro w1 hE1 hb1 hs1
  have hb1' := Lib.hid hb1
  clear hb1 hs1
  go_wp2_with fail
  have hf0 : Hid (Row kPe 89 w1 (w.heap.size :: X) (.slice none 0 0) ([] : List PEl)) := Lib.hid (Row.nil _ _ _ _)
  have hu0 : Hid (interM cmpPe ms ks = [] ++ interM cmpPe (ms.drop 0) (ks.drop 0)) := Lib.hid rfl
  go_loopw [6, 7] (fun i j wr => ∃ (p q : Nat) (v : Value) (us : List PEl), p ≤ ms.length ∧ q ≤ ks.length ∧ i = .int .i64 p ∧ j = .int .i64 q ∧ Ext w wr ∧ Hid (wr.heap[w.heap.size]? = some (.cells #[v] 81 (0, 0))) ∧ Hid (∀ g, v.ownBlock = some g → w.heap.size + 1 ≤ g) ∧
      Hid (Row kPe 89 wr (w.heap.size :: X) v us) ∧ Hid (interM cmpPe ms ks = us ++ interM cmpPe (ms.drop p) (ks.drop q)) ∧ Hid (us.length ≤ p)) (fun i j _ => (ms.length - (intOf i).toNat) + (ks.length - (intOf j).toNat))
  case atStart => exact ⟨0, 0, _, [], Nat.zero_le _, Nat.zero_le _, rfl, rfl, hE1, hb1', Lib.hid (fun g h => by simp [Value.ownBlock] at h), hf0, hu0, Lib.hid (by simp)⟩
  case round =>
    obtain ⟨p, q, v, us, hp, hq, rfl, rfl, hEr, hbx, hgv, hrow, hun, hul⟩ := hrel
    rename World => wr
    clear hf0 hu0 hb1'
    have d1 := hEr.keep h1
    have d2 := hEr.keep h2
    have hbo := cells_of hbx.out 0
    have hvo := hrow.out.one
    by_cases hlt : p < ms.length ∧ q < ks.length
    · obtain ⟨hlm, hlk⟩ := hlt
      obtain ⟨xs, hc, hcs⟩ := m5'.out p hlm
      obtain ⟨ys, hd, hds⟩ := k5'.out q hlk
      obtain ⟨rfl, -⟩ := m4'.out (by omega)
      obtain ⟨rfl, -⟩ := k4'.out (by omega)
      obtain ⟨x0, x1, x2, x3, rfl⟩ := kPe_four hcs
      obtain ⟨y0, y1, y2, y3, rfl⟩ := kPe_four hds
      have hnx := Lib.hid hcs
      have hny := Lib.hid hds
      have hpe := Lib.hid hcs
      have hpk := Lib.hid hds
      simp only [show kPe.size = 4 from rfl] at hc hd
      have a0 := hc 0 (by decide)
      have a1 := hc 1 (by decide)
      have a2 := hc 2 (by decide)
      have a3 := hc 3 (by decide)
      have z0 := hd 0 (by decide)
      have z1 := hd 1 (by decide)
      have z2 := hd 2 (by decide)
      have z3 := hd 3 (by decide)
      simp only [Nat.add_zero] at a0 z0
      have q0 := hEr.keep a0
      have q1 := hEr.keep a1
      have q2 := hEr.keep a2
      have q3 := hEr.keep a3
      have r0 := hEr.keep z0
      have r1 := hEr.keep z1
      have r2 := hEr.keep z2
      have r3 := hEr.keep z3
      have hi1 : (p : Int) < (ms.length : Int) := by omega
      have hj1 : (q : Int) < (ks.length : Int) := by omega
      have hkm : (p : Int) + 1 ≤ 9223372036854775807 := by omega
      have hkq : (q : Int) + 1 ≤ 9223372036854775807 := by omega
      have hlt1 := Lib.hid (fun h : decide (cmpPe ms[p] ks[q] < 0) = true => interM_lt (c := cmpPe) hlm hlk (of_decide_eq_true h))
      have hgt1 := Lib.hid (fun (h : decide (cmpPe ms[p] ks[q] < 0) = false) (h2 : decide (cmpPe ks[q] ms[p] < 0) = true) => interM_gt (c := cmpPe) hlm hlk (of_decide_eq_false h) (of_decide_eq_true h2))
      have heq1 := Lib.hid (fun (h : decide (cmpPe ms[p] ks[q] < 0) = false) (h2 : decide (cmpPe ks[q] ms[p] < 0) = false) => interM_eq (c := cmpPe) hlm hlk (of_decide_eq_false h) (of_decide_eq_false h2))
      have hb4 := Lib.hid (show (us.length + 1) * 32 ≤ 140737488355328 by have := m3'.out; have := hul.out; omega)
      have hb5 := Lib.hid (show us.length + 1 ≤ maxLen by rw [maxLen_eq]; have := m3'.out; have := hul.out; omega)
      clear hc hcs hd hds hbo
      go_wp2_with fail
      refine wp_region_script [0, 1, 2, 3, 4, 5, 6, 7, 8, 9, 10, 11, 12, 13] [] (fun w' => Ext wr w') [(.pure, 0), (.pure, 1), (.pure, 2), (.read, 3), (.pure, 4), (.pure, 5), (.read, 6), (.pure, 7), (.pure, 8), (.pure, 9), (.read, 10), (.pure, 11), (.pure, 12), (.read, 13), (.one, 14)] (by kernel_rfl) (by kernel_rfl) ?_
      have hC : Ext wr wr.drew := (Ext.refl _).drew
      iterate 3 (apply scr_pure'; (· rfl); (· rfl); (· (intro w'; go_simp; try rfl)); (· (simp [go_sem]; try rfl)))
      (apply scr_read'; (· rfl); (· rfl); (· exact hC); (· (intro w' hw'; have d1_ := hw'.keep d1; go_simp; try rfl)); (· (simp [go_sem]; try rfl)))
      iterate 2 (apply scr_pure'; (· rfl); (· rfl); (· (intro w'; go_simp; try rfl)); (· (simp [go_sem]; try rfl)))
      (apply scr_read'; (· rfl); (· rfl); (· exact hC); (· (intro w' hw'; have q0_ := hw'.keep q0; have q1_ := hw'.keep q1; have q2_ := hw'.keep q2; have q3_ := hw'.keep q3; go_simp; try rfl)); (· (simp [go_sem]; try rfl)))
      iterate 3 (apply scr_pure'; (· rfl); (· rfl); (· (intro w'; go_simp; try rfl)); (· (simp [go_sem]; try rfl)))
      (apply scr_read'; (· rfl); (· rfl); (· exact hC); (· (intro w' hw'; have d2_ := hw'.keep d2; go_simp; try rfl)); (· (simp [go_sem]; try rfl)))
      iterate 2 (apply scr_pure'; (· rfl); (· rfl); (· (intro w'; go_simp; try rfl)); (· (simp [go_sem]; try rfl)))
      (apply scr_read'; (· rfl); (· rfl); (· exact hC); (· (intro w' hw'; have r0_ := hw'.keep r0; have r1_ := hw'.keep r1; have r2_ := hw'.keep r2; have r3_ := hw'.keep r3; go_simp; try rfl)); (· (simp [go_sem]; try rfl)))
      have hEd := Lib.hid (hEr.trans hC)
      refine scr_one rfl rfl (fun K hK => ?_)
      go_simp
      refine peLess_c (cs := [x0, x1, x2, x3]) (ds := [y0, y1, y2, y3]) (kPe.mv hpe.out (hEd.out.mv X)) (kPe.mv hpk.out (hEd.out.mv X)) _ ?_
      obtain ⟨r, hr⟩ : ∃ r, decide (cmpPe ms[p] ks[q] < 0) = r := ⟨_, rfl⟩
      rw [hr] at hlt1 hgt1 heq1 ⊢
      intro w2 hE2
      have hE22 := Lib.hid (hC.trans hE2)
      have hEr2 := Lib.hid (hEd.out.trans hE2)
      refine hK _ _ (fun h => by simp at h) ?_
      clear hK hC hE2 hr q0 q1 q2 q3 r0 r1 r2 r3 d1 d2
      have hb2 := Lib.hid ((hE22.out.below.block _ (Array.getElem?_eq_some_iff.1 hbx.out).1).trans hbx.out)
      have hrow2 := Lib.hid (hrow.out.ext hE22.out)
      refine scr_end ?_
      try simp only [Exit.then]
      cases r
      · skip
        have d1 := hEr2.out.keep h1
        have d2 := hEr2.out.keep h2
        have q0 := hEr2.out.keep a0
        have q1 := hEr2.out.keep a1
        have q2 := hEr2.out.keep a2
        have q3 := hEr2.out.keep a3
        have r0 := hEr2.out.keep z0
        have r1 := hEr2.out.keep z1
        have r2 := hEr2.out.keep z2
        have r3 := hEr2.out.keep z3
        go_wp2_with fail
        refine wp_region_script [0, 1, 2, 3, 4, 5, 6, 7, 8, 9, 10, 11, 12, 13, 15] [] (fun w' => Ext w2 w') [(.pure, 0), (.pure, 1), (.pure, 2), (.read, 3), (.pure, 4), (.pure, 5), (.read, 6), (.pure, 7), (.pure, 8), (.pure, 9), (.read, 10), (.pure, 11), (.pure, 12), (.read, 13), (.one, 14), (.pure, 15)] (by kernel_rfl) (by kernel_rfl) ?_
        have hC2 : Ext w2 w2.drew := (Ext.refl _).drew
        iterate 3 (apply scr_pure'; (· rfl); (· rfl); (· (intro w'; go_simp; try rfl)); (· (simp [go_sem]; try rfl)))
        (apply scr_read'; (· rfl); (· rfl); (· exact hC2); (· (intro w' hw'; have d2_ := hw'.keep d2; go_simp; try rfl)); (· (simp [go_sem]; try rfl)))
        iterate 2 (apply scr_pure'; (· rfl); (· rfl); (· (intro w'; go_simp; try rfl)); (· (simp [go_sem]; try rfl)))
        (apply scr_read'; (· rfl); (· rfl); (· exact hC2); (· (intro w' hw'; have r0_ := hw'.keep r0; have r1_ := hw'.keep r1; have r2_ := hw'.keep r2; have r3_ := hw'.keep r3; go_simp; try rfl)); (· (simp [go_sem]; try rfl)))
        iterate 3 (apply scr_pure'; (· rfl); (· rfl); (· (intro w'; go_simp; try rfl)); (· (simp [go_sem]; try rfl)))
        (apply scr_read'; (· rfl); (· rfl); (· exact hC2); (· (intro w' hw'; have d1_ := hw'.keep d1; go_simp; try rfl)); (· (simp [go_sem]; try rfl)))
        iterate 2 (apply scr_pure'; (· rfl); (· rfl); (· (intro w'; go_simp; try rfl)); (· (simp [go_sem]; try rfl)))
        (apply scr_read'; (· rfl); (· rfl); (· exact hC2); (· (intro w' hw'; have q0_ := hw'.keep q0; have q1_ := hw'.keep q1; have q2_ := hw'.keep q2; have q3_ := hw'.keep q3; go_simp; try rfl)); (· (simp [go_sem]; try rfl)))
        have hEe := Lib.hid (hEr2.out.trans hC2)
        refine scr_one rfl rfl (fun K hK => ?_)
        go_simp
        refine peLess_c (cs := [y0, y1, y2, y3]) (ds := [x0, x1, x2, x3]) (kPe.mv hpk.out (hEe.out.mv X)) (kPe.mv hpe.out (hEe.out.mv X)) _ ?_
        obtain ⟨t, ht⟩ : ∃ t, decide (cmpPe ks[q] ms[p] < 0) = t := ⟨_, rfl⟩
        rw [ht] at hgt1 heq1 ⊢
        intro w6 hE6
        have hE66 := Lib.hid (hC2.trans hE6)
        have hE06 := Lib.hid (hEe.out.trans hE6)
        refine hK _ _ (fun h => by simp at h) ?_
        clear hK hC2 hE6 ht
        clear d1 d2 q0 q1 q2 q3 r0 r1 r2 r3
        cases t
        all_goals
          (apply scr_pure'; (· rfl); (· rfl); (· (intro w'; go_simp; try rfl)); (· (simp [go_sem]; try rfl)))
          refine scr_end ?_
          try simp only [Exit.then]
        · skip
          have hb6 := Lib.hid ((hE66.out.below.block _ (Array.getElem?_eq_some_iff.1 hb2.out).1).trans hb2.out)
          have hrow6 := Lib.hid (hrow2.out.ext hE66.out)
          have f2 := cells_of hb6.out 0
          have hl2 := Lib.hid (Array.getElem?_eq_some_iff.1 hb6.out).1
          have d1 := hE06.out.keep h1
          have q0 := hE06.out.keep a0
          have q1 := hE06.out.keep a1
          have q2 := hE06.out.keep a2
          have q3 := hE06.out.keep a3
          go_wp2_with fail
          refine wp_region_script [0, 1, 2, 3, 4, 5, 6, 7, 8, 9, 10, 11, 14, 15] [12] (fun w' => Ext w6 w') [(.pure, 0), (.pure, 1), (.pure, 2), (.pure, 3), (.read, 4), (.pure, 5), (.pure, 6), (.pure, 7), (.read, 8), (.pure, 9), (.pure, 10), (.read, 11), (.one, 12), (.one, 13), (.pure, 14), (.pure, 15), (.one, 16)] (by kernel_rfl) (by kernel_rfl) ?_
          have hC : Ext w6 w6.drew := (Ext.refl _).drew
          iterate 4 (apply scr_pure'; (· rfl); (· rfl); (· (intro w'; go_simp; try rfl)); (· (simp [go_sem]; try rfl)))
          (apply scr_read'; (· rfl); (· rfl); (· exact hC); (· (intro w' hw'; have f2_ := hw'.keep f2; go_simp; try rfl)); (· (simp [go_sem]; try rfl)))
          iterate 3 (apply scr_pure'; (· rfl); (· rfl); (· (intro w'; go_simp; try rfl)); (· (simp [go_sem]; try rfl)))
          (apply scr_read'; (· rfl); (· rfl); (· exact hC); (· (intro w' hw'; have d1_ := hw'.keep d1; go_simp; try rfl)); (· (simp [go_sem]; try rfl)))
          iterate 2 (apply scr_pure'; (· rfl); (· rfl); (· (intro w'; go_simp; try rfl)); (· (simp [go_sem]; try rfl)))
          (apply scr_read'; (· rfl); (· rfl); (· exact hC); (· (intro w' hw'; have q0_ := hw'.keep q0; have q1_ := hw'.keep q1; have q2_ := hw'.keep q2; have q3_ := hw'.keep q3; go_simp; try rfl)); (· (simp [go_sem]; try rfl)))
          have hE3 := Lib.hid (hE06.out.trans hC)
          have hu3 := Lib.hid (kPe.mv hnx.out (((hE3.out.mv X).more (n := w.heap.size) (Nat.le_refl _)).moreL (Z := vb v) (fun g hg => Nat.le_of_succ_le (hgv.out g (by simpa [vb] using hg)))))
          have hXo := Lib.hid (show Old (w.heap.size :: X) w6.drew from .cons (Nat.lt_of_lt_of_le hl2.out hC.size) (hX'.out.le hE3.out.size))
          have hC' := Lib.hid hC
          refine scr_one rfl rfl (fun K hK => ?_)
          go_simp
          refine hK _ _ (fun _ => hC.push _) ?_
          clear hK hC
          clear d1 q0 q1 q2 q3
          refine scr_one rfl rfl (fun K hK => ?_)
          refine wp_rowApp (c := #[x0, x1, x2, x3]) (u := ms[p]) hrow6.out hC'.out hXo.out hu3.out _ _ _ rfl Tryz.underlying79 Tryz.info89 rfl (by decide) (by go_simp) (by go_simp) hb4.out hb5.out ?_
          intro v' w8 hr8 hg8 hne8 hd8
          have hv8 := hr8.one
          have hb8 := Lib.hid ((hg8.block w.heap.size (Nat.lt_of_lt_of_le hl2.out hC'.out.size) (hrow6.out.notin (by simp))).trans ((hC'.out.below.block _ hl2.out).trans hb6.out))
          have hr8' := Lib.hid hr8
          have hg8' := Lib.hid hg8
          have hd8' := Lib.hid hd8
          clear hr8 hg8 hne8 hd8 f2
          refine hK _ _ (fun h => by simp at h) ?_
          clear hK
          iterate 2 (apply scr_pure'; (· rfl); (· rfl); (· (intro w'; go_simp; try rfl)); (· (simp [go_sem]; try rfl)))
          refine scr_one rfl rfl (fun K hK => ?_)
          refine wp_storeC (new := #[v']) (b := w.heap.size) (off := 0) 79 _ _ rfl Tryz.info79 (by go_simp) (by go_simp) hv8 hb8.out (by simp) rfl ?_
          intro w9 h9 g9
          have h9' := Lib.hid h9
          have g9' := Lib.hid g9
          clear h9 g9
          refine hK _ _ (fun h => by simp at h) ?_
          clear hK
          refine scr_end ?_
          try simp only [Exit.then]
          have hgv9 := Lib.hid (show ∀ g, v'.ownBlock = some g → w.heap.size + 1 ≤ g from fun g hg => by
            rcases hd8'.out g hg with h | h
            · exact hgv.out g h
            · exact Nat.le_trans (Nat.succ_le_of_lt hl2.out) (Nat.le_trans hC'.out.size h))
          have hE9 := Lib.hid (show Ext w w9 from (hE3.out.grown hg8'.out (fun j hj => Nat.le_of_succ_le (hgv.out j hj))).grown g9'.out (fun j hj => by cases hj; exact Nat.le_refl _))
          have hr9 := Lib.hid (hr8'.out.keep g9'.out (by simp))
          go_wp2_with fail
          go_roundw
          case rel => exact ⟨p + 1, q + 1, v', us ++ [ms[p]], by omega, by omega, by go_num, by go_num, hE9.out, h9', hgv9, hr9, Lib.hid (by rw [hun.out, heq1.out (by simp) (by simp)]; simp), Lib.hid (by have := hul.out; rw [List.length_append]; simp; omega)⟩
          case measure => simp [intOf]; omega
        · skip
          have hb6 := Lib.hid ((hE66.out.below.block _ (Array.getElem?_eq_some_iff.1 hb2.out).1).trans hb2.out)
          have hrow6 := Lib.hid (hrow2.out.ext hE66.out)
          go_wp2_with fail
          go_roundw
          case rel => exact ⟨p, q + 1, v, us, hp, by omega, rfl, by go_num, hE06.out, hb6, hgv, hrow6, Lib.hid (by rw [hun.out, hgt1.out (by simp) (by simp)]), hul⟩
          case measure => simp [intOf]; omega
      · skip
        go_wp2_with fail
        go_roundw
        case rel => exact ⟨p + 1, q, v, us, by omega, hq, by go_num, rfl, hEr2.out, hb2, hgv, hrow2, Lib.hid (by rw [hun.out, hlt1.out (by simp)]), Lib.hid (by have := hul.out; omega)⟩
        case measure => simp [intOf]; omega
    · have hfin : Hid (interM cmpPe ms ks = us) := Lib.hid (by rw [hun.out, interM_end, List.append_nil]; rw [Classical.not_and_iff_not_or_not] at hlt; rcases hlt with h | h; exact .inl (List.drop_eq_nil_of_le (by omega)); exact .inr (List.drop_eq_nil_of_le (by omega)))
      have hEr' := Lib.hid hEr
      have hle : us.length ≤ ms.length := by have := hul.out; omega
      have hle' := Lib.hid hle
      clear hle
      by_cases hlm : p < ms.length
      · have hqe : q = ks.length := by omega
        subst hqe
        have hi1 : (p : Int) < (ms.length : Int) := by omega
        have hj1 : ¬ (ks.length : Int) < (ks.length : Int) := by omega
        go_wp2_with fail
        exact hR'.out wr _ _ hEr'.out (fun h => by have := hX'.out _ h; omega) hbo (by rw [hfin.out]; exact (hrow.out.less (fun z hz => List.mem_cons_of_mem _ hz)).isSl (Nat.le_trans (Nat.mul_le_mul_right _ hle'.out) m3'.out))
      · have hpe : p = ms.length := by omega
        subst hpe
        have hi1 : ¬ (ms.length : Int) < (ms.length : Int) := by omega
        go_wp2_with fail
        exact hR'.out wr _ _ hEr'.out (fun h => by have := hX'.out _ h; omega) hbo (by rw [hfin.out]; exact (hrow.out.less (fun z hz => List.mem_cons_of_mem _ hz)).isSl (Nat.le_trans (Nat.mul_le_mul_right _ hle'.out) m3'.out))
end Go.Proofs.YtihapgangilncaaGreat
