/- Set.Leaves. impl.SetLeaves; what the reference keeps (plain); the law FnSetLeaves. -/
import Derived.Test.YtihapgangilncaaGreatKESpecLv
import Derived.Test.YtihapgangilncaaGreatKETwoP
import Derived.WalkMore
import Derived.Test.YtihapgangilncaaGreatKEOrdP
namespace Go.Proofs.YtihapgangilncaaGreat
open Go.RowKit
set_option linter.unusedSimpArgs false

set_option maxRecDepth 100000 in
set_option maxHeartbeats 8000000 in
set_option pp.maxSteps 1000000 in
set_option pp.deepTerms true in
theorem setLeaves_step {d : Nat} (ih : LvC (kSt d)) : LvC (kSt (d + 1)) := by
  intro w X sv s hs hwf hX R hR
  obtain ⟨b, vm, vc, hsv, hbX, c0, c1, hms, hcs⟩ := hs
  cases hsv
  obtain ⟨s1, s2, s3, s4, s5, s6⟩ := Tr.wf_parts hwf
  obtain ⟨t, ms, cs⟩ := s
  simp only [Tr.ms, Tr.cs] at hms hcs s1 s2 s3 s4 s6
  obtain ⟨mo, mc, mb, moff, rfl, -, m3, m4, m5⟩ := id hms.ex
  obtain ⟨co, cc, cb, coff, rfl, -, k3, k4, k5⟩ := id hcs.ex
  have m4' := Lib.hid m4
  have m5' := Lib.hid m5
  have k4' := Lib.hid k4
  have k5' := Lib.hid k5
  have hcs' := Lib.hid hcs
  have hX' := Lib.hid hX
  have hR' := Lib.hid hR
  have ih' : Hid (LvC (kSt d)) := Lib.hid ih
  have h6' := Lib.hid s6
  have h1' := Lib.hid s1
  have h2' := Lib.hid s2
  have h3' := Lib.hid s3
  have h4' := Lib.hid (show ∀ x ∈ cs.map (·.1), GoodE x from fun x hx => by obtain ⟨p, hp, rfl⟩ := List.mem_map.1 hx; exact s4 p hp)
  have hmI : (ms.length : Int) ≤ 140737488351232 := by omega
  have hcI : (cs.length : Int) ≤ 140737488351232 := by omega
  have hmb := Lib.hid m3
  clear hms hcs hX hR ih s1 s2 s3 s4 s5 s6 hwf m4 m5 k4 k5 k3 m3
  go_enter Tryz.func61, Tryz.ntmps61
  go_wp2_with fail
  go_step3
  go_wp2_with (refine wpL_storeRow (cells := #[.slice none 0 0]) rfl 81 _ _ rfl Tryz.size81 rfl rfl (alloc_new _ _ rfl) rfl (by simp [Value.oneCell']) ?_; intro w1 hb1 g1; have hE1 : Ext w w1 := ((Ext.refl w).push _).grown g1 (fun k hk => by cases hk; exact Nat.le_refl _); have hb1' := Lib.hid hb1; clear hb1 g1)
  go_step3
  go_wp2_with fail
  have hf0 : Hid (Row kPe 89 w1 (w.heap.size :: X) (.slice none 0 0) ((ms.take 0).filter fun m => !hasBl cmpPe (cs.map (·.1)) m)) := Lib.hid (Row.nil _ _ _ _)
  have ha0 : Hid (Ahd cmpPe ms (cs.map (·.1)) 0 0) := Lib.hid (ahd_zero _ _ _)
  go_loopw [4, 5] (fun i j wr => ∃ (p q : Nat) (v : Value), p ≤ ms.length ∧ q ≤ cs.length ∧ i = .int .i64 p ∧ j = .int .i64 q ∧ Ext w wr ∧ Hid (Ahd cmpPe ms (cs.map (·.1)) p q) ∧ Hid (wr.heap[w.heap.size]? = some (.cells #[v] 81 (0, 0))) ∧ Hid (∀ g, v.ownBlock = some g → w.heap.size + 1 ≤ g) ∧
      Hid (Row kPe 89 wr (w.heap.size :: X) v ((ms.take p).filter fun m => !hasBl cmpPe (cs.map (·.1)) m))) (fun i _ _ => ms.length - (intOf i).toNat)
  case atStart => exact ⟨0, 0, _, Nat.zero_le _, Nat.zero_le _, rfl, rfl, hE1, ha0, hb1', Lib.hid (fun g h => by simp [Value.ownBlock] at h), hf0⟩
  case round =>
    obtain ⟨p, q, v, hp, hq, rfl, rfl, hEr, hah, hbx, hgv, hrow⟩ := hrel
    rename World => wr
    clear hf0 ha0
    have d0 := hEr.keep c0
    have hbo := cells_of hbx.out 0
    have hvo := hrow.out.one
    by_cases hlt : p < ms.length
    · obtain ⟨xs, hc, hcs⟩ := m5'.out p hlt
      obtain ⟨rfl, -⟩ := m4'.out (by omega)
      have hone := kPe.one hcs
      obtain ⟨x0, x1, x2, x3, rfl⟩ := kPe_four hcs
      have q0 := hEr.keep (hc 0 (by decide))
      have q1 := hEr.keep (hc 1 (by decide))
      have q2 := hEr.keep (hc 2 (by decide))
      have q3 := hEr.keep (hc 3 (by decide))
      simp only [show kPe.size = 4 from rfl, Nat.add_zero] at q0 q1 q2 q3
      have hi1 : (p : Int) < (ms.length : Int) := by omega
      have hkm : (p : Int) + 1 ≤ 9223372036854775807 := by omega
      have hpe0 := Lib.hid hcs
      have hpe := Lib.hid (kPe.mv hcs (hEr.mv X))
      have hone' := Lib.hid hone
      clear hc hcs hone hbo
      go_wp2_with (refine wpL_storeRow (cells := #[x0, x1, x2, x3]) rfl 89 _ _ rfl Tryz.size89 rfl rfl (alloc_new _ _ rfl) rfl (by simpa using hone'.out) ?_; intro w5 h5 g5; have hEx : Ext wr w5 := ((Ext.refl wr).push _).grown g5 (fun k hk => by cases hk; exact Nat.le_refl _); have s0 : w5.cell? ⟨wr.heap.size, 0, none⟩ = some (x0) := cells_of h5 0; have s1 : w5.cell? ⟨wr.heap.size, 1, none⟩ = some (x1) := cells_of h5 1; have s2 : w5.cell? ⟨wr.heap.size, 2, none⟩ = some (x2) := cells_of h5 2; have s3 : w5.cell? ⟨wr.heap.size, 3, none⟩ = some (x3) := cells_of h5 3; have hEx' := Lib.hid hEx; clear hEx h5 g5)
      have hkl : ((ms.take p).filter fun m => !hasBl cmpPe (cs.map (·.1)) m).length ≤ p := Nat.le_trans (List.length_filter_le _ _) (by rw [List.length_take]; omega)
      have hb4 := Lib.hid (show (((ms.take p).filter fun m => !hasBl cmpPe (cs.map (·.1)) m).length + 1) * 32 ≤ 140737488355328 by have := hmb.out; omega)
      have hb5 := Lib.hid (show ((ms.take p).filter fun m => !hasBl cmpPe (cs.map (·.1)) m).length + 1 ≤ maxLen by rw [maxLen_eq]; omega)
      clear hkl q0 q1 q2 q3 d0
      go_loopw [4, 5] (fun i j w6 => ∃ q : Nat, q ≤ cs.length ∧ i = .int .i64 p ∧ j = .int .i64 q ∧ Ext w5 w6 ∧ Hid (Ahd cmpPe ms (cs.map (·.1)) p q)) (fun _ j _ => cs.length - (intOf j).toNat)
      case atStart => exact ⟨q, hq, rfl, rfl, Ext.refl _, hah⟩
      case round =>
        obtain ⟨q2, hq2, rfl, rfl, hE6, hah2⟩ := hrel
        rename World => w6
        clear hah
        have hE06 : Ext w w6 := (hEr.trans hEx'.out).trans hE6
        have d1 := hE06.keep c1
        replace s0 := hE6.keep s0; replace s1 := hE6.keep s1; replace s2 := hE6.keep s2; replace s3 := hE6.keep s3
        by_cases hlt2 : q2 < cs.length
        · obtain ⟨ys, hd, hds⟩ := k5'.out q2 hlt2
          obtain ⟨rfl, -⟩ := k4'.out (by omega)
          rw [kNd_size] at hd
          obtain ⟨y0, y1, y2, y3, y4, rfl, hpy, -, v0, v1, v2, v3, v4⟩ := node5 hds
          have r0 := hE06.keep (hd 0 (by decide))
          have r1 := hE06.keep (hd 1 (by decide))
          have r2 := hE06.keep (hd 2 (by decide))
          have r3 := hE06.keep (hd 3 (by decide))
          simp only [Nat.add_zero] at r0
          have hj1 : (q2 : Int) < (cs.length : Int) := by omega
          have hjm : (q2 : Int) + 1 ≤ 9223372036854775807 := by omega
          have hkl2 : q2 < (cs.map (·.1)).length := by rw [List.length_map]; exact hlt2
          have hge : (cs.map (·.1))[q2]'hkl2 = cs[q2].1 := List.getElem_map _
          have hgt := Lib.hid (fun h => ahd_gt goodE_ord h1'.out h2'.out h4'.out hlt hkl2 hah2.out h)
          have heq := Lib.hid (fun h => ahd_eq goodE_ord h1'.out h2'.out h4'.out hlt hkl2 hah2.out h)
          have hhe := Lib.hid (fun h => has_eq goodE_ord hlt hkl2 h)
          have hhl := Lib.hid (fun h => has_lt goodE_ord h3'.out h2'.out h4'.out hlt hkl2 hah2.out h)
          rw [hge] at hgt heq hhe hhl
          have hpy' := Lib.hid hpy
          have hrg := goodE_ord.rng ms[p] cs[q2].1
          clear hd hds hge hpy
          go_wp2_with fail
          refine wp_region_script [0, 1, 2, 3, 4, 5, 6, 7, 8, 9, 11] [] (fun w' => Ext w6 w') [(.read, 0), (.pure, 1), (.pure, 2), (.pure, 3), (.pure, 4), (.read, 5), (.pure, 6), (.pure, 7), (.pure, 8), (.read, 9), (.one, 10), (.pure, 11)] (by kernel_rfl) (by kernel_rfl) ?_
          have hC : Ext w6 w6.drew := (Ext.refl _).drew
          (apply scr_read'; (· rfl); (· rfl); (· first | exact hC | exact (Ext.refl _).drew); (· (intro w' hw'; have s0_ := hw'.keep s0; have s1_ := hw'.keep s1; have s2_ := hw'.keep s2; have s3_ := hw'.keep s3; go_simp; try rfl)); (· (simp [go_sem]; try rfl)))
          iterate 4 (apply scr_pure'; (· rfl); (· rfl); (· (intro w'; go_simp; try rfl)); (· (simp [go_sem]; try rfl)))
          (apply scr_read'; (· rfl); (· rfl); (· first | exact hC | exact (Ext.refl _).drew); (· (intro w' hw'; have d1_ := hw'.keep d1; go_simp; try rfl)); (· (simp [go_sem]; try rfl)))
          iterate 3 (apply scr_pure'; (· rfl); (· rfl); (· (intro w'; go_simp; try rfl)); (· (simp [go_sem]; try rfl)))
          (apply scr_read'; (· rfl); (· rfl); (· first | exact hC | exact (Ext.refl _).drew); (· (intro w' hw'; have r0_ := hw'.keep r0; have r1_ := hw'.keep r1; have r2_ := hw'.keep r2; have r3_ := hw'.keep r3; go_simp; try rfl)); (· (simp [go_sem]; try rfl)))
          have hEd := Lib.hid (hE06.trans hC)
          refine scr_one rfl rfl (fun K hK => ?_)
          go_simp
          refine peCompare_c (cs := [x0, x1, x2, x3]) (ds := [y0, y1, y2, y3]) (kPe.mv hpe.out (((hEx'.out.trans hE6).trans hC).mv X)) (kPe.mv hpy'.out (hEd.out.mv X)) _ ?_
          obtain ⟨r, hr⟩ : ∃ r, cmpPe ms[p] cs[q2].1 = r := ⟨_, rfl⟩
          rw [hr] at hrg hgt heq hhe hhl ⊢
          intro w7 hE7
          have hE67 := Lib.hid (hE6.trans (hC.trans hE7))
          have hE07 := Lib.hid (hEd.out.trans hE7)
          have hEr7 := Lib.hid (hEx'.out.trans hE67.out)
          have hEc := hC.trans hE7
          replace s0 := hEc.keep s0; replace s1 := hEc.keep s1; replace s2 := hEc.keep s2; replace s3 := hEc.keep s3
          refine hK _ _ (fun h => by simp at h) ?_
          clear hK hC hE7 hEc hr r0 r1 r2 r3 d1
          rcases hrg with rfl | rfl | rfl
          all_goals
            (apply scr_pure'; (· rfl); (· rfl); (· (intro w'; go_simp; try rfl)); (· (simp [go_sem]; try rfl)))
            refine scr_end ?_
            try simp only [Exit.then]
          · have hno := Lib.hid (hhl.out (by decide))
            have hb7 := Lib.hid ((hEr7.out.below.block _ (Array.getElem?_eq_some_iff.1 hbx.out).1).trans hbx.out)
            have f7 := cells_of hb7.out 0
            have hr7 := Lib.hid (hrow.out.ext hEr7.out)
            have hl7 := (Array.getElem?_eq_some_iff.1 hb7.out).1
            have hXo := Lib.hid (show Old (w.heap.size :: X) w7 from .cons hl7 (hX'.out.le hE07.out.size))
            have hu7 := Lib.hid (kPe.mv hpe0.out (((hE07.out.mv X).more (n := w.heap.size) (Nat.le_refl _)).moreL (Z := vb v) (fun g hg => Nat.le_of_succ_le (hgv.out g (by simpa [vb] using hg)))))
            have hvo := hrow.out.one
            go_wp2_with (first
              | (at_builtin; (refine wpL_rowApp (c := #[x0, x1, x2, x3]) (u := ms[p]) rfl hr7.out (Ext.refl _) hXo.out hu7.out _ _ _ rfl Tryz.underlying79 Tryz.info89 rfl (by decide) rfl rfl hb4.out hb5.out ?_; intro v' w8 hr8 hg8 hne8 hd8; have hv8 := hr8.one; have hb8 := Lib.hid ((hg8.block w.heap.size hl7 (hr7.out.notin (by simp))).trans hb7.out); have hr8' := Lib.hid hr8; have hg8' := Lib.hid hg8; have hd8' := Lib.hid hd8; clear hr8 hg8 hne8 hd8 f7))
              | ((refine wpL_storeC (v := v') (new := #[v']) rfl 79 _ _ rfl Tryz.info79 rfl rfl hv8 hb8.out (by simp) rfl ?_; intro w9 h9 g9; have h9' := Lib.hid h9; have g9' := Lib.hid g9; clear h9 g9)))
            go_roundw
            case rel =>
              have hE9 : Ext w w9 := (hE07.out.grown hg8'.out (fun j hj => Nat.le_of_succ_le (hgv.out j hj))).grown g9'.out (fun j hj => by cases hj; exact Nat.le_refl _)
              refine ⟨p + 1, _, v', by omega, hq2, by go_num, rfl, hE9, Lib.hid (ahd_next hah2.out), h9', Lib.hid (fun g hg => ?_), Lib.hid (by rw [kept_one hlt hno.out]; exact hr8'.out.keep g9'.out (by simp))⟩
              rcases hd8'.out g hg with h | h
              · exact hgv.out g h
              · exact Nat.le_trans hl7 h
            case measure => simp [intOf]; omega
          · go_wp2_with fail
            go_roundw
            case rel => exact ⟨p + 1, q2 + 1, v, by omega, by omega, by go_num, by go_num, hE07.out, Lib.hid (heq.out rfl), Lib.hid ((hEr7.out.below.block _ (Array.getElem?_eq_some_iff.1 hbx.out).1).trans hbx.out), hgv, Lib.hid (by rw [kept_not hlt (hhe.out rfl)]; exact hrow.out.ext hEr7.out)⟩
            case measure => simp [intOf]; omega
          · go_wp2_with fail
            go_roundw
            case rel => exact ⟨q2 + 1, by omega, rfl, by go_num, hE67.out, Lib.hid (hgt.out (by decide))⟩
            case measure => simp [intOf]; omega
        · have ek : q2 = cs.length := by omega
          subst ek
          have hE07 := Lib.hid hE06
          have hEr7 := Lib.hid (hEx'.out.trans hE6)
          have hno := Lib.hid (has_end (c := cmpPe) (ks := cs.map (·.1)) hlt (by rw [List.length_map]; exact hah2.out))
          have hb7 := Lib.hid ((hEr7.out.below.block _ (Array.getElem?_eq_some_iff.1 hbx.out).1).trans hbx.out)
          have f7 := cells_of hb7.out 0
          have hr7 := Lib.hid (hrow.out.ext hEr7.out)
          have hl7 := (Array.getElem?_eq_some_iff.1 hb7.out).1
          have hXo := Lib.hid (show Old (w.heap.size :: X) w6 from .cons hl7 (hX'.out.le hE07.out.size))
          have hu7 := Lib.hid (kPe.mv hpe0.out (((hE07.out.mv X).more (n := w.heap.size) (Nat.le_refl _)).moreL (Z := vb v) (fun g hg => Nat.le_of_succ_le (hgv.out g (by simpa [vb] using hg)))))
          have hvo := hrow.out.one
          go_wp2_with (first
            | (at_builtin; (refine wpL_rowApp (c := #[x0, x1, x2, x3]) (u := ms[p]) rfl hr7.out (Ext.refl _) hXo.out hu7.out _ _ _ rfl Tryz.underlying79 Tryz.info89 rfl (by decide) rfl rfl hb4.out hb5.out ?_; intro v' w8 hr8 hg8 hne8 hd8; have hv8 := hr8.one; have hb8 := Lib.hid ((hg8.block w.heap.size hl7 (hr7.out.notin (by simp))).trans hb7.out); have hr8' := Lib.hid hr8; have hg8' := Lib.hid hg8; have hd8' := Lib.hid hd8; clear hr8 hg8 hne8 hd8 f7))
            | ((refine wpL_storeC (v := v') (new := #[v']) rfl 79 _ _ rfl Tryz.info79 rfl rfl hv8 hb8.out (by simp) rfl ?_; intro w9 h9 g9; have h9' := Lib.hid h9; have g9' := Lib.hid g9; clear h9 g9)))
          go_roundw
          case rel =>
            have hE9 : Ext w w9 := (hE07.out.grown hg8'.out (fun j hj => Nat.le_of_succ_le (hgv.out j hj))).grown g9'.out (fun j hj => by cases hj; exact Nat.le_refl _)
            refine ⟨p + 1, _, v', by omega, hq2, by go_num, rfl, hE9, Lib.hid (ahd_next hah2.out), h9', Lib.hid (fun g hg => ?_), Lib.hid (by rw [kept_one hlt hno.out]; exact hr8'.out.keep g9'.out (by simp))⟩
            rcases hd8'.out g hg with h | h
            · exact hgv.out g h
            · exact Nat.le_trans hl7 h
          case measure => simp [intOf]; omega
    · have ek : p = ms.length := by omega
      subst ek
      have hi1 : ¬ (ms.length : Int) < (ms.length : Int) := by omega
      have hkept := hrow.out
      rw [List.take_of_length_le (Nat.le_refl _)] at hkept
      have hkept' := Lib.hid hkept
      have d1 := hEr.keep c1
      have hbo : wr.cell? ⟨w.heap.size, 0, none⟩ = some v := cells_of hbx.out 0
      clear hkept hrow hah
      go_wp2_with fail
      refine wp_region_script [0, 1, 2, 3, 5, 7, 9] [4, 6] (fun w' => Ext wr w') [(.read, 0), (.pure, 1), (.pure, 2), (.pure, 3), (.one, 4), (.pure, 5), (.one, 6), (.pure, 7), (.one, 8), (.pure, 9)] (by kernel_rfl) (by kernel_rfl) ?_
      have hC : Ext wr wr.drew := (Ext.refl _).drew
      (apply scr_read'; (· rfl); (· rfl); (· first | exact hC | exact (Ext.refl _).drew); (· (intro w' hw'; have hbo_ := hw'.keep hbo; go_simp; try rfl)); (· (simp [go_sem]; try rfl)))
      iterate 3 (apply scr_pure'; (· rfl); (· rfl); (· (intro w'; go_simp; try rfl)); (· (simp [go_sem]; try rfl)))
      have hEd := Lib.hid (hEr.trans hC)
      refine scr_one rfl rfl (fun K hK => ?_)
      go_simp
      refine nodeLeaves_c ih'.out (X := vb v ++ (w.heap.size :: X)) (hEd.out.keep c1) (hcs'.out.mv (((hEd.out.mv X).more (n := w.heap.size) (Nat.le_refl _)).moreL (Z := vb v) (fun g hg => Nat.le_of_succ_le (hgv.out g (by simpa [vb] using hg)))) (by rw [kNd_size]; decide)) h6'.out ((hkept'.out.ext hC).old (.cons (Nat.lt_of_lt_of_le (Array.getElem?_eq_some_iff.1 hbx.out).1 hC.size) (hX'.out.le hEd.out.size))) _ ?_
      intro w6 bn nv hE6 hbn hcn hnv
      have hE6' := Lib.hid (hC.trans hE6)
      have hnv' := Lib.hid hnv
      have hnvo := hnv.one
      refine hK _ _ (fun _ => hE6'.out) ?_
      clear hK hnv hE6 hC
      (apply scr_pure'; (· rfl); (· rfl); (· (intro w'; go_simp; try rfl)); (· (simp [go_sem]; try rfl)))
      refine scr_one rfl rfl (fun K hK => ?_)
      go_simp
      refine hK _ _ (fun _ => hE6'.out) ?_
      clear hK
      (apply scr_pure'; (· rfl); (· rfl); (· (intro w'; go_simp; try rfl)); (· (simp [go_sem]; try rfl)))
      refine scr_one rfl rfl (fun K hK => ?_)
      go_simp
      refine hK _ _ (fun h => by simp at h) ?_
      clear hK
      (apply scr_pure'; (· rfl); (· rfl); (· (intro w'; go_simp; try rfl)); (· (simp [go_sem]; try rfl)))
      refine scr_end ?_
      try simp only [Exit.then]
      go_wp2_with fail
      refine hR'.out _ _ ((hEr.trans hE6'.out).push _) ?_
      rw [Tr.leaves_eq]
      have hbk : (w6.alloc (.cells #[v, nv] 126)).heap[w6.heap.size]? = some (.cells #[v, nv] 126) := (push_get _ _ _).trans (if_pos rfl)
      exact ⟨w6.heap.size, v, nv, rfl, fun h => by have := hX'.out _ h; have := hEr.size; have := hE6'.out.size; omega, cells_of hbk 0, cells_of hbk 1, ((hkept'.out.ext (hE6'.out.push _)).less (fun z hz => List.mem_cons_of_mem _ hz)).isSl (Nat.le_trans (Nat.mul_le_mul_right 32 (List.length_filter_le _ _)) hmb.out), (hnv'.out.mv (((Ext.alloc w6 _).mv _).less (fun z hz => by simp [hz])) (by rw [kNd_size]; decide))⟩
theorem setLeaves_all : ∀ d, LvC (kSt d)
  | 0 => fun h => False.elim h
  | d + 1 => setLeaves_step (setLeaves_all d)
end Go.Proofs.YtihapgangilncaaGreat
namespace Go.Proofs.YtihapgangilncaaGreat
open Go.RowKit
set_option linter.unusedSimpArgs false

/-- p begins q, which is longer -/
theorem pre_iff : ∀ {q p : List PEl}, GP GoodE q → GP GoodE p → ((decide ((p.map backE).length < (q.map backE).length) && pairB eqEl (q.map backE) (p.map backE)) = true ↔ ∃ r, GP GoodE r ∧ r ≠ [] ∧ wc cmpPe q (p ++ r) = 0)
  | q, [], hq, _ => by
    simp only [List.map_nil, List.length_nil, List.length_map, List.nil_append, Bool.and_eq_true, decide_eq_true_eq]
    constructor
    · rintro ⟨h, -⟩
      exact ⟨q, hq, fun e => by simp [e] at h, (wc_ord goodE_ord).self q⟩
    · rintro ⟨r, -, hne, h0⟩
      refine ⟨?_, by cases q <;> rfl⟩
      rw [wc_len h0]
      cases r with
      | nil => exact absurd rfl hne
      | cons _ _ => simp
  | [], y :: p, _, _ => by
    constructor
    · intro h; simp at h
    · rintro ⟨r, -, -, h0⟩
      have := wc_nil h0
      simp at this
  | x :: q, y :: p, hq, hp => by
    have hx := hq x (by simp)
    have hy := hp y (by simp)
    have ih := pre_iff (q := q) (p := p) (fun z hz => hq z (by simp [hz])) (fun z hz => hp z (by simp [hz]))
    simp only [Bool.and_eq_true, decide_eq_true_eq, List.length_map, List.map_cons, List.length_cons, pairB] at ih ⊢
    rw [goodE_eq hx hy]
    constructor
    · rintro ⟨h1, h2, h3⟩
      obtain ⟨r, hr, hne, h0⟩ := ih.1 ⟨by omega, h3⟩
      exact ⟨r, hr, hne, wc_zero.2 (.cons h2 (wc_zero.1 h0))⟩
    · rintro ⟨r, hr, hne, h0⟩
      rw [List.cons_append, wc_zero] at h0
      cases h0 with
      | cons h2 h3 =>
        have := ih.2 ⟨r, hr, hne, wc_zero.2 h3⟩
        exact ⟨by omega, h2, this.2⟩

theorem wc_app {p q r : List PEl} (h : wc cmpPe p q = 0) : wc cmpPe (p ++ r) (q ++ r) = 0 :=
  wc_zero.2 ((wc_zero.1 h).append (wc_zero.1 ((wc_ord goodE_ord).self r)))

/-- what the reference keeps of a list of paths -/
def lvS (S : List (List PEl)) : List (List PEl) := S.filter fun p => !extB (S.map (·.map backE)) (p.map backE)
theorem lvS_eq (S : List (List PEl)) : leavesOf (S.map (·.map backE)) = (lvS S).map (·.map backE) := by
  unfold leavesOf lvS
  rw [List.filter_map]
  rfl
theorem ext_iff {S : List (List PEl)} (hS : ∀ p ∈ S, GP GoodE p) {p : List PEl} (hp : GP GoodE p) : extB (S.map (·.map backE)) (p.map backE) = true ↔ ∃ r, GP GoodE r ∧ r ≠ [] ∧ hasC (wc cmpPe) S (p ++ r) := by
  unfold extB
  rw [List.any_eq_true]
  constructor
  · rintro ⟨q', hq', h⟩
    obtain ⟨q, hq, rfl⟩ := List.mem_map.1 hq'
    obtain ⟨r, hr, hne, h0⟩ := (pre_iff (hS q hq) hp).1 h
    exact ⟨r, hr, hne, q, hq, h0⟩
  · rintro ⟨r, hr, hne, q, hq, h0⟩
    exact ⟨_, List.mem_map.2 ⟨q, hq, rfl⟩, (pre_iff (hS q hq) hp).2 ⟨r, hr, hne, h0⟩⟩
theorem gp_app {p r : List PEl} (hp : GP GoodE p) (hr : GP GoodE r) : GP GoodE (p ++ r) := fun x hx => (List.mem_append.1 hx).elim (hp x) (hr x)
theorem lvS_has {S : List (List PEl)} (hS : ∀ p ∈ S, GP GoodE p) {q : List PEl} (hq : GP GoodE q) : hasC (wc cmpPe) (lvS S) q ↔ hasC (wc cmpPe) S q ∧ ∀ r, GP GoodE r → r ≠ [] → ¬ hasC (wc cmpPe) S (q ++ r) := by
  unfold lvS
  rw [mem_has_mem]
  have ho := wc_ord goodE_ord
  constructor
  · rintro ⟨p, hp, hb, h0⟩
    refine ⟨⟨p, hp, h0⟩, fun r hr hne hh => ?_⟩
    rw [Bool.not_eq_true', ← Bool.not_eq_true, ext_iff hS (hS p hp)] at hb
    exact hb ⟨r, hr, hne, (hasC_congr ho hS (gp_app (hS p hp) hr) (gp_app hq hr) (wc_app h0)).2 hh⟩
  · rintro ⟨⟨p, hp, h0⟩, hno⟩
    refine ⟨p, hp, ?_, h0⟩
    rw [Bool.not_eq_true', ← Bool.not_eq_true, ext_iff hS (hS p hp)]
    rintro ⟨r, hr, hne, hh⟩
    exact hno r hr hne ((hasC_congr ho hS (gp_app (hS p hp) hr) (gp_app hq hr) (wc_app h0)).1 hh)

/-- the leaves of the set and the reference's leaves of the same paths -/
theorem leaves_law {l : List (List EL)} (hG : ∀ p ∈ l, GP GoodE (p.map toE)) {s : St} (hwf : Tr.Wf cmpPe GoodE s) (hhas : ∀ q, GP GoodE q → (Tr.has cmpPe s q ↔ memP l q)) :
    (∀ r ∈ (s.leaves cmpPe).paths.map (·.map backE), GP GoodE (r.map toE)) ∧ (∀ r ∈ leavesOf ((setOf (l.map (·.map toE))).map (·.map backE)), GP GoodE (r.map toE)) ∧ ((s.leaves cmpPe).paths.map (·.map backE)).length = (leavesOf ((setOf (l.map (·.map toE))).map (·.map backE))).length ∧
    ((s.leaves cmpPe).paths.map (·.map backE)).length ≤ l.length ∧ (leavesOf ((setOf (l.map (·.map toE))).map (·.map backE))).length ≤ l.length ∧
    listB (listB eqEl) ((setOf (((s.leaves cmpPe).paths.map (·.map backE)).map (·.map toE))).map (·.map backE)) ((setOf ((leavesOf ((setOf (l.map (·.map toE))).map (·.map backE))).map (·.map toE))).map (·.map backE)) = true := by
  have hGL : ∀ p ∈ l.map (·.map toE), GP GoodE p := fun p hp => by
    obtain ⟨r, hr, rfl⟩ := List.mem_map.1 hp
    exact hG r hr
  have f := setOf_facts goodE_ord hGL
  have ho := wc_ord goodE_ord
  have hwl := leaves_wf hwf
  have hgs := Tr.paths_good hwl
  have hgo : ∀ p ∈ setOf (l.map (·.map toE)), GP GoodE p := fun p hp => hGL p (f.2.1 p hp)
  have hsub : ∀ p ∈ lvS (setOf (l.map (·.map toE))), p ∈ setOf (l.map (·.map toE)) := fun p hp => (List.mem_filter.1 hp).1
  have hgl : ∀ p ∈ lvS (setOf (l.map (·.map toE))), GP GoodE p := fun p hp => hgo p (hsub p hp)
  have hset : ∀ q, GP GoodE q → (Tr.has cmpPe s q ↔ hasC (wc cmpPe) (setOf (l.map (·.map toE))) q) := fun q hq => (hhas q hq).trans (f.2.2.2.1 q hq).symm
  have hsame : ∀ q, GP GoodE q → (hasC (wc cmpPe) (s.leaves cmpPe).paths q ↔ hasC (wc cmpPe) (lvS (setOf (l.map (·.map toE)))) q) := fun q hq => by
    refine (leaves_has goodE_ord hwf q hq).trans ?_
    rw [lvS_has hgo hq, hset q hq]
    exact and_congr Iff.rfl ⟨fun h r hr hne hh => h r hr hne ((hset _ (gp_app hq hr)).2 hh), fun h r hr hne hh => h r hr hne ((hset _ (gp_app hq hr)).1 hh)⟩
  have hdl : Dst (wc cmpPe) (lvS (setOf (l.map (·.map toE)))) := f.1.dst.filter _
  have hl := dst_len ho (Tr.paths_srt goodE_ord hwl).dst hdl hgs hgl hsame
  have h3 : (lvS (setOf (l.map (·.map toE)))).length ≤ l.length := by
    have := f.2.2.1
    rw [List.length_map] at this
    exact Nat.le_trans (List.length_filter_le _ _) this
  rw [lvS_eq]
  refine ⟨back_toE hgs, back_toE hgl, by simpa using hl, by rw [List.length_map, hl]; exact h3, by rw [List.length_map]; exact h3, ?_⟩
  exact (sets_equal hgs hgl (fun p hp => Tr.paths_ne hp) (fun p hp => f.2.2.2.2 p (hsub p hp))).2 hsame

set_option maxRecDepth 100000 in
set_option maxHeartbeats 4000000 in
set_option pp.maxSteps 1000000 in
set_option pp.deepTerms true in
theorem implSetLeaves_c {w : World} {X : List Nat} {lv : Value} {l : List (List EL)} (hl : IsSl kPth 24 w X lv l) (hX : Old X w) (hG : ∀ p ∈ l, GP GoodE (p.map toE)) (hbytes : (l.length + 1) * 40 ≤ 140737488351232) (R : Ending → World → Prop)
    (hR : ∀ w' v' (s : St), Ext w w' → Tr.Wf cmpPe GoodE s → (∀ q, GP GoodE q → (Tr.has cmpPe s q ↔ memP l q)) → IsSl kPth 24 w' X v' ((s.leaves cmpPe).paths.map (·.map backE)) → R (.returned v') w') :
    Calls Tryz.prog 19 #[lv] w R := by
  have hlo := hl.one
  have hl' := Lib.hid hl
  have hX' := Lib.hid hX
  have hG' := Lib.hid hG
  have hb' := Lib.hid hbytes
  have hR' := Lib.hid hR
  clear hl hX hG hbytes hR
  go_enter Tryz.func19, Tryz.ntmps19
  go_wp2_with fail
  refine toSetR_c hl'.out hX'.out hG'.out hb'.out _ ?_
  intro w1 sv s d hE1 hs hwf hhas
  have hso := (kSt d).one hs sv (by simp)
  have hlw := leaves_law hG'.out hwf hhas
  have hwl := leaves_wf hwf
  have hp168 := Lib.hid (show ∀ q ∈ (s.leaves cmpPe).paths, q.length * 168 ≤ 140737488351232 from fun q hq => memP_len hl'.out ((hhas q (Tr.paths_good hwl q hq)).1 ((leaves_has goodE_ord hwf q (Tr.paths_good hwl q hq)).1 (hasC_self (wc_ord goodE_ord) hq)).1))
  have hpl := Lib.hid (show (s.leaves cmpPe).paths.length ≤ l.length by simpa using hlw.2.2.2.1)
  have hs' := Lib.hid hs
  have hwf' := Lib.hid hwf
  have hwl' := Lib.hid hwl
  have hhas' := Lib.hid hhas
  have hX1 := Lib.hid (hX'.out.le hE1.size)
  clear hs hwf hhas hlw hwl
  dsimp only
  go_wp2_with fail
  refine setLeaves_all d hs'.out hwf'.out hX1.out _ ?_
  intro w2 tv hE2 ht
  have hto := (kSt d).one ht tv (by simp)
  have ht' := Lib.hid ht
  clear ht
  dsimp only
  go_wp2_with fail
  refine fromSet_c (G := GoodE) ht'.out hwl'.out (hX1.out.le hE2.size) (fun x hx => goodE_small hx) hp168.out (by have := hpl.out; have := hb'.out; omega) _ ?_
  intro w3 v3 hE3 hv3
  have hv3o := hv3.one
  have hv3' := Lib.hid hv3
  clear hv3
  dsimp only
  go_wp2_with fail
  exact hR'.out w3 v3 s ((hE1.trans hE2).trans hE3) hwf'.out hhas'.out hv3'.out

set_option maxRecDepth 100000 in
set_option maxHeartbeats 4000000 in
set_option pp.maxSteps 1000000 in
set_option pp.deepTerms true in
theorem fnSetLeaves_law {w : World} {va : Value} {l : List (List EL)} (ha : IsSl kPth 24 w [] va l) : Calls Tryz.prog 5 #[va] w fun e w' => e = .returned (.bool true) ∧ Below w.heap.size w w' := by
  suffices h : ∀ R : Ending → World → Prop, Ends R w (.bool true) → Calls Tryz.prog 5 #[va] w R from h _ (fun w' hE => ⟨rfl, hE⟩)
  intro R hR
  obtain ⟨o, c, _, _, rfl, -⟩ := id ha.ex
  have ha' := Lib.hid ha
  have hR' := Lib.hid hR
  clear hR ha
  by_cases h1 : (l.length : Int) > 2147483647
  · have h1b : (2147483647 : Int) < (l.length : Int) := h1
    go_enter Tryz.func5, Tryz.ntmps5
    go_wp2_with fail
    exact hR'.out _ (Ext.refl _)
  have h1b : ¬ (2147483647 : Int) < (l.length : Int) := h1
  have h1n : (l.length + 1) * 40 ≤ 140737488351232 := by omega
  have h1n' := Lib.hid h1n
  clear h1 h1n
  go_enter Tryz.func5, Tryz.ntmps5
  go_wp2_with fail
  refine orderlyPaths_c ha'.out _ ?_
  intro t1 ht1 w1 hE1
  have ht1' := Lib.hid ht1
  clear ht1
  dsimp only
  cases t1
  · go_wp2_with fail
    exact hR'.out _ hE1
  have hG := good_list ha'.out (ht1'.out rfl)
  have hG' := Lib.hid hG
  clear hG ht1'
  go_wp2_with fail
  refine implSetLeaves_c (ha'.out.mv (hE1.mv []) (by decide)) (Old.nil _) hG'.out h1n'.out _ ?_
  intro w2 v2 s hE2 hwf hhas hv2
  have hv2o := hv2.one
  have hv2' := Lib.hid hv2
  have hwf' := Lib.hid hwf
  have hhas' := Lib.hid hhas
  clear hv2 hwf hhas
  dsimp only
  go_wp2_with fail
  refine specSetOf_c goodE_ord (fun x hx => goodE_from hx) (ha'.out.mv ((hE1.trans hE2).mv []) (by decide)) (Old.nil _) hG'.out (by have := h1n'.out; omega) _ ?_
  intro w3 v3 hE3 hv3
  have hv3o := hv3.one
  have hv3' := Lib.hid hv3
  clear hv3
  dsimp only
  go_wp2_with fail
  refine specLeaves_c hv3'.out (Old.nil _) _ ?_
  intro w4 v4 hE4 hv4
  have hv4o := hv4.one
  have hv4' := Lib.hid hv4
  clear hv4
  dsimp only
  go_wp2_with fail
  have hlw := leaves_law hG'.out hwf'.out hhas'.out
  refine lists_c goodE_ord (fun x hx => goodE_from hx) (Old.nil _) (hv2'.out.mv ((hE3.trans hE4).mv []) (by decide)) hv4'.out hlw.1 hlw.2.1 (by have := hlw.2.2.2.1; have := h1n'.out; omega) (by have := hlw.2.2.2.2.1; have := h1n'.out; omega) hlw.2.2.1 hlw.2.2.2.2.2 _ ?_
  intro w5 hE5
  dsimp only
  go_wp2_with fail
  exact hR'.out w5 ((((hE1.trans hE2).trans hE3).trans hE4).trans hE5)
end Go.Proofs.YtihapgangilncaaGreat
