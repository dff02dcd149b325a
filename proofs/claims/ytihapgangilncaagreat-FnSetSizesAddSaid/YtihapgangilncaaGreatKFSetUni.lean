/- Set.Union, Set.Intersection (printed by gen_setuni.py). -/
import Derived.Test.YtihapgangilncaaGreatKFNdUni
import Derived.Test.YtihapgangilncaaGreatKFNdInt
import Derived.Test.YtihapgangilncaaGreatKFPar
namespace Go.Proofs.YtihapgangilncaaGreat
open Go.RowKit
set_option linter.unusedSimpArgs false

set_option maxRecDepth 100000 in
set_option maxHeartbeats 8000000 in
set_option pp.maxSteps 1000000 in
set_option pp.deepTerms true in
theorem setUnion_step {d : Nat} (ih : UnC (kSt d) d) : UnC (kSt (d + 1)) (d + 1) := by
  intro w X sv tv s t hs ht hws hwt hby hX R hR
  obtain ⟨b, vm, vc, hsv, hbX, c0, c1, hms, hcs⟩ := hs
  cases hsv
  obtain ⟨b2, vm2, vc2, htv, hbX2, e0, e1, hms2, hcs2⟩ := ht
  cases htv
  obtain ⟨-, -, -, -, -, s6⟩ := Tr.wf_parts hws
  obtain ⟨-, -, -, -, -, t6⟩ := Tr.wf_parts hwt
  have l1 := ms_paths s
  have l2 := ms_paths t
  have l3 := cs_paths hws
  have l4 := cs_paths hwt
  have hn1 := Lib.hid (show (s.ms.length + t.ms.length) * 32 ≤ 140737488351232 by omega)
  have hn2 := Lib.hid (show (s.cs.length + t.cs.length) * 40 ≤ 140737488351232 by omega)
  have hn3 := Lib.hid (show ∀ p ∈ s.cs, ∀ q ∈ t.cs, (p.2.paths.length + q.2.paths.length) * 40 ≤ 140737488351232 from fun p hp q hq => by have := child_paths hp; have := child_paths hq; omega)
  have hms' := Lib.hid hms
  have hcs' := Lib.hid hcs
  have hms2' := Lib.hid hms2
  have hcs2' := Lib.hid hcs2
  have s6' := Lib.hid s6
  have t6' := Lib.hid t6
  have hX' := Lib.hid hX
  have hR' := Lib.hid hR
  have ih' : Hid (UnC (kSt d) d) := Lib.hid ih
  clear hms hcs hms2 hcs2 s6 t6 hX hR ih l1 l2 l3 l4 hby hws hwt
  go_enter Tryz.func71, Tryz.ntmps71
  go_wp2_with fail
  have hC : Ext w w.drew := (Ext.refl _).drew
  refine wp_region_par [0, 1, 2, 3, 4, 5, 9, 10, 11, 12, 13, 14] [6, 7, 8, 15, 16, 17, 18, 19] (fun w' => Ext w w') [(.pure, 0), (.pure, 1), (.pure, 2), (.pure, 3), (.pure, 4), (.pure, 5), (.pure, 9), (.pure, 10), (.pure, 11), (.pure, 12), (.pure, 13), (.pure, 14)] [6, 7, 8, 15, 16, 17, 18, 19] [(.pure, 20)] (by kernel_rfl) (by kernel_rfl) ?_
  iterate 12 (apply scr_pure'; (· rfl); (· rfl); (· (intro w'; go_simp; try rfl)); (· (simp [go_sem]; try rfl)))
  refine ⟨fun
    | 6 => .data (fun v w X => ∃ b c, v = .pointer (some ⟨b, 0, none⟩) ∧ b ∉ X ∧ w.cell? ⟨b, 0, none⟩ = some c ∧ IsSl kPe 32 w X c (unionM cmpPe s.ms t.ms))
    | 7 => .data (fun v w X => ∃ b c, v = .pointer (some ⟨b, 0, none⟩) ∧ b ∉ X ∧ w.cell? ⟨b, 0, none⟩ = some c ∧ IsSl kPe 32 w X c (unionM cmpPe s.ms t.ms))
    | 8 => .data (fun v w X => ∃ o n c, v = .agg #[.slice o n c] ∧ IsSl kPe 32 w X (.slice o n c) (unionM cmpPe s.ms t.ms))
    | 15 => .data (fun v w X => ∃ b c, v = .pointer (some ⟨b, 0, none⟩) ∧ b ∉ X ∧ w.cell? ⟨b, 0, none⟩ = some c ∧ IsSl (kNd (kSt d)) 40 w X c (unionN cmpPe (unionT cmpPe d) s.cs t.cs))
    | 16 => .data (fun v w X => ∃ b c, v = .pointer (some ⟨b, 0, none⟩) ∧ b ∉ X ∧ w.cell? ⟨b, 0, none⟩ = some c ∧ IsSl (kNd (kSt d)) 40 w X c (unionN cmpPe (unionT cmpPe d) s.cs t.cs))
    | 17 => .data (fun v w X => ∃ o n c, v = .agg #[.slice o n c] ∧ IsSl (kNd (kSt d)) 40 w X (.slice o n c) (unionN cmpPe (unionT cmpPe d) s.cs t.cs))
    | 18 => .data (fun v w X => ∃ a c, v = .agg #[a, c] ∧ IsSl kPe 32 w X a (unionM cmpPe s.ms t.ms) ∧ IsSl (kNd (kSt d)) 40 w X c (unionN cmpPe (unionT cmpPe d) s.cs t.cs))
    | 19 => .data (fun v w X => (kSt (d + 1)).is w X [v] (unionT cmpPe (d + 1) s t))
    | _ => .data fun _ _ _ => True, X, ?_, ?_, hX'.out.le hC.size, fun w' h => hC.trans h, ?_, ?_⟩
  · intro i hi
    simp only [List.mem_cons, List.not_mem_nil, or_false] at hi
    rcases hi with rfl | rfl | rfl | rfl | rfl | rfl | rfl | rfl
    · exact fun v w X w' Y hm ⟨b, c, e, h1, h2, h3⟩ => ⟨b, c, e, (hm.cell h1 h2).2, (hm.cell h1 h2).1, h3.mv hm (by decide)⟩
    · exact fun v w X w' Y hm ⟨b, c, e, h1, h2, h3⟩ => ⟨b, c, e, (hm.cell h1 h2).2, (hm.cell h1 h2).1, h3.mv hm (by decide)⟩
    · exact fun v w X w' Y hm ⟨o, n, c, e, h3⟩ => ⟨o, n, c, e, h3.mv hm (by decide)⟩
    · exact fun v w X w' Y hm ⟨b, c, e, h1, h2, h3⟩ => ⟨b, c, e, (hm.cell h1 h2).2, (hm.cell h1 h2).1, h3.mv hm (by rw [kNd_size]; decide)⟩
    · exact fun v w X w' Y hm ⟨b, c, e, h1, h2, h3⟩ => ⟨b, c, e, (hm.cell h1 h2).2, (hm.cell h1 h2).1, h3.mv hm (by rw [kNd_size]; decide)⟩
    · exact fun v w X w' Y hm ⟨o, n, c, e, h3⟩ => ⟨o, n, c, e, h3.mv hm (by rw [kNd_size]; decide)⟩
    · exact fun v w X w' Y hm ⟨a, c, e, h2, h3⟩ => ⟨a, c, e, h2.mv hm (by decide), h3.mv hm (by rw [kNd_size]; decide)⟩
    · exact fun v w X w' Y hm h => (kSt (d + 1)).mv h hm
  · intro i hi k T F h
    simp only [List.mem_cons, List.not_mem_nil, or_false] at hi
    rcases hi with rfl | rfl | rfl | rfl | rfl | rfl | rfl | rfl <;> cases h
  · intro i hi
    simp only [List.mem_cons, List.not_mem_nil, or_false] at hi
    rcases hi with rfl | rfl | rfl | rfl | rfl | rfl | rfl | rfl
    · intro vs w2 Z hE hM hZ _ _
      have hM2 := Lib.hid ((hC.mv X).trans hM)
      have hE2 := Lib.hid (hC.trans hE)
      apply opv_one (dl := []); (· rfl); (· kernel_rfl); (· (simp only [putL]; try rfl)); (· (first | rfl | (simp [Region.wanted, yielded, go_sem]; done) | (simp [Region.wanted, yielded, go_sem, *]; done))); intro K hK; go_simp
      refine esUnion_c (X := Z) (hE2.out.keep c0) (hms'.out.mv hM2.out (by decide)) (hE2.out.keep e0) (hms2'.out.mv hM2.out (by decide)) hn1.out hZ _ ?_
      intro w3 bn v' hE3 hbn hcn hv
      exact hK _ _ ⟨hE3, bn, v', rfl, hbn, hcn, hv⟩
    · intro vs w2 Z hE hM hZ _ hk
      obtain ⟨bb, cc, r1, r2, r3, r4⟩ := hk 6 (deps_mem (by kernel_rfl))
      apply opv_val (dl := [6]); (· rfl); (· kernel_rfl); (· (simp [putL, dstOf, go_sem, r1]; try rfl)); (· (first | rfl | (simp [Region.wanted, yielded, go_sem]; done) | (simp [Region.wanted, yielded, go_sem, *]; done))); (· (go_simp; try rfl))
      exact ⟨Ext.refl _, bb, cc, rfl, r2, r3, r4⟩
    · intro vs w2 Z hE hM hZ _ hk
      obtain ⟨bb, cc, r1, r2, r3, r4⟩ := hk 7 (deps_mem (by kernel_rfl))
      obtain ⟨so, sc, -, -, rfl, -⟩ := id r4.ex
      apply opv_val (dl := [7]); (· rfl); (· kernel_rfl); (· (simp [putL, dstOf, go_sem, r1]; try rfl)); (· (first | rfl | (simp [Region.wanted, yielded, go_sem]; done) | (simp [Region.wanted, yielded, go_sem, *]; done))); (· (go_simp; try rfl))
      exact ⟨Ext.refl _, _, _, _, rfl, r4⟩
    · intro vs w2 Z hE hM hZ _ _
      have hM2 := Lib.hid ((hC.mv X).trans hM)
      have hE2 := Lib.hid (hC.trans hE)
      apply opv_one (dl := []); (· rfl); (· kernel_rfl); (· (simp only [putL]; try rfl)); (· (first | rfl | (simp [Region.wanted, yielded, go_sem]; done) | (simp [Region.wanted, yielded, go_sem, *]; done))); intro K hK; go_simp
      refine ndUnion_c ih'.out (X := Z) (hE2.out.keep c1) (hcs'.out.mv hM2.out (by rw [kNd_size]; decide)) (hE2.out.keep e1) (hcs2'.out.mv hM2.out (by rw [kNd_size]; decide)) hn2.out s6'.out t6'.out hn3.out hZ _ ?_
      intro w3 bn v' hE3 hbn hcn hv
      exact hK _ _ ⟨hE3, bn, v', rfl, hbn, hcn, hv⟩
    · intro vs w2 Z hE hM hZ _ hk
      obtain ⟨bb, cc, r1, r2, r3, r4⟩ := hk 15 (deps_mem (by kernel_rfl))
      apply opv_val (dl := [15]); (· rfl); (· kernel_rfl); (· (simp [putL, dstOf, go_sem, r1]; try rfl)); (· (first | rfl | (simp [Region.wanted, yielded, go_sem]; done) | (simp [Region.wanted, yielded, go_sem, *]; done))); (· (go_simp; try rfl))
      exact ⟨Ext.refl _, bb, cc, rfl, r2, r3, r4⟩
    · intro vs w2 Z hE hM hZ _ hk
      obtain ⟨bb, cc, r1, r2, r3, r4⟩ := hk 16 (deps_mem (by kernel_rfl))
      obtain ⟨so, sc, -, -, rfl, -⟩ := id r4.ex
      apply opv_val (dl := [16]); (· rfl); (· kernel_rfl); (· (simp [putL, dstOf, go_sem, r1]; try rfl)); (· (first | rfl | (simp [Region.wanted, yielded, go_sem]; done) | (simp [Region.wanted, yielded, go_sem, *]; done))); (· (go_simp; try rfl))
      exact ⟨Ext.refl _, _, _, _, rfl, r4⟩
    · intro vs w2 Z hE hM hZ _ hk
      obtain ⟨po, pn, pc, ha, r4⟩ := hk 8 (deps_mem (by kernel_rfl))
      obtain ⟨qo, qn, qc, hc, r5⟩ := hk 17 (deps_mem (by kernel_rfl))
      apply opv_val (dl := [8, 17]); (· rfl); (· kernel_rfl); (· (simp [putL, dstOf, go_sem, ha, hc]; try rfl)); (· (first | rfl | (simp [Region.wanted, yielded, go_sem]; done) | (simp [Region.wanted, yielded, go_sem, *]; done))); (· (go_simp; try rfl))
      exact ⟨Ext.refl _, _, _, rfl, r4, r5⟩
    · intro vs w2 Z hE hM hZ _ hk
      obtain ⟨a, c, r1, r4, r5⟩ := hk 18 (deps_mem (by kernel_rfl))
      have o4 := r4.one
      have o5 := r5.one
      apply opv_one (dl := [18]); (· rfl); (· kernel_rfl); (· (simp [putL, dstOf, go_sem, r1]; try rfl)); (· (first | rfl | (simp [Region.wanted, yielded, go_sem]; done) | (simp [Region.wanted, yielded, go_sem, *]; done))); intro K hK; go_simp
      have hbk : (w2.alloc (.cells #[a, c] 126)).heap[w2.heap.size]? = some (.cells #[a, c] 126) := (push_get _ _ _).trans (if_pos rfl)
      exact hK _ _ ⟨Ext.alloc _ _, w2.heap.size, a, c, rfl, fun h => by have := hZ _ h; omega, cells_of hbk 0, cells_of hbk 1, r4.mv ((Ext.alloc w2 _).mv _) (by decide), r5.mv ((Ext.alloc w2 _).mv _) (by rw [kNd_size]; decide)⟩
  · intro vs w2 Z bs hE hM hZ hx0 hk hsep
    have r := hk 19 (by simp)
    obtain ⟨v, hv⟩ : ∃ v, vs 19 = v := ⟨_, rfl⟩
    simp only [Known, hv] at r
    have hvo := (kSt (d + 1)).one r v (by simp)
    apply par_end
    · simp [putL, dstOf, hv, go_sem]; rfl
    clear hk hsep
    have r' := Lib.hid ((kSt (d + 1)).mv r ((Mv.refl _ _).less hx0))
    clear r
    (apply scr_pure'; (· rfl); (· rfl); (· (intro w'; go_simp; try rfl)); (· (simp [go_sem]; try rfl)))
    refine scr_end ?_
    try simp only [Exit.then]
    go_wp2_with fail
    exact hR'.out _ _ (hC.trans hE) r'.out
theorem setUnion_all : ∀ d, UnC (kSt d) d
  | 0 => fun h => False.elim h
  | d + 1 => setUnion_step (setUnion_all d)

set_option maxRecDepth 100000 in
set_option maxHeartbeats 8000000 in
set_option pp.maxSteps 1000000 in
set_option pp.deepTerms true in
theorem setInter_step {d : Nat} (ih : InC (kSt d) d) : InC (kSt (d + 1)) (d + 1) := by
  intro w X sv tv s t hs ht hws hwt hby hX R hR
  obtain ⟨b, vm, vc, hsv, hbX, c0, c1, hms, hcs⟩ := hs
  cases hsv
  obtain ⟨b2, vm2, vc2, htv, hbX2, e0, e1, hms2, hcs2⟩ := ht
  cases htv
  obtain ⟨-, -, -, -, -, s6⟩ := Tr.wf_parts hws
  obtain ⟨-, -, -, -, -, t6⟩ := Tr.wf_parts hwt
  have l1 := ms_paths s
  have l2 := ms_paths t
  have l3 := cs_paths hws
  have l4 := cs_paths hwt
  have hn1 := Lib.hid (show (s.ms.length + t.ms.length) * 32 ≤ 140737488351232 by omega)
  have hn2 := Lib.hid (show (s.cs.length + t.cs.length) * 40 ≤ 140737488351232 by omega)
  have hn3 := Lib.hid (show ∀ p ∈ s.cs, ∀ q ∈ t.cs, (p.2.paths.length + q.2.paths.length) * 40 ≤ 140737488351232 from fun p hp q hq => by have := child_paths hp; have := child_paths hq; omega)
  have hms' := Lib.hid hms
  have hcs' := Lib.hid hcs
  have hms2' := Lib.hid hms2
  have hcs2' := Lib.hid hcs2
  have s6' := Lib.hid s6
  have t6' := Lib.hid t6
  have hX' := Lib.hid hX
  have hR' := Lib.hid hR
  have ih' : Hid (InC (kSt d) d) := Lib.hid ih
  clear hms hcs hms2 hcs2 s6 t6 hX hR ih l1 l2 l3 l4 hby hws hwt
  go_enter Tryz.func72, Tryz.ntmps72
  go_wp2_with fail
  have hC : Ext w w.drew := (Ext.refl _).drew
  refine wp_region_par [0, 1, 2, 3, 4, 5, 9, 10, 11, 12, 13, 14] [6, 7, 8, 15, 16, 17, 18, 19] (fun w' => Ext w w') [(.pure, 0), (.pure, 1), (.pure, 2), (.pure, 3), (.pure, 4), (.pure, 5), (.pure, 9), (.pure, 10), (.pure, 11), (.pure, 12), (.pure, 13), (.pure, 14)] [6, 7, 8, 15, 16, 17, 18, 19] [(.pure, 20)] (by kernel_rfl) (by kernel_rfl) ?_
  iterate 12 (apply scr_pure'; (· rfl); (· rfl); (· (intro w'; go_simp; try rfl)); (· (simp [go_sem]; try rfl)))
  refine ⟨fun
    | 6 => .data (fun v w X => ∃ b c, v = .pointer (some ⟨b, 0, none⟩) ∧ b ∉ X ∧ w.cell? ⟨b, 0, none⟩ = some c ∧ IsSl kPe 32 w X c (interM cmpPe s.ms t.ms))
    | 7 => .data (fun v w X => ∃ b c, v = .pointer (some ⟨b, 0, none⟩) ∧ b ∉ X ∧ w.cell? ⟨b, 0, none⟩ = some c ∧ IsSl kPe 32 w X c (interM cmpPe s.ms t.ms))
    | 8 => .data (fun v w X => ∃ o n c, v = .agg #[.slice o n c] ∧ IsSl kPe 32 w X (.slice o n c) (interM cmpPe s.ms t.ms))
    | 15 => .data (fun v w X => ∃ b c, v = .pointer (some ⟨b, 0, none⟩) ∧ b ∉ X ∧ w.cell? ⟨b, 0, none⟩ = some c ∧ IsSl (kNd (kSt d)) 40 w X c (interN cmpPe (interT cmpPe d) emT s.cs t.cs))
    | 16 => .data (fun v w X => ∃ b c, v = .pointer (some ⟨b, 0, none⟩) ∧ b ∉ X ∧ w.cell? ⟨b, 0, none⟩ = some c ∧ IsSl (kNd (kSt d)) 40 w X c (interN cmpPe (interT cmpPe d) emT s.cs t.cs))
    | 17 => .data (fun v w X => ∃ o n c, v = .agg #[.slice o n c] ∧ IsSl (kNd (kSt d)) 40 w X (.slice o n c) (interN cmpPe (interT cmpPe d) emT s.cs t.cs))
    | 18 => .data (fun v w X => ∃ a c, v = .agg #[a, c] ∧ IsSl kPe 32 w X a (interM cmpPe s.ms t.ms) ∧ IsSl (kNd (kSt d)) 40 w X c (interN cmpPe (interT cmpPe d) emT s.cs t.cs))
    | 19 => .data (fun v w X => (kSt (d + 1)).is w X [v] (interT cmpPe (d + 1) s t))
    | _ => .data fun _ _ _ => True, X, ?_, ?_, hX'.out.le hC.size, fun w' h => hC.trans h, ?_, ?_⟩
  · intro i hi
    simp only [List.mem_cons, List.not_mem_nil, or_false] at hi
    rcases hi with rfl | rfl | rfl | rfl | rfl | rfl | rfl | rfl
    · exact fun v w X w' Y hm ⟨b, c, e, h1, h2, h3⟩ => ⟨b, c, e, (hm.cell h1 h2).2, (hm.cell h1 h2).1, h3.mv hm (by decide)⟩
    · exact fun v w X w' Y hm ⟨b, c, e, h1, h2, h3⟩ => ⟨b, c, e, (hm.cell h1 h2).2, (hm.cell h1 h2).1, h3.mv hm (by decide)⟩
    · exact fun v w X w' Y hm ⟨o, n, c, e, h3⟩ => ⟨o, n, c, e, h3.mv hm (by decide)⟩
    · exact fun v w X w' Y hm ⟨b, c, e, h1, h2, h3⟩ => ⟨b, c, e, (hm.cell h1 h2).2, (hm.cell h1 h2).1, h3.mv hm (by rw [kNd_size]; decide)⟩
    · exact fun v w X w' Y hm ⟨b, c, e, h1, h2, h3⟩ => ⟨b, c, e, (hm.cell h1 h2).2, (hm.cell h1 h2).1, h3.mv hm (by rw [kNd_size]; decide)⟩
    · exact fun v w X w' Y hm ⟨o, n, c, e, h3⟩ => ⟨o, n, c, e, h3.mv hm (by rw [kNd_size]; decide)⟩
    · exact fun v w X w' Y hm ⟨a, c, e, h2, h3⟩ => ⟨a, c, e, h2.mv hm (by decide), h3.mv hm (by rw [kNd_size]; decide)⟩
    · exact fun v w X w' Y hm h => (kSt (d + 1)).mv h hm
  · intro i hi k T F h
    simp only [List.mem_cons, List.not_mem_nil, or_false] at hi
    rcases hi with rfl | rfl | rfl | rfl | rfl | rfl | rfl | rfl <;> cases h
  · intro i hi
    simp only [List.mem_cons, List.not_mem_nil, or_false] at hi
    rcases hi with rfl | rfl | rfl | rfl | rfl | rfl | rfl | rfl
    · intro vs w2 Z hE hM hZ _ _
      have hM2 := Lib.hid ((hC.mv X).trans hM)
      have hE2 := Lib.hid (hC.trans hE)
      apply opv_one (dl := []); (· rfl); (· kernel_rfl); (· (simp only [putL]; try rfl)); (· (first | rfl | (simp [Region.wanted, yielded, go_sem]; done) | (simp [Region.wanted, yielded, go_sem, *]; done))); intro K hK; go_simp
      refine esInter_c (X := Z) (hE2.out.keep c0) (hms'.out.mv hM2.out (by decide)) (hE2.out.keep e0) (hms2'.out.mv hM2.out (by decide)) hZ _ ?_
      intro w3 bn v' hE3 hbn hcn hv
      exact hK _ _ ⟨hE3, bn, v', rfl, hbn, hcn, hv⟩
    · intro vs w2 Z hE hM hZ _ hk
      obtain ⟨bb, cc, r1, r2, r3, r4⟩ := hk 6 (deps_mem (by kernel_rfl))
      apply opv_val (dl := [6]); (· rfl); (· kernel_rfl); (· (simp [putL, dstOf, go_sem, r1]; try rfl)); (· (first | rfl | (simp [Region.wanted, yielded, go_sem]; done) | (simp [Region.wanted, yielded, go_sem, *]; done))); (· (go_simp; try rfl))
      exact ⟨Ext.refl _, bb, cc, rfl, r2, r3, r4⟩
    · intro vs w2 Z hE hM hZ _ hk
      obtain ⟨bb, cc, r1, r2, r3, r4⟩ := hk 7 (deps_mem (by kernel_rfl))
      obtain ⟨so, sc, -, -, rfl, -⟩ := id r4.ex
      apply opv_val (dl := [7]); (· rfl); (· kernel_rfl); (· (simp [putL, dstOf, go_sem, r1]; try rfl)); (· (first | rfl | (simp [Region.wanted, yielded, go_sem]; done) | (simp [Region.wanted, yielded, go_sem, *]; done))); (· (go_simp; try rfl))
      exact ⟨Ext.refl _, _, _, _, rfl, r4⟩
    · intro vs w2 Z hE hM hZ _ _
      have hM2 := Lib.hid ((hC.mv X).trans hM)
      have hE2 := Lib.hid (hC.trans hE)
      apply opv_one (dl := []); (· rfl); (· kernel_rfl); (· (simp only [putL]; try rfl)); (· (first | rfl | (simp [Region.wanted, yielded, go_sem]; done) | (simp [Region.wanted, yielded, go_sem, *]; done))); intro K hK; go_simp
      refine ndInter_c ih'.out (X := Z) (hE2.out.keep c1) (hcs'.out.mv hM2.out (by rw [kNd_size]; decide)) (hE2.out.keep e1) (hcs2'.out.mv hM2.out (by rw [kNd_size]; decide)) s6'.out t6'.out hn3.out hZ _ ?_
      intro w3 bn v' hE3 hbn hcn hv
      exact hK _ _ ⟨hE3, bn, v', rfl, hbn, hcn, hv⟩
    · intro vs w2 Z hE hM hZ _ hk
      obtain ⟨bb, cc, r1, r2, r3, r4⟩ := hk 15 (deps_mem (by kernel_rfl))
      apply opv_val (dl := [15]); (· rfl); (· kernel_rfl); (· (simp [putL, dstOf, go_sem, r1]; try rfl)); (· (first | rfl | (simp [Region.wanted, yielded, go_sem]; done) | (simp [Region.wanted, yielded, go_sem, *]; done))); (· (go_simp; try rfl))
      exact ⟨Ext.refl _, bb, cc, rfl, r2, r3, r4⟩
    · intro vs w2 Z hE hM hZ _ hk
      obtain ⟨bb, cc, r1, r2, r3, r4⟩ := hk 16 (deps_mem (by kernel_rfl))
      obtain ⟨so, sc, -, -, rfl, -⟩ := id r4.ex
      apply opv_val (dl := [16]); (· rfl); (· kernel_rfl); (· (simp [putL, dstOf, go_sem, r1]; try rfl)); (· (first | rfl | (simp [Region.wanted, yielded, go_sem]; done) | (simp [Region.wanted, yielded, go_sem, *]; done))); (· (go_simp; try rfl))
      exact ⟨Ext.refl _, _, _, _, rfl, r4⟩
    · intro vs w2 Z hE hM hZ _ hk
      obtain ⟨po, pn, pc, ha, r4⟩ := hk 8 (deps_mem (by kernel_rfl))
      obtain ⟨qo, qn, qc, hc, r5⟩ := hk 17 (deps_mem (by kernel_rfl))
      apply opv_val (dl := [8, 17]); (· rfl); (· kernel_rfl); (· (simp [putL, dstOf, go_sem, ha, hc]; try rfl)); (· (first | rfl | (simp [Region.wanted, yielded, go_sem]; done) | (simp [Region.wanted, yielded, go_sem, *]; done))); (· (go_simp; try rfl))
      exact ⟨Ext.refl _, _, _, rfl, r4, r5⟩
    · intro vs w2 Z hE hM hZ _ hk
      obtain ⟨a, c, r1, r4, r5⟩ := hk 18 (deps_mem (by kernel_rfl))
      have o4 := r4.one
      have o5 := r5.one
      apply opv_one (dl := [18]); (· rfl); (· kernel_rfl); (· (simp [putL, dstOf, go_sem, r1]; try rfl)); (· (first | rfl | (simp [Region.wanted, yielded, go_sem]; done) | (simp [Region.wanted, yielded, go_sem, *]; done))); intro K hK; go_simp
      have hbk : (w2.alloc (.cells #[a, c] 126)).heap[w2.heap.size]? = some (.cells #[a, c] 126) := (push_get _ _ _).trans (if_pos rfl)
      exact hK _ _ ⟨Ext.alloc _ _, w2.heap.size, a, c, rfl, fun h => by have := hZ _ h; omega, cells_of hbk 0, cells_of hbk 1, r4.mv ((Ext.alloc w2 _).mv _) (by decide), r5.mv ((Ext.alloc w2 _).mv _) (by rw [kNd_size]; decide)⟩
  · intro vs w2 Z bs hE hM hZ hx0 hk hsep
    have r := hk 19 (by simp)
    obtain ⟨v, hv⟩ : ∃ v, vs 19 = v := ⟨_, rfl⟩
    simp only [Known, hv] at r
    have hvo := (kSt (d + 1)).one r v (by simp)
    apply par_end
    · simp [putL, dstOf, hv, go_sem]; rfl
    clear hk hsep
    have r' := Lib.hid ((kSt (d + 1)).mv r ((Mv.refl _ _).less hx0))
    clear r
    (apply scr_pure'; (· rfl); (· rfl); (· (intro w'; go_simp; try rfl)); (· (simp [go_sem]; try rfl)))
    refine scr_end ?_
    try simp only [Exit.then]
    go_wp2_with fail
    exact hR'.out _ _ (hC.trans hE) r'.out
theorem setInter_all : ∀ d, InC (kSt d) d
  | 0 => fun h => False.elim h
  | d + 1 => setInter_step (setInter_all d)

end Go.Proofs.YtihapgangilncaaGreat
