/- For all map types, the law FnCopyMap returns true: a map's type that is copied over another one takes its place whole; no condition beside the law's own. -/
import Derived.Test.YtmihdlbcjiaibaaLaw
import Derived.Test.YtmihdlbcjiaibaaCopyMap
namespace Go.Proofs.Ytmihdlbcjiaibaa
open Go.ChangeShapes Go.WideShapes Go.ChangeAt Go.RowKit

theorem copied_alike (d : Nat) (m : MtOf A) : aAlike svSame (d + 1) (.mk ⟨#[]⟩ [] [frMt (frA d) (toMt (toA d) m)]) (.mk ⟨#[]⟩ [] [m]) = true := by
  have h := a_rt (d + 1) (.mk ⟨#[]⟩ [] [m])
  simpa [frA, toA, frAt, toAt] using h

set_option maxRecDepth 100000 in
set_option maxHeartbeats 8000000 in
set_option pp.maxSteps 1000000 in
set_option pp.deepTerms true in
theorem fnCopyMap_law {d : Nat} {w : World} {cs ds : List Value} {m n : MtOf A} (hm : (kMt (kA d)).is w [] cs m) (hn : (kMt (kA d)).is w [] ds n) : Calls Try.prog 6 #[.agg cs.toArray, .agg ds.toArray] w fun e w' => e = .returned (.bool true) ∧ Below w.heap.size w w' := by
  suffices h : ∀ R : Ending → World → Prop, Ends R w (.bool true) → Calls Try.prog 6 #[.agg cs.toArray, .agg ds.toArray] w R from h _ (fun w' hE => ⟨rfl, hE⟩)
  intro R hR
  have hm' := Lib.hid hm
  have hn' := Lib.hid hn
  have hR' := Lib.hid hR
  have hmo := (kMt (kA d)).one hm
  have hno := (kMt (kA d)).one hn
  obtain ⟨m0, rs, rfl, hmf, hmr, hml⟩ := hm
  obtain ⟨n0, ss, rfl, hnf, hnr, hnl⟩ := hn
  obtain ⟨m1, m2, m3, m4, m5, m6, rfl, -⟩ := kRf_six hmr
  obtain ⟨n1, n2, n3, n4, n5, n6, rfl, -⟩ := kRf_six hnr
  simp only [List.cons_append, List.nil_append, listOne] at hmo hno
  obtain ⟨o0, o1, o2, o3, o4, o5, o6, o7, -⟩ := hmo
  obtain ⟨q0, q1, q2, q3, q4, q5, q6, q7, -⟩ := hno
  have hmf' := Lib.hid hmf
  have hnf' := Lib.hid hnf
  clear hmf hmr hml hnf hnr hnl hR
  generalize m.rel = mr at *
  generalize n.rel = nr at *
  simp only [List.cons_append, List.nil_append] at hm' hn' ⊢
  go_enter Try.func6, Try.ntmps6
  go_wp2_with fail
  refine abs2 (G := fun wr => Calls _ _ _ wr _) ?_
  intro w1 hE1 hb1 hb2 hs1
  have c0 : w1.cell? ⟨w.heap.size, 0, none⟩ = some (m0) := cells_of hb1 0; have c1 : w1.cell? ⟨w.heap.size, 1, none⟩ = some (m1) := cells_of hb1 1; have c2 : w1.cell? ⟨w.heap.size, 2, none⟩ = some (m2) := cells_of hb1 2; have c3 : w1.cell? ⟨w.heap.size, 3, none⟩ = some (m3) := cells_of hb1 3; have c4 : w1.cell? ⟨w.heap.size, 4, none⟩ = some (m4) := cells_of hb1 4; have c5 : w1.cell? ⟨w.heap.size, 5, none⟩ = some (m5) := cells_of hb1 5; have c6 : w1.cell? ⟨w.heap.size, 6, none⟩ = some (m6) := cells_of hb1 6; have c7 : w1.cell? ⟨w.heap.size, 7, none⟩ = some (.string mr) := cells_of hb1 7
  have e0 : w1.cell? ⟨w.heap.size + 1, 0, none⟩ = some (n0) := cells_of hb2 0; have e1 : w1.cell? ⟨w.heap.size + 1, 1, none⟩ = some (n1) := cells_of hb2 1; have e2 : w1.cell? ⟨w.heap.size + 1, 2, none⟩ = some (n2) := cells_of hb2 2; have e3 : w1.cell? ⟨w.heap.size + 1, 3, none⟩ = some (n3) := cells_of hb2 3; have e4 : w1.cell? ⟨w.heap.size + 1, 4, none⟩ = some (n4) := cells_of hb2 4; have e5 : w1.cell? ⟨w.heap.size + 1, 5, none⟩ = some (n5) := cells_of hb2 5; have e6 : w1.cell? ⟨w.heap.size + 1, 6, none⟩ = some (n6) := cells_of hb2 6; have e7 : w1.cell? ⟨w.heap.size + 1, 7, none⟩ = some (.string nr) := cells_of hb2 7
  clear hb1 hb2 hs1
  refine zzFits20_any (hmf'.out.mv (hE1.mv _) (by simp [kFt])) _ ?_
  intro b1 w2 hE2
  replace c0 := hE2.keep c0; replace c1 := hE2.keep c1; replace c2 := hE2.keep c2; replace c3 := hE2.keep c3; replace c4 := hE2.keep c4; replace c5 := hE2.keep c5; replace c6 := hE2.keep c6; replace c7 := hE2.keep c7; replace e0 := hE2.keep e0; replace e1 := hE2.keep e1; replace e2 := hE2.keep e2; replace e3 := hE2.keep e3; replace e4 := hE2.keep e4; replace e5 := hE2.keep e5; replace e6 := hE2.keep e6; replace e7 := hE2.keep e7
  replace hE1 := hE1.trans hE2
  clear hE2
  dsimp only
  cases b1
  · go_wp2_with fail
    exact hR'.out _ hE1
  go_wp2_with fail
  refine zzFits20_any (hnf'.out.mv (hE1.mv _) (by simp [kFt])) _ ?_
  intro b1 w3 hE2
  replace c0 := hE2.keep c0; replace c1 := hE2.keep c1; replace c2 := hE2.keep c2; replace c3 := hE2.keep c3; replace c4 := hE2.keep c4; replace c5 := hE2.keep c5; replace c6 := hE2.keep c6; replace c7 := hE2.keep c7; replace e0 := hE2.keep e0; replace e1 := hE2.keep e1; replace e2 := hE2.keep e2; replace e3 := hE2.keep e3; replace e4 := hE2.keep e4; replace e5 := hE2.keep e5; replace e6 := hE2.keep e6; replace e7 := hE2.keep e7
  replace hE1 := hE1.trans hE2
  clear hE2
  dsimp only
  cases b1
  · go_wp2_with fail
    exact hR'.out _ hE1
  go_wp2_with fail
  clear hmf' hnf'
  have hC : Ext w3 w3.drew := (Ext.refl _).drew
  have hE3 := hE1.trans hC
  refine wp_region_par [0, 3] [1, 2, 4, 5, 6, 7, 8] (fun w' => Ext w3 w') [(.read, 0), (.read, 3)] [1, 2, 4, 5, 6, 7, 8] [(.one, 9)] (by kernel_rfl) (by kernel_rfl) ?_
  (apply scr_read'; (· rfl); (· rfl); (· first | exact hC | exact (Ext.refl _).drew); (· (intro w' hw'; have c0_ := hw'.keep c0; have c1_ := hw'.keep c1; have c2_ := hw'.keep c2; have c3_ := hw'.keep c3; have c4_ := hw'.keep c4; have c5_ := hw'.keep c5; have c6_ := hw'.keep c6; have c7_ := hw'.keep c7; go_simp; try rfl)); (· (simp [go_sem]; try rfl)))
  (apply scr_read'; (· rfl); (· rfl); (· first | exact hC | exact (Ext.refl _).drew); (· (intro w' hw'; have e0_ := hw'.keep e0; have e1_ := hw'.keep e1; have e2_ := hw'.keep e2; have e3_ := hw'.keep e3; have e4_ := hw'.keep e4; have e5_ := hw'.keep e5; have e6_ := hw'.keep e6; have e7_ := hw'.keep e7; go_simp; try rfl)); (· (simp [go_sem]; try rfl)))
  refine ⟨fun
    | 1 => .data (fun v w X => v.oneCell' = true ∧ IsSl (kMt (kA d)) 144 w X v [m])
    | 2 => .data (fun v w X => ∃ u, v = .agg #[.string ⟨#[]⟩, .slice none 0 0, u] ∧ u.oneCell' = true ∧ IsSl (kMt (kA d)) 144 w X u [m])
    | 4 => .data (fun v w X => v.oneCell' = true ∧ IsSl (kMt (kA d)) 144 w X v [n])
    | 5 => .data (fun v w X => ∃ u, v = .agg #[.string ⟨#[]⟩, .slice none 0 0, u] ∧ u.oneCell' = true ∧ IsSl (kMt (kA d)) 144 w X u [n])
    | 6 => .fresh 42 #[.string ⟨#[]⟩, .slice none 0 0, .slice none 0 0]
    | 7 => .fresh 42 #[.string ⟨#[]⟩, .slice none 0 0, .slice none 0 0]
    | 8 => .store 6 42 (fun c w X => ∃ u, c = #[.string ⟨#[]⟩, .slice none 0 0, u] ∧ u.oneCell' = true ∧ IsSl (kMt (kA d)) 144 w X u [m])
    | _ => .data fun _ _ _ => True, [], ?_, ?_, Old.nil _, fun w' h => hC.trans h, ?_, ?_⟩
  · intro i hi
    simp only [List.mem_cons, List.not_mem_nil, or_false] at hi
    rcases hi with rfl | rfl | rfl | rfl | rfl | rfl | rfl
    · exact fun v w X w' Y hm ⟨h1, h⟩ => ⟨h1, h.mv hm (by simp [kMt])⟩
    · exact fun v w X w' Y hm ⟨u, e, h1, h⟩ => ⟨u, e, h1, h.mv hm (by simp [kMt])⟩
    · exact fun v w X w' Y hm ⟨h1, h⟩ => ⟨h1, h.mv hm (by simp [kMt])⟩
    · exact fun v w X w' Y hm ⟨u, e, h1, h⟩ => ⟨u, e, h1, h.mv hm (by simp [kMt])⟩
    · trivial
    · trivial
    · exact fun v w X w' Y hm ⟨u, e, h1, h⟩ => ⟨u, e, h1, h.mv hm (by simp [kMt])⟩
  · intro i hi k T F h
    simp only [List.mem_cons, List.not_mem_nil, or_false] at hi
    rcases hi with rfl | rfl | rfl | rfl | rfl | rfl | rfl <;> cases h
    refine ⟨⟨_, rfl⟩, deps_mem (by kernel_rfl), fun j hj T' F' h => ?_⟩
    · simp only [List.mem_cons, List.not_mem_nil, or_false] at hj
      rcases hj with rfl | rfl | rfl | rfl | rfl | rfl | rfl <;> first | (cases h; done) | rfl
  · intro i hi
    simp only [List.mem_cons, List.not_mem_nil, or_false] at hi
    rcases hi with rfl | rfl | rfl | rfl | rfl | rfl | rfl
    · intro vs w2 X hE hM hX _ _
      apply opv_one (dl := []); (· rfl); (· kernel_rfl); (· (simp only [putL]; try rfl)); (· (first | rfl | (simp [Region.wanted, yielded, go_sem]; done) | (simp [Region.wanted, yielded, go_sem, *]; done))); intro K hK; go_simp
      refine hK _ _ ⟨Ext.alloc _ _, rfl, IsSl.single (alloc_new _ _ rfl) (fun h => Nat.lt_irrefl _ (hX _ h)) ((kMt (kA d)).mv hm'.out (((hE3.mv _).trans hM).ext (Ext.alloc _ _))) (by decide)⟩
    · intro vs w2 X hE hM hX _ hk
      obtain ⟨h1, h2⟩ := hk 1 (deps_mem (by kernel_rfl))
      obtain ⟨so, sc, _, _, e1, -⟩ := id h2.ex
      rw [e1] at h1 h2
      apply opv_val (dl := [1]); (· rfl); (· kernel_rfl); (· (simp [putL, dstOf, go_sem, e1]; try rfl)); (· (first | rfl | (simp [Region.wanted, yielded, go_sem]; done) | (simp [Region.wanted, yielded, go_sem, *]; done))); (· (go_simp; try rfl))
      exact ⟨Ext.refl _, _, rfl, h1, h2⟩
    · intro vs w2 X hE hM hX _ _
      apply opv_one (dl := []); (· rfl); (· kernel_rfl); (· (simp only [putL]; try rfl)); (· (first | rfl | (simp [Region.wanted, yielded, go_sem]; done) | (simp [Region.wanted, yielded, go_sem, *]; done))); intro K hK; go_simp
      refine hK _ _ ⟨Ext.alloc _ _, rfl, IsSl.single (alloc_new _ _ rfl) (fun h => Nat.lt_irrefl _ (hX _ h)) ((kMt (kA d)).mv hn'.out (((hE3.mv _).trans hM).ext (Ext.alloc _ _))) (by decide)⟩
    · intro vs w2 X hE hM hX _ hk
      obtain ⟨h1, h2⟩ := hk 4 (deps_mem (by kernel_rfl))
      obtain ⟨so, sc, _, _, e1, -⟩ := id h2.ex
      rw [e1] at h1 h2
      apply opv_val (dl := [4]); (· rfl); (· kernel_rfl); (· (simp [putL, dstOf, go_sem, e1]; try rfl)); (· (first | rfl | (simp [Region.wanted, yielded, go_sem]; done) | (simp [Region.wanted, yielded, go_sem, *]; done))); (· (go_simp; try rfl))
      exact ⟨Ext.refl _, _, rfl, h1, h2⟩
    · intro vs w2 hE
      apply opv_one (dl := []); (· rfl); (· kernel_rfl); (· (simp only [putL]; try rfl)); (· (first | rfl | (simp [Region.wanted, yielded, go_sem]; done) | (simp [Region.wanted, yielded, go_sem, *]; done))); intro K hK; go_simp
      exact hK _ _ ⟨rfl, rfl⟩
    · intro vs w2 hE
      apply opv_one (dl := []); (· rfl); (· kernel_rfl); (· (simp only [putL]; try rfl)); (· (first | rfl | (simp [Region.wanted, yielded, go_sem]; done) | (simp [Region.wanted, yielded, go_sem, *]; done))); intro K hK; go_simp
      exact hK _ _ ⟨rfl, rfl⟩
    · intro vs w2 X b hE hM hX hx0 hbX hv hz hk
      obtain ⟨u, e2, e3, e4⟩ := hk 2 (deps_mem (by kernel_rfl))
      have hz' := hz _ _ rfl
      clear hk hz
      apply opv_one (dl := [2, 6]); (· rfl); (· kernel_rfl); (· (simp [putL, dstOf, go_sem, e2, hv]; try rfl)); (· (first | rfl | (simp [Region.wanted, yielded, go_sem]; done) | (simp [Region.wanted, yielded, go_sem, *]; done))); intro K hK
      refine wp_storeRow (cells := #[.string ⟨#[]⟩, .slice none 0 0, u]) 42 _ _ rfl Try.size42 rfl rfl hz' rfl (by simp [e3, str_one, slice_one]) ?_
      intro w3 h3 g3
      exact hK _ _ ⟨_, h3, g3, u, rfl, e3, e4.mv ((Mv.refl _ _).grown g3 (fun j hj => by cases hj; exact hbX)) (by simp [kMt])⟩
  · intro vs w2 X bs hE hM hX hx0 hk hsep
    obtain ⟨u1, v1, -, -⟩ := hk 2 (by simp)
    obtain ⟨u2, v5, p2, d2⟩ := hk 5 (by simp)
    obtain ⟨v6, l6, x6, -⟩ := hk 6 (by simp)
    obtain ⟨v7, l7, x7, h7⟩ := hk 7 (by simp)
    obtain ⟨c8, h8, u, rfl, p1, d1⟩ := hk 8 (by simp)
    have hne : bs 6 ≠ bs 7 := hsep 6 (by simp) 7 (by simp) rfl rfl (by decide)
    replace h7 := h7 (by intro s hs T' F; simp only [List.mem_cons, List.not_mem_nil, or_false] at hs; rcases hs with rfl | rfl | rfl | rfl | rfl | rfl | rfl <;> (intro h; cases h))
    apply par_end
    · simp [putL, dstOf, v1, v5, v6, v7, go_sem]; rfl
    generalize bs 6 = b6 at *
    generalize bs 7 = b7 at *
    have d1' := Lib.hid d1
    have d2' := Lib.hid d2
    clear hk hsep d1 d2
    refine scr_one rfl rfl (fun K hK => ?_)
    refine wp_storeRow (cells := #[.string ⟨#[]⟩, .slice none 0 0, u2]) 42 _ _ rfl Try.size42 rfl rfl h7 rfl (by simp [p2, str_one, slice_one]) ?_
    intro w4 h9 g9
    have h8' := (g9.block _ (hX _ x6) (fun e => hne (Option.some.inj e))).trans h8
    have hM4 : Mv w2 X w4 [] := ((Mv.refl w2 X).grown g9 (fun j hj => by cases hj; exact x7)).less (by simp)
    have hE4 : Ext w3.drew w4 := hE.grown g9 (fun j hj => by cases hj; exact l7)
    have d3 := Lib.hid (d1'.out.mv hM4 (by simp [kMt]))
    have d4 := Lib.hid (d2'.out.mv hM4 (by simp [kMt]))
    refine hK _ _ (fun _ => hC.trans hE4) ?_
    clear hK
    refine scr_end ?_
    simp only [Exit.then]
    have hE4' := hC.trans hE4
    replace c0 := hE4'.keep c0; replace c1 := hE4'.keep c1; replace c2 := hE4'.keep c2; replace c3 := hE4'.keep c3; replace c4 := hE4'.keep c4; replace c5 := hE4'.keep c5; replace c6 := hE4'.keep c6; replace c7 := hE4'.keep c7; replace e0 := hE4'.keep e0; replace e1 := hE4'.keep e1; replace e2 := hE4'.keep e2; replace e3 := hE4'.keep e3; replace e4 := hE4'.keep e4; replace e5 := hE4'.keep e5; replace e6 := hE4'.keep e6; replace e7 := hE4'.keep e7
    clear hE4'
    have f0 : w4.cell? ⟨b6, 0, none⟩ = some (.string ⟨#[]⟩) := cells_of h8' 0; have f1 : w4.cell? ⟨b6, 1, none⟩ = some (.slice none 0 0) := cells_of h8' 1; have f2 : w4.cell? ⟨b6, 2, none⟩ = some (u) := cells_of h8' 2
    have g0 : w4.cell? ⟨b7, 0, none⟩ = some (.string ⟨#[]⟩) := cells_of h9 0; have g1 : w4.cell? ⟨b7, 1, none⟩ = some (.slice none 0 0) := cells_of h9 1; have g2 : w4.cell? ⟨b7, 2, none⟩ = some (u2) := cells_of h9 2
    have hw4 := hE3.trans hE4
    clear h7 h8 h8' h9 g9 hX hM hE hM4 hE4 d1' d2' v1 v5 v6 v7 l6 l7 x6 x7 hx0 hE1 hE3 hC
    have a1 : (kA (d + 1)).is w4 [] [.string ⟨#[]⟩, .slice none 0 0, u] (.mk ⟨#[]⟩ [] [m]) := ⟨_, _, rfl, Nat.zero_le _, IsSl.nil _ _ _ _, d3.out⟩
    have a2 : (kA (d + 1)).is w4 [] [.string ⟨#[]⟩, .slice none 0 0, u2] (.mk ⟨#[]⟩ [] [n]) := ⟨_, _, rfl, Nat.zero_le _, IsSl.nil _ _ _ _, d4.out⟩
    have a1' := Lib.hid a1
    have a2' := Lib.hid a2
    clear a1 a2 d3 d4
    go_wp2_with fail
    refine defined_any (d + 1) _ [] [.string ⟨#[]⟩, .slice none 0 0, u] _ 20 a1'.out (by omega) (by omega) _ ?_
    intro w5 bd hE5
    replace c0 := hE5.keep c0; replace c1 := hE5.keep c1; replace c2 := hE5.keep c2; replace c3 := hE5.keep c3; replace c4 := hE5.keep c4; replace c5 := hE5.keep c5; replace c6 := hE5.keep c6; replace c7 := hE5.keep c7; replace e0 := hE5.keep e0; replace e1 := hE5.keep e1; replace e2 := hE5.keep e2; replace e3 := hE5.keep e3; replace e4 := hE5.keep e4; replace e5 := hE5.keep e5; replace e6 := hE5.keep e6; replace e7 := hE5.keep e7; replace f0 := hE5.keep f0; replace f1 := hE5.keep f1; replace f2 := hE5.keep f2; replace g0 := hE5.keep g0; replace g1 := hE5.keep g1; replace g2 := hE5.keep g2
    dsimp only
    cases bd
    · go_wp2_with fail
      exact hR'.out _ (hw4.trans hE5)
    go_wp2_with fail
    refine defined_any (d + 1) _ [] [.string ⟨#[]⟩, .slice none 0 0, u2] _ 20 ((kA (d + 1)).mv a2'.out (hE5.mv _)) (by omega) (by omega) _ ?_
    intro w6 bd hE6
    replace c0 := hE6.keep c0; replace c1 := hE6.keep c1; replace c2 := hE6.keep c2; replace c3 := hE6.keep c3; replace c4 := hE6.keep c4; replace c5 := hE6.keep c5; replace c6 := hE6.keep c6; replace c7 := hE6.keep c7; replace e0 := hE6.keep e0; replace e1 := hE6.keep e1; replace e2 := hE6.keep e2; replace e3 := hE6.keep e3; replace e4 := hE6.keep e4; replace e5 := hE6.keep e5; replace e6 := hE6.keep e6; replace e7 := hE6.keep e7; replace f0 := hE6.keep f0; replace f1 := hE6.keep f1; replace f2 := hE6.keep f2
    have hw6 := hw4.trans (hE5.trans hE6)
    replace a1' := Lib.hid ((kA (d + 1)).mv a1'.out ((hE5.trans hE6).mv _))
    clear hE5 hE6 g0 g1 g2 a2' hw4
    dsimp only
    cases bd
    · go_wp2_with fail
      exact hR'.out _ hw6
    go_wp2_with fail
    have hC : Ext w6 w6.drew := (Ext.refl _).drew
    refine wp_region_script [0, 1, 4, 5, 7] [2, 3] (fun w' => Ext w6 w') [(.read, 0), (.read, 1), (.read, 5), (.one, 2), (.one, 3), (.pure, 4), (.one, 6), (.pure, 7)] (by kernel_rfl) (by kernel_rfl) ?_
    (apply scr_read'; (· rfl); (· rfl); (· first | exact hC | exact (Ext.refl _).drew); (· (intro w' hw'; have c0_ := hw'.keep c0; have c1_ := hw'.keep c1; have c2_ := hw'.keep c2; have c3_ := hw'.keep c3; have c4_ := hw'.keep c4; have c5_ := hw'.keep c5; have c6_ := hw'.keep c6; have c7_ := hw'.keep c7; go_simp; try rfl)); (· (simp [go_sem]; try rfl)))
    (apply scr_read'; (· rfl); (· rfl); (· first | exact hC | exact (Ext.refl _).drew); (· (intro w' hw'; have e0_ := hw'.keep e0; have e1_ := hw'.keep e1; have e2_ := hw'.keep e2; have e3_ := hw'.keep e3; have e4_ := hw'.keep e4; have e5_ := hw'.keep e5; have e6_ := hw'.keep e6; have e7_ := hw'.keep e7; go_simp; try rfl)); (· (simp [go_sem]; try rfl)))
    (apply scr_read'; (· rfl); (· rfl); (· first | exact hC | exact (Ext.refl _).drew); (· (intro w' hw'; have f0_ := hw'.keep f0; have f1_ := hw'.keep f1; have f2_ := hw'.keep f2; go_simp; try rfl)); (· (simp [go_sem]; try rfl)))
    refine scr_one rfl rfl (fun K hK => ?_)
    go_simp
    refine implCopyMap_c (d := d) (cs := [m0, m1, m2, m3, m4, m5, m6, .string mr]) (ds := [n0, n1, n2, n3, n4, n5, n6, .string nr]) ((kMt (kA d)).mv hm'.out ((hw6.trans hC).mv _)) ((kMt (kA d)).mv hn'.out ((hw6.trans hC).mv _)) _ ?_
    intro w7 cs7 hE7 h7
    obtain ⟨z0, z1, z2, z3, z4, z5, z6, z7, rfl⟩ := eight_of ((kMt (kA d)).len h7 |>.trans (by simp [kMt, kA_size]))
    have h7' := Lib.hid h7
    clear h7
    refine hK _ _ (fun _ => hC.trans hE7) ?_
    clear hK
    refine scr_one rfl rfl (fun K hK => ?_)
    go_simp
    refine hK _ _ (fun _ => (hC.trans hE7).push _) ?_
    clear hK
    (apply scr_pure'; (· rfl); (· rfl); (· (intro w'; go_simp; try rfl)); (· (simp [go_sem]; try rfl)))
    have hp := Ext.alloc w7 (.cells #[z0, z1, z2, z3, z4, z5, z6, z7] 46)
    have z : (kA (d + 1)).is (w7.alloc (.cells #[z0, z1, z2, z3, z4, z5, z6, z7] 46)) [] [.string ⟨#[]⟩, .slice none 0 0, .slice (some ⟨w7.heap.size, 0, none⟩) 1 1] (.mk ⟨#[]⟩ [] [frMt (frA d) (toMt (toA d) m)]) :=
      ⟨_, _, rfl, Nat.zero_le _, IsSl.nil _ _ _ _, IsSl.single (alloc_new _ _ rfl) (by simp) ((kMt (kA d)).mv h7'.out (hp.mv _)) (by decide)⟩
    have z' := Lib.hid z
    clear z
    refine scr_one rfl rfl (fun K hK => ?_)
    go_simp
    refine sameAtom_c (d := d + 1) (cs := [.string ⟨#[]⟩, .slice none 0 0, .slice (some ⟨w7.heap.size, 0, none⟩) 1 1]) (ds := [.string ⟨#[]⟩, .slice none 0 0, u]) z'.out ((kA (d + 1)).mv a1'.out ((hC.trans (hE7.trans hp)).mv _)) _ ?_
    rw [copied_alike]
    intro w8 hE8
    refine hK _ _ (fun h => by simp at h) ?_
    clear hK
    (apply scr_pure'; (· rfl); (· rfl); (· (intro w'; go_simp; try rfl)); (· (simp [go_sem]; try rfl)))
    refine scr_end ?_
    simp only [Exit.then]
    go_wp2_with fail
    exact hR'.out _ (hw6.trans (hC.trans (hE7.trans (hp.trans hE8))))

set_option maxRecDepth 100000 in
theorem fnCopyMap_walk : LawWalk 6 Try.f6 := by
  intro H enc W base args ds ps hA _ hw hval
  rw [Try.params6] at hA hw hval
  obtain ⟨v0, v1, d0, d1, p0, p1, hargs, rfl, rfl, h0, h1⟩ := trodAll_two hA
  obtain ⟨args⟩ := args
  obtain rfl : args = [v0, v1] := by simpa using hargs
  obtain ⟨cs, rfl, hcs⟩ := okWide_struct Try.underlying46 (hval 0 46 v0 rfl rfl)
  obtain ⟨ds, rfl, hds⟩ := okWide_struct Try.underlying46 (hval 1 46 v1 rfl rfl)
  obtain ⟨fuel0, h0⟩ := h0
  obtain ⟨fuel1, h1⟩ := h1
  simp only [DataW.weightsEach, List.all_append, Bool.and_eq_true] at hw
  obtain ⟨m, hm⟩ := read_mt (atomIH fuel0) h0 hw.1
  obtain ⟨n, hn⟩ := read_mt (atomIH fuel1) h1 hw.2.1
  obtain ⟨d, hm⟩ := mt_depth hm
  obtain ⟨e, hn⟩ := mt_depth hn
  exact fnCopyMap_law (d := max d e) (cs := cs.toList) (ds := ds.toList) ((kMt_le (kA_le (Nat.le_max_left _ _))).2 hm) ((kMt_le (kA_le (Nat.le_max_right _ _))).2 hn)

set_option maxRecDepth 100000 in
theorem fnCopyMap_lifted (os : Os) (started : os.Started) (H : Type) (enc : TypeId × Value → H) :
    ReturnsInHanded {} Try.checked os 6 .any (Rows.fnCopyMapSpec.pre6 enc Try.prog Try.f6 Rows.fnCopyMapRow.domain false) (Rows.fnCopyMapSpec.post enc Try.prog Try.f6 false true false false) :=
  law_lift (s := Rows.fnCopyMapSpec) started (by kernel_rfl) Try.func6 rfl rfl
    (by rw [Try.params6]; intro t ht; simp at ht; rcases ht with rfl | rfl <;> exact ⟨by kernel_rfl, of_decide_eq_true (by kernel_rfl)⟩)
    (by rw [Try.params6]; intro ds hd; match ds, hd with | [a, b], _ => rfl)
    (ChangeSpec.witness6 (enc := enc) (C := Try.checked) false ⟨#[], #[.agg #[.slice none 0 0, .bool false, .string ⟨#[]⟩, .string ⟨#[]⟩, .slice none 0 0, .slice none 0 0, .string ⟨#[]⟩, .string ⟨#[]⟩], .agg #[.slice none 0 0, .bool false, .string ⟨#[]⟩, .string ⟨#[]⟩, .slice none 0 0, .slice none 0 0, .string ⟨#[]⟩, .string ⟨#[]⟩]], []⟩ 8 (by kernel_rfl) (by kernel_rfl) (by kernel_rfl) (by kernel_rfl))
    fnCopyMap_walk

theorem FnCopyMap_holds : Rows.FnCopyMapSaid :=
  OpenClaim.holds_of_wide 6 Try.f6 rfl rfl rfl rfl rfl rfl rfl ⟨rfl, rfl, rfl, rfl, rfl⟩ rfl rfl rfl rfl rfl (by kernel_rfl) Try.func6 (by kernel_rfl)
    (of_decide_eq_true (by kernel_rfl)) (by unfold Func.isWrapper; first | (rw [if_pos (by decide +kernel)]; kernel_rfl) | (rw [if_neg (by decide +kernel)]; exact ⟨rfl, rfl⟩))
    (fun os started H enc _ => fnCopyMap_lifted os started H enc)

end Go.Proofs.Ytmihdlbcjiaibaa
