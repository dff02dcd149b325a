/- For all maps a and b, going over both the other way round tells the same keys, with the values swapped, and as many as the reference's: no condition beside the law's own. -/
import Derived.Test.YtnndacgokehkpaaZipT
import Derived.Test.YtnndacgokehkpaaSameV
import Derived.Test.YtnndacgokehkpaaEqL
import Derived.Test.YtnndacgokehkpaaOrderly
import Derived.Test.YtnndacgokehkpaaFits
import Derived.Test.YtnndacgokehkpaaGrd
import Derived.Test.YtnndacgokehkpaaLaw
namespace Go.Proofs.Ytnndacgokehkpaa
open Go.ChangeShapes Go.WideShapes Go.ChangeAt Go.RowKit

theorem insK_keys {α : Type} (q k : ByteArray) (v : α) (es : EntsOfT α) : q ∈ (insK k v es).map (·.1) ↔ q = k ∨ q ∈ es.map (·.1) := by
  have h1 := lookK_none (q := q) (es := insK k v es)
  have h2 := lookK_none (q := q) (es := es)
  rw [lookK_ins] at h1
  by_cases e : q = k
  · rw [if_pos e] at h1
    simp only [e, true_or, iff_true]
    by_cases h : k ∈ (insK k v es).map (·.1)
    · exact h
    · rw [e] at h1
      exact absurd (h1.2 h) (by simp)
  · rw [if_neg e] at h1
    have : q ∈ (insK k v es).map (·.1) ↔ q ∈ es.map (·.1) := by
      by_cases ha : q ∈ (insK k v es).map (·.1) <;> by_cases hb : q ∈ es.map (·.1) <;> simp only [ha, hb]
      · exact absurd ha (h1.1 (h2.2 hb))
      · exact absurd hb (h2.1 (h1.2 ha))
    rw [this]
    simp [e]
theorem insAll_keys {α : Type} (q : ByteArray) : ∀ (ps acc : EntsOfT α), q ∈ (insAll acc ps).map (·.1) ↔ q ∈ acc.map (·.1) ∨ q ∈ ps.map (·.1)
  | [], acc => by simp [insAll]
  | p :: ps, acc => by
    have e : insAll acc (p :: ps) = insAll (insK p.1 p.2 acc) ps := rfl
    rw [e, insAll_keys q ps, insK_keys, List.map_cons, List.mem_cons]
    constructor
    · rintro ((h | h) | h)
      · exact .inr (.inl h)
      · exact .inl h
      · exact .inr (.inr h)
    · rintro (h | h | h)
      · exact .inl (.inr h)
      · exact .inl (.inl h)
      · exact .inr h
theorem zip_keysf {α β : Type} (f : α → β) (ks : List ByteArray) (l : List α) : (ks.zip (l.map f)).map (·.1) = (ks.zip l).map (·.1) := by
  rw [List.zip_map_right, List.map_map]
  rfl
theorem plainEnts_keys (keys : List ByteArray) (l : List V) (q : ByteArray) : q ∈ (plainEnts keys l).map (·.1) ↔ q ∈ (insAll [] (keys.zip (V.cleanL l))).map (·.1) := by
  rw [plainEnts, ← sort_keys, insAll_keys, insAll_keys, V.plainL_eq, V.cleanL_eq, zip_keysf, zip_keysf]
  simp only [List.map_nil]
theorem zip_len {keys keys2 : List ByteArray} {l l2 : List V} {O : List ByteArray} (hO : Rising O) (hm : ∀ k, k ∈ O ↔ k ∈ (plainEnts keys l).map (·.1) ∨ k ∈ (plainEnts keys2 l2).map (·.1)) :
    (insAll (insAll [] (keys.zip (V.cleanL l))) (insAll [] (keys2.zip (V.cleanL l2)))).length = O.length := by
  have e : O = (insAll (insAll [] (keys.zip (V.cleanL l))) (insAll [] (keys2.zip (V.cleanL l2)))).map (·.1) := by
    refine rising_ext hO (insAll_rising _ (insAll_rising _ trivial)) (fun q => ?_)
    rw [hm, insAll_keys, plainEnts_keys, plainEnts_keys]
  rw [e, List.length_map]

set_option maxRecDepth 100000 in
set_option maxHeartbeats 1000000 in
theorem zzFits5_z {w : World} {X : List Nat} {cs : List Value} {kind n : Int} {f : Nat} {s : ByteArray} {keys : List ByteArray} {l : List V} (hv : IsV w X cs (.mk kind n f s keys l)) (R : Ending → World → Prop) (hR : ∀ b, (b = true → (l.length : Int) ≤ 2147483647) → Ends R w (.bool b)) :
    Calls Try.prog 5 #[.agg cs.toArray] w R := by
  obtain ⟨ko, kc, o, c, rfl, -, hks, -⟩ := hv.inv
  clear hv
  have hR' := Lib.hid hR
  have hks' := Lib.hid hks
  clear hR hks
  by_cases hl : (2147483647 : Int) < (l.length : Int)
  all_goals
    have hl' := Lib.hid hl
    go_enter Try.func5, Try.ntmps5
    go_wp2_with fail
    · exact hR'.out _ (fun h => by cases h) _ (.alloc _ _)
    · refine zzFits2_any (hks'.out.mv ((Ext.alloc _ _).mv X)) _ ?_
      intro b w1 hE1
      dsimp only
      obtain ⟨hc1, hf1, hz1⟩ := hE1.cells
      cases b
      · go_wp2_with fail
        exact hR'.out _ (fun h => by cases h) _ ((Ext.alloc _ _).trans hE1)
      · go_wp2_with fail
        exact hR'.out _ (fun h => by first | (cases h; done) | (have := hl'.out; omega)) _ ((Ext.alloc _ _).trans hE1)

set_option maxRecDepth 100000 in
set_option maxHeartbeats 8000000 in
set_option pp.maxSteps 1000000 in
set_option pp.deepTerms true in
theorem fnZipSwapped_law {w : World} {cs ds : List Value} {a b : V} (ha : IsV w [] cs a) (hb : IsV w [] ds b) :
    Calls Try.prog 3 #[.agg cs.toArray, .agg ds.toArray] w fun e w' => e = .returned (.bool true) ∧ Below w.heap.size w w' := by
  suffices h : ∀ R : Ending → World → Prop, Ends R w (.bool true) → Calls Try.prog 3 #[.agg cs.toArray, .agg ds.toArray] w R from h _ (fun w' hE => ⟨rfl, hE⟩)
  intro R hR
  obtain ⟨x, rfl⟩ := ha.shape
  obtain ⟨y, rfl⟩ := hb.shape
  obtain ⟨ka, na, fa, sa, keys, l⟩ := a
  obtain ⟨kb, nb, fb, sb, keys2, l2⟩ := b
  have ha' := Lib.hid ha
  have hb' := Lib.hid hb
  have hR' := Lib.hid hR
  clear hR ha hb
  simp only [Cells6.list]
  go_enter Try.func3, Try.ntmps3
  go_wp2_with fail
  refine abs2 (G := fun wr => Calls _ _ _ wr _) ?_
  intro w1 hE1 hb1 hb2 hs1
  have e0 : w1.cell? ⟨w.heap.size, 0, none⟩ = some (.int .i64 x.kind) := cells_of hb1 0; have e1 : w1.cell? ⟨w.heap.size, 1, none⟩ = some (.int .i64 x.n) := cells_of hb1 1; have e2 : w1.cell? ⟨w.heap.size, 2, none⟩ = some (.float .f64 x.f) := cells_of hb1 2; have e3 : w1.cell? ⟨w.heap.size, 3, none⟩ = some (.string x.s) := cells_of hb1 3; have e4 : w1.cell? ⟨w.heap.size, 4, none⟩ = some (.slice x.ko x.kn x.kc) := cells_of hb1 4; have e5 : w1.cell? ⟨w.heap.size, 5, none⟩ = some (.slice x.o x.m x.c) := cells_of hb1 5
  have f0 : w1.cell? ⟨w.heap.size + 1, 0, none⟩ = some (.int .i64 y.kind) := cells_of hb2 0; have f1 : w1.cell? ⟨w.heap.size + 1, 1, none⟩ = some (.int .i64 y.n) := cells_of hb2 1; have f2 : w1.cell? ⟨w.heap.size + 1, 2, none⟩ = some (.float .f64 y.f) := cells_of hb2 2; have f3 : w1.cell? ⟨w.heap.size + 1, 3, none⟩ = some (.string y.s) := cells_of hb2 3; have f4 : w1.cell? ⟨w.heap.size + 1, 4, none⟩ = some (.slice y.ko y.kn y.kc) := cells_of hb2 4; have f5 : w1.cell? ⟨w.heap.size + 1, 5, none⟩ = some (.slice y.o y.m y.c) := cells_of hb2 5
  clear hb1 hb2 hs1
  refine zzFits5_z (cs := x.list) (ha'.out.mv (hE1.mv [])) _ ?_
  intro t1 ht1 w2 hE2
  have ht1' := Lib.hid ht1
  replace e0 := hE2.keep e0; replace e1 := hE2.keep e1; replace e2 := hE2.keep e2; replace e3 := hE2.keep e3; replace e4 := hE2.keep e4; replace e5 := hE2.keep e5; replace f0 := hE2.keep f0; replace f1 := hE2.keep f1; replace f2 := hE2.keep f2; replace f3 := hE2.keep f3; replace f4 := hE2.keep f4; replace f5 := hE2.keep f5
  replace hE1 := hE1.trans hE2
  clear hE2 ht1
  dsimp only
  cases t1
  · go_wp2_with fail
    exact hR'.out _ hE1
  go_wp2_with fail
  refine zzFits5_z (cs := y.list) (hb'.out.mv (hE1.mv [])) _ ?_
  intro t2 ht2 w3 hE3
  have ht2' := Lib.hid ht2
  replace e0 := hE3.keep e0; replace e1 := hE3.keep e1; replace e2 := hE3.keep e2; replace e3 := hE3.keep e3; replace e4 := hE3.keep e4; replace e5 := hE3.keep e5; replace f0 := hE3.keep f0; replace f1 := hE3.keep f1; replace f2 := hE3.keep f2; replace f3 := hE3.keep f3; replace f4 := hE3.keep f4; replace f5 := hE3.keep f5
  replace hE1 := hE1.trans hE3
  clear hE3 ht2
  dsimp only
  cases t2
  · go_wp2_with fail
    exact hR'.out _ hE1
  have hl31 : (l.length : Int) ≤ 2147483647 := ht1'.out (by trivial)
  have hl32 : (l2.length : Int) ≤ 2147483647 := ht2'.out (by trivial)
  have hab := Lib.hid (show (l.length + l2.length) * 64 ≤ 140737488351232 by omega)
  have hba := Lib.hid (show (l2.length + l.length) * 64 ≤ 140737488351232 by omega)
  have hba8 := Lib.hid (show (l2.length + l.length + 1) * 88 ≤ 140737488351232 by omega)
  clear hl31 hl32 ht1' ht2'
  go_wp2_with fail
  refine wp_region_script [0, 1, 3, 4, 6, 7] [2] (fun w' => Ext w3 w') [(.read, 0), (.read, 1), (.read, 3), (.read, 4), (.one, 2), (.one, 5), (.pure, 6), (.pure, 7)] (by kernel_rfl) (by kernel_rfl) ?_
  have hC := Ext.refl w3
  iterate 4 (apply scr_read'; (· rfl); (· rfl); (· first | exact hC | exact (Ext.refl _).drew); (· (intro w' hw'; have e0_ := hw'.keep e0; have e1_ := hw'.keep e1; have e2_ := hw'.keep e2; have e3_ := hw'.keep e3; have e4_ := hw'.keep e4; have e5_ := hw'.keep e5; have f0_ := hw'.keep f0; have f1_ := hw'.keep f1; have f2_ := hw'.keep f2; have f3_ := hw'.keep f3; have f4_ := hw'.keep f4; have f5_ := hw'.keep f5; go_simp; try rfl)); (· (simp [go_sem]; try rfl)))
  clear hC
  have hCd : Ext w3 w3.drew := (Ext.refl _).drew
  refine scr_one rfl rfl (fun K hK => ?_)
  go_simp
  refine implZipMaps_c (cs := x.list) (ds := y.list) (ha'.out.mv ((hE1.trans hCd).mv [])) (hb'.out.mv ((hE1.trans hCd).mv [])) hab.out _ ?_
  intro w4 v1 O hE4 hO hOm hsl1
  have hC := hCd.trans hE4
  have hsl1' := Lib.hid hsl1
  have hO' := Lib.hid hO
  have hOm' := Lib.hid hOm
  have hv1 := hsl1.one
  clear hsl1 hO hOm
  refine hK _ _ (fun _ => hC) ?_
  clear hK
  refine scr_one rfl rfl (fun K hK => ?_)
  go_simp
  refine implZipMaps_c (cs := y.list) (ds := x.list) (hb'.out.mv ((hE1.trans hC).mv [])) (ha'.out.mv ((hE1.trans hC).mv [])) hba.out _ ?_
  intro w5 v2 O2 hE5 hO2 hOm2 hsl2
  have hOO : O2 = O := rising_ext hO2 hO'.out (fun k => by rw [hOm2, hOm'.out, or_comm])
  subst hOO
  have hlen := Lib.hid (zip_len hO2 hOm2)
  have hCC := hC.trans hE5
  replace hE1 := hE1.trans hCC
  replace e0 := hCC.keep e0; replace e1 := hCC.keep e1; replace e2 := hCC.keep e2; replace e3 := hCC.keep e3; replace e4 := hCC.keep e4; replace e5 := hCC.keep e5; replace f0 := hCC.keep f0; replace f1 := hCC.keep f1; replace f2 := hCC.keep f2; replace f3 := hCC.keep f3; replace f4 := hCC.keep f4; replace f5 := hCC.keep f5
  have hsl2' := Lib.hid hsl2
  have hsl3' := Lib.hid (hsl1'.out.mv (hE5.mv []) (by decide))
  have hv2 := hsl2.one
  obtain ⟨o1, c1, bb1, of1, rfl, -, -, p1, q1⟩ := hsl3'.out.ex
  obtain ⟨o2, c2, bb2, of2, rfl, -, w2b, p2, q2⟩ := hsl2.ex
  rw [List.length_map] at w2b
  have w2b' := Lib.hid w2b
  have p1' := Lib.hid p1
  have q1' := Lib.hid q1
  have p2' := Lib.hid p2
  have q2' := Lib.hid q2
  clear hO2 hOm2 hsl2 hO' hOm' hsl1' p1 p2 q1 q2 w2b
  refine hK _ _ (fun h => by simp at h) ?_
  clear hK
  iterate 2 (apply scr_pure'; (· rfl); (· rfl); (· (intro w'; go_simp; try rfl)); (· (simp [go_sem]; try rfl)))
  refine scr_end ?_
  simp only [Exit.then]
  clear hC hCC hE4 hE5
  go_wp2_with fail
  refine specZip_c (cs := y.list) (ds := x.list) (hb'.out.mv (hE1.mv [])) (ha'.out.mv (hE1.mv [])) hba8.out _ ?_
  rw [hlen.out]
  intro w6 o6 c6 hE6
  dsimp only
  replace e0 := hE6.keep e0; replace e1 := hE6.keep e1; replace e2 := hE6.keep e2; replace e3 := hE6.keep e3; replace e4 := hE6.keep e4; replace e5 := hE6.keep e5; replace f0 := hE6.keep f0; replace f1 := hE6.keep f1; replace f2 := hE6.keep f2; replace f3 := hE6.keep f3; replace f4 := hE6.keep f4; replace f5 := hE6.keep f5
  obtain ⟨n, hn⟩ : ∃ n, O2.length = n := ⟨_, rfl⟩
  have hn' := Lib.hid hn
  rw [hn]
  clear hn
  go_wp2_with fail
  go_loopw [7, 38] (fun _ i wr => ∃ k : Nat, k ≤ n ∧ i = .int .i64 k ∧ Ext w6 wr) (fun _ i _ => n - (intOf i).toNat)
  case atStart => exact ⟨0, Nat.zero_le _, rfl, Ext.refl _⟩
  case round =>
    obtain ⟨k, hk, rfl, hE⟩ := hrel
    by_cases hlt : k < n
    · have hkO : k < O2.length := by rw [hn'.out]; exact hlt
      have hER := Lib.hid (hE6.trans hE)
      obtain ⟨rfl, -⟩ := p1'.out (by rw [List.length_map]; omega)
      obtain ⟨rfl, -⟩ := p2'.out (by rw [List.length_map]; omega)
      obtain ⟨cs1, hc1, va1, vb1, rfl, hA1, hB1⟩ := q1'.out k (by rw [List.length_map]; exact hkO)
      obtain ⟨cs2, hc2, va2, vb2, rfl, hA2, hB2⟩ := q2'.out k (by rw [List.length_map]; exact hkO)
      rw [List.getElem_map] at hA1 hB1 hA2 hB2 hc1 hc2
      have ek : kZp.size = 3 := rfl
      rw [ek] at hc1 hc2
      simp only [zr] at hA1 hB1 hA2 hB2 hc1 hc2
      have x0 := hER.out.keep (hc1 0 (by omega))
      have x1 := hER.out.keep (hc1 1 (by omega))
      have x2 := hER.out.keep (hc1 2 (by omega))
      have y0 := hER.out.keep (hc2 0 (by omega))
      have y1 := hER.out.keep (hc2 1 (by omega))
      have y2 := hER.out.keep (hc2 2 (by omega))
      simp only [Nat.add_zero] at x0 y0
      generalize hky : O2[k] = ky at x0 y0 hA1 hB1 hA2 hB2
      have hAB := Lib.hid (hA1.mv (hER.out.mv []))
      have hBA := Lib.hid (hB1.mv (hER.out.mv []))
      have hAB2 := Lib.hid (hB2.mv (hER.out.mv []))
      have hBA2 := Lib.hid (hA2.mv (hER.out.mv []))
      clear hc1 hc2 hA1 hB1 hA2 hB2 hky ek
      have hi1 : (k : Int) < (n : Int) := by omega
      have hkb := Lib.hid hkO
      have hE' := Lib.hid hE
      have hkm : (k : Int) + 1 ≤ 9223372036854775807 := by
        have := w2b'.out
        omega
      clear hkO hE
      go_wp2_with fail
      refine wp_region_script [0, 1, 2, 3, 4, 5, 6, 7, 8, 9, 10, 11, 12, 13, 14, 15, 16, 17, 18, 19, 20, 21, 23, 24, 25, 26, 27, 28, 29, 30, 31, 32, 33, 34, 35, 37, 38] [22] (fun w' => Ext wr w') [(.pure, 0), (.pure, 1), (.pure, 2), (.pure, 3), (.read, 4), (.pure, 5), (.pure, 6), (.pure, 7), (.pure, 8), (.read, 9), (.pure, 10), (.pure, 11), (.pure, 12), (.pure, 13), (.pure, 14), (.pure, 15), (.read, 16), (.pure, 17), (.pure, 18), (.pure, 19), (.pure, 20), (.read, 21), (.one, 22), (.pure, 23), (.pure, 24), (.pure, 25), (.pure, 26), (.pure, 27), (.pure, 28), (.pure, 29), (.read, 30), (.pure, 31), (.pure, 32), (.pure, 33), (.pure, 34), (.read, 35), (.one, 36), (.pure, 37), (.pure, 38)] (by kernel_rfl) (by kernel_rfl) ?_
      iterate 4 (first | (apply scr_pG; (· rfl); (· (first | rfl | (simp [Region.wanted, yielded, go_sem]; done) | (simp [Region.wanted, yielded, go_sem, *]; done))); (· (intro w'; go_simp; try rfl)); (· (simp [go_sem]; try rfl))) | (apply scr_p0; (· rfl); (· (first | rfl | (simp [Region.wanted, yielded, go_sem]; done) | (simp [Region.wanted, yielded, go_sem, *]; done))); (· (simp [go_sem]; try rfl))))
      (first | (apply scr_rG; (· rfl); (· (first | rfl | (simp [Region.wanted, yielded, go_sem]; done) | (simp [Region.wanted, yielded, go_sem, *]; done))); (· first | exact hC | exact (Ext.refl _).drew); (· (intro w' hw'; have x0_ := hw'.keep x0; have x1_ := hw'.keep x1; have x2_ := hw'.keep x2; have y0_ := hw'.keep y0; have y1_ := hw'.keep y1; have y2_ := hw'.keep y2; go_simp; try rfl)); (· (simp [go_sem]; try rfl))) | (apply scr_r0G; (· rfl); (· (first | rfl | (simp [Region.wanted, yielded, go_sem]; done) | (simp [Region.wanted, yielded, go_sem, *]; done))); (· first | exact hC | exact (Ext.refl _).drew); (· (simp [go_sem]; try rfl))))
      iterate 4 (first | (apply scr_pG; (· rfl); (· (first | rfl | (simp [Region.wanted, yielded, go_sem]; done) | (simp [Region.wanted, yielded, go_sem, *]; done))); (· (intro w'; go_simp; try rfl)); (· (simp [go_sem]; try rfl))) | (apply scr_p0; (· rfl); (· (first | rfl | (simp [Region.wanted, yielded, go_sem]; done) | (simp [Region.wanted, yielded, go_sem, *]; done))); (· (simp [go_sem]; try rfl))))
      (first | (apply scr_rG; (· rfl); (· (first | rfl | (simp [Region.wanted, yielded, go_sem]; done) | (simp [Region.wanted, yielded, go_sem, *]; done))); (· first | exact hC | exact (Ext.refl _).drew); (· (intro w' hw'; have x0_ := hw'.keep x0; have x1_ := hw'.keep x1; have x2_ := hw'.keep x2; have y0_ := hw'.keep y0; have y1_ := hw'.keep y1; have y2_ := hw'.keep y2; go_simp; try rfl)); (· (simp [go_sem]; try rfl))) | (apply scr_r0G; (· rfl); (· (first | rfl | (simp [Region.wanted, yielded, go_sem]; done) | (simp [Region.wanted, yielded, go_sem, *]; done))); (· first | exact hC | exact (Ext.refl _).drew); (· (simp [go_sem]; try rfl))))
      iterate 6 (first | (apply scr_pG; (· rfl); (· (first | rfl | (simp [Region.wanted, yielded, go_sem]; done) | (simp [Region.wanted, yielded, go_sem, *]; done))); (· (intro w'; go_simp; try rfl)); (· (simp [go_sem]; try rfl))) | (apply scr_p0; (· rfl); (· (first | rfl | (simp [Region.wanted, yielded, go_sem]; done) | (simp [Region.wanted, yielded, go_sem, *]; done))); (· (simp [go_sem]; try rfl))))
      (first | (apply scr_rG; (· rfl); (· (first | rfl | (simp [Region.wanted, yielded, go_sem]; done) | (simp [Region.wanted, yielded, go_sem, *]; done))); (· first | exact hC | exact (Ext.refl _).drew); (· (intro w' hw'; have x0_ := hw'.keep x0; have x1_ := hw'.keep x1; have x2_ := hw'.keep x2; have y0_ := hw'.keep y0; have y1_ := hw'.keep y1; have y2_ := hw'.keep y2; go_simp; try rfl)); (· (simp [go_sem]; try rfl))) | (apply scr_r0G; (· rfl); (· (first | rfl | (simp [Region.wanted, yielded, go_sem]; done) | (simp [Region.wanted, yielded, go_sem, *]; done))); (· first | exact hC | exact (Ext.refl _).drew); (· (simp [go_sem]; try rfl))))
      iterate 4 (first | (apply scr_pG; (· rfl); (· (first | rfl | (simp [Region.wanted, yielded, go_sem]; done) | (simp [Region.wanted, yielded, go_sem, *]; done))); (· (intro w'; go_simp; try rfl)); (· (simp [go_sem]; try rfl))) | (apply scr_p0; (· rfl); (· (first | rfl | (simp [Region.wanted, yielded, go_sem]; done) | (simp [Region.wanted, yielded, go_sem, *]; done))); (· (simp [go_sem]; try rfl))))
      (first | (apply scr_rG; (· rfl); (· (first | rfl | (simp [Region.wanted, yielded, go_sem]; done) | (simp [Region.wanted, yielded, go_sem, *]; done))); (· first | exact hC | exact (Ext.refl _).drew); (· (intro w' hw'; have x0_ := hw'.keep x0; have x1_ := hw'.keep x1; have x2_ := hw'.keep x2; have y0_ := hw'.keep y0; have y1_ := hw'.keep y1; have y2_ := hw'.keep y2; go_simp; try rfl)); (· (simp [go_sem]; try rfl))) | (apply scr_r0G; (· rfl); (· (first | rfl | (simp [Region.wanted, yielded, go_sem]; done) | (simp [Region.wanted, yielded, go_sem, *]; done))); (· first | exact hC | exact (Ext.refl _).drew); (· (simp [go_sem]; try rfl))))
      refine scr_oneG rfl (by simp [Region.wanted, yielded, go_sem]) (fun K hK => ?_)
      go_simp
      refine sameValues_c (hAB.out.mv ((Ext.refl _).drew.mv [])) (hAB2.out.mv ((Ext.refl _).drew.mv [])) _ ?_
      rw [sameL_refl]
      intro w7 hE7
      have hC := (Ext.refl wr).drew.trans hE7
      refine hK _ _ (fun _ => hC) ?_
      clear hK
      iterate 7 (first | (apply scr_pG; (· rfl); (· (first | rfl | (simp [Region.wanted, yielded, go_sem]; done) | (simp [Region.wanted, yielded, go_sem, *]; done))); (· (intro w'; go_simp; try rfl)); (· (simp [go_sem]; try rfl))) | (apply scr_p0; (· rfl); (· (first | rfl | (simp [Region.wanted, yielded, go_sem]; done) | (simp [Region.wanted, yielded, go_sem, *]; done))); (· (simp [go_sem]; try rfl))))
      (first | (apply scr_rG; (· rfl); (· (first | rfl | (simp [Region.wanted, yielded, go_sem]; done) | (simp [Region.wanted, yielded, go_sem, *]; done))); (· first | exact hC | exact (Ext.refl _).drew); (· (intro w' hw'; have x0_ := hw'.keep x0; have x1_ := hw'.keep x1; have x2_ := hw'.keep x2; have y0_ := hw'.keep y0; have y1_ := hw'.keep y1; have y2_ := hw'.keep y2; go_simp; try rfl)); (· (simp [go_sem]; try rfl))) | (apply scr_r0G; (· rfl); (· (first | rfl | (simp [Region.wanted, yielded, go_sem]; done) | (simp [Region.wanted, yielded, go_sem, *]; done))); (· first | exact hC | exact (Ext.refl _).drew); (· (simp [go_sem]; try rfl))))
      iterate 4 (first | (apply scr_pG; (· rfl); (· (first | rfl | (simp [Region.wanted, yielded, go_sem]; done) | (simp [Region.wanted, yielded, go_sem, *]; done))); (· (intro w'; go_simp; try rfl)); (· (simp [go_sem]; try rfl))) | (apply scr_p0; (· rfl); (· (first | rfl | (simp [Region.wanted, yielded, go_sem]; done) | (simp [Region.wanted, yielded, go_sem, *]; done))); (· (simp [go_sem]; try rfl))))
      (first | (apply scr_rG; (· rfl); (· (first | rfl | (simp [Region.wanted, yielded, go_sem]; done) | (simp [Region.wanted, yielded, go_sem, *]; done))); (· first | exact hC | exact (Ext.refl _).drew); (· (intro w' hw'; have x0_ := hw'.keep x0; have x1_ := hw'.keep x1; have x2_ := hw'.keep x2; have y0_ := hw'.keep y0; have y1_ := hw'.keep y1; have y2_ := hw'.keep y2; go_simp; try rfl)); (· (simp [go_sem]; try rfl))) | (apply scr_r0G; (· rfl); (· (first | rfl | (simp [Region.wanted, yielded, go_sem]; done) | (simp [Region.wanted, yielded, go_sem, *]; done))); (· first | exact hC | exact (Ext.refl _).drew); (· (simp [go_sem]; try rfl))))
      refine scr_oneG rfl (by simp [Region.wanted, yielded, go_sem]) (fun K hK => ?_)
      go_simp
      refine sameValues_c (hBA.out.mv (hC.mv [])) (hBA2.out.mv (hC.mv [])) _ ?_
      rw [sameL_refl]
      intro w8 hE8
      refine hK _ _ (fun h => by simp at h) ?_
      clear hK
      iterate 2 (first | (apply scr_pG; (· rfl); (· (first | rfl | (simp [Region.wanted, yielded, go_sem]; done) | (simp [Region.wanted, yielded, go_sem, *]; done))); (· (intro w'; go_simp; try rfl)); (· (simp [go_sem]; try rfl))) | (apply scr_p0; (· rfl); (· (first | rfl | (simp [Region.wanted, yielded, go_sem]; done) | (simp [Region.wanted, yielded, go_sem, *]; done))); (· (simp [go_sem]; try rfl))))
      refine scr_end ?_
      simp only [Exit.then]
      go_wp2_with fail
      go_roundw
      case rel => exact ⟨k + 1, by omega, by go_num, hE'.out.trans (hC.trans hE8)⟩
      case measure => simp [intOf]; omega
    · go_wp2_with fail
      exact hR'.out _ ((hE1.trans hE6).trans hE)

set_option maxRecDepth 100000 in
theorem fnZipSwapped_walk : LawWalk 3 Try.f3 := by
  intro H enc W base args ds ps hA _ hw hval
  rw [Try.params3] at hA hw hval
  obtain ⟨v0, v1, d0, d1, p0, p1, hargs, rfl, rfl, h0, h1⟩ := trodAll_two hA
  obtain ⟨args⟩ := args
  obtain rfl : args = [v0, v1] := by simpa using hargs
  obtain ⟨cs0, rfl, hcs0⟩ := okWide_struct Try.underlying26 (hval 0 26 v0 rfl rfl)
  obtain ⟨cs1, rfl, hcs1⟩ := okWide_struct Try.underlying26 (hval 1 26 v1 rfl rfl)
  obtain ⟨fuel0, h0⟩ := h0
  obtain ⟨fuel1, h1⟩ := h1
  simp only [DataW.weightsEach, List.all_append, Bool.and_eq_true] at hw
  obtain ⟨a, ha⟩ := read_v fuel0 _ _ h0 hw.1
  obtain ⟨b, hb⟩ := read_v fuel1 _ _ h1 hw.2.1
  exact fnZipSwapped_law (cs := cs0.toList) (ds := cs1.toList) ha hb

set_option maxRecDepth 100000 in
theorem fnZipSwapped_lifted (os : Os) (started : os.Started) (H : Type) (enc : TypeId × Value → H) :
    ReturnsInHanded {} Try.checked os 3 .any (Rows.fnZipSwappedSpec.pre6 enc Try.prog Try.f3 Rows.fnZipSwappedRow.domain false) (Rows.fnZipSwappedSpec.post enc Try.prog Try.f3 false true false false) :=
  law_lift (s := Rows.fnZipSwappedSpec) started (by kernel_rfl) Try.func3 rfl rfl
    (by rw [Try.params3]; intro t ht; simp at ht; rcases ht with rfl | rfl <;> exact ⟨by kernel_rfl, of_decide_eq_true (by kernel_rfl)⟩)
    (by rw [Try.params3]; intro ds hd; match ds, hd with | [a, b], _ => rfl)
    (ChangeSpec.witness6 (enc := enc) (C := Try.checked) false ⟨#[], #[.agg #[.int .i64 0, .int .i64 0, .float .f64 0, .string ⟨#[]⟩, .slice none 0 0, .slice none 0 0], .agg #[.int .i64 0, .int .i64 0, .float .f64 0, .string ⟨#[]⟩, .slice none 0 0, .slice none 0 0]], []⟩ 8 (by kernel_rfl) (by kernel_rfl) (by kernel_rfl) (by kernel_rfl))
    fnZipSwapped_walk

theorem FnZipSwapped_holds : Rows.FnZipSwappedSaid :=
  OpenClaim.holds_of_wide 3 Try.f3 rfl rfl rfl rfl rfl rfl rfl ⟨rfl, rfl, rfl, rfl, rfl⟩ rfl rfl rfl rfl rfl (by kernel_rfl) Try.func3 (by kernel_rfl)
    (of_decide_eq_true (by kernel_rfl)) (by unfold Func.isWrapper; first | (rw [if_pos (by decide +kernel)]; kernel_rfl) | (rw [if_neg (by decide +kernel)]; exact ⟨rfl, rfl⟩))
    (fun os started H enc _ => fnZipSwapped_lifted os started H enc)

end Go.Proofs.Ytnndacgokehkpaa
