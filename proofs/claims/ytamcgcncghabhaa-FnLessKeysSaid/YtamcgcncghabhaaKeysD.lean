/- spec.CompareKeys, impl.LessKeys. (printed by gen_keysd.py) -/
import Derived.Test.YtamcgcncghabhaaKeysC
namespace Go.Proofs.Ytamcgcncghabhaa
open Go.RowKit
set_option linter.unusedSimpArgs false

set_option maxRecDepth 100000 in
set_option maxHeartbeats 8000000 in
set_option pp.maxSteps 1000000 in
set_option pp.deepTerms true in
theorem specCompareKeys_c {w : World} {X Y : List Nat} {cs ds : List Value} {a b : EL} (ha : kEl.is w X cs a) (hb : kEl.is w Y ds b) (R : Ending → World → Prop) (hR : Ends R w (.int .i64 (cmpE rV (a.keys.zip a.l) (b.keys.zip b.l)))) :
    Calls Try.prog 17 #[.agg cs.toArray, .agg ds.toArray] w R := by
  obtain ⟨kind, s, keys, l, v, n⟩ := a
  obtain ⟨kind2, s2, keys2, l2, v2, n2⟩ := b
  obtain ⟨vk, vl, vs, rfl, -, -, -, hks, hl, hv⟩ := ha
  obtain ⟨vk2, vl2, vs2, rfl, -, -, -, hks2, hl2, hv2⟩ := hb
  dsimp only at hks hl hv hks2 hl2 hv2 hR ⊢
  obtain ⟨xx, rfl⟩ := hv.shape
  obtain ⟨yy, rfl⟩ := hv2.shape
  have hsm := Lib.hid hks.small
  obtain ⟨o, c, b, off, rfl, -, l3, h4, h5⟩ := hl.ex
  obtain ⟨o2, c2, d, doff, rfl, -, m3, m4, m5⟩ := hl2.ex
  obtain ⟨ko, kc, kb, koff, rfl, -, k3, k4, k5⟩ := hks.ex
  obtain ⟨ko2, kc2, mb, moff, rfl, -, n3, n4, n5⟩ := hks2.ex
  have hP := Lib.hid (show (keys.zip l).length = min keys.length l.length from by simp)
  have hQ := Lib.hid (show (keys2.zip l2).length = min keys2.length l2.length from by simp)
  have hR' := Lib.hid hR
  have h5' := Lib.hid h5
  have m5' := Lib.hid m5
  have h4' := Lib.hid h4
  have m4' := Lib.hid m4
  have k5' := Lib.hid k5
  have n5' := Lib.hid n5
  have k4' := Lib.hid k4
  have n4' := Lib.hid n4
  clear hR hl hl2 hks hks2 hv hv2 h4 h5 m4 m5 k4 k5 n4 n5
  simp only [Cells6.list, List.cons_append, List.nil_append]
  go_enter Try.func17, Try.ntmps17
  go_wp2_with fail
  go_loopw [5] (fun i wr => ∃ q : Nat, q ≤ keys.length ∧ q ≤ keys2.length ∧ q ≤ l.length ∧ q ≤ l2.length ∧ i = .int .i64 q ∧ Ext w wr ∧ wr.cell? ⟨w.heap.size, 2, none⟩ = some (.slice ko keys.length kc) ∧ wr.cell? ⟨w.heap.size, 3, none⟩ = some (.slice o l.length c) ∧ wr.cell? ⟨w.heap.size + 1, 2, none⟩ = some (.slice ko2 keys2.length kc2) ∧ wr.cell? ⟨w.heap.size + 1, 3, none⟩ = some (.slice o2 l2.length c2) ∧ Hid (cmpE rV (keys.zip l) (keys2.zip l2) = cmpE rV ((keys.zip l).drop q) ((keys2.zip l2).drop q))) (fun i _ => keys.length - (intOf i).toNat)
  case atStart =>
    refine abs2 (G := fun wr => ∃ q : Nat, q ≤ keys.length ∧ q ≤ keys2.length ∧ q ≤ l.length ∧ q ≤ l2.length ∧ Value.int .i64 0 = .int .i64 q ∧ Ext w wr ∧ wr.cell? ⟨w.heap.size, 2, none⟩ = some (.slice ko keys.length kc) ∧ wr.cell? ⟨w.heap.size, 3, none⟩ = some (.slice o l.length c) ∧ wr.cell? ⟨w.heap.size + 1, 2, none⟩ = some (.slice ko2 keys2.length kc2) ∧ wr.cell? ⟨w.heap.size + 1, 3, none⟩ = some (.slice o2 l2.length c2) ∧ Hid (cmpE rV (keys.zip l) (keys2.zip l2) = cmpE rV ((keys.zip l).drop q) ((keys2.zip l2).drop q))) ?_
    intro w1 hE1 hb1 hb2 hs1
    exact ⟨0, Nat.zero_le _, Nat.zero_le _, Nat.zero_le _, Nat.zero_le _, rfl, hE1, cells_of hb1 2, cells_of hb1 3, cells_of hb2 2, cells_of hb2 3, Lib.hid (by simp)⟩
  case round =>
    obtain ⟨q, hq1, hq2, hq3, hq4, rfl, hE, a4, a5, b4, b5, hall⟩ := hrel
    by_cases h1 : q < keys.length
    · by_cases h2 : q < l.length
      · by_cases h3 : q < keys2.length
        · by_cases h4 : q < l2.length
          · have hp1 : q < (keys.zip l).length := by rw [hP.out]; omega
            have hp2 : q < (keys2.zip l2).length := by rw [hQ.out]; omega
            have hat := Lib.hid (cmpE_at hall.out hp1 hp2)
            have hz1 := Lib.hid (show (keys.zip l)[q] = (keys[q], l[q]) from by simp)
            have hz2 := Lib.hid (show (keys2.zip l2)[q] = (keys2[q], l2[q]) from by simp)
            obtain ⟨rfl, -⟩ := h4'.out (by omega)
            obtain ⟨rfl, -⟩ := m4'.out (by omega)
            obtain ⟨rfl, -⟩ := k4'.out (by omega)
            obtain ⟨rfl, -⟩ := n4'.out (by omega)
            obtain ⟨x, c0, c1, c2, c3, c4, c5, hx⟩ := h5'.out q h2
            obtain ⟨y, d0, d1, d2, d3, d4, d5, hy⟩ := m5'.out q h4
            have q0 := hE.keep (k5'.out q h1).1
            have q1 := hE.keep (n5'.out q h3).1
            have hk1 : keys.getD q ByteArray.empty = keys[q] := by simp [h1]
            have hk2 : keys2.getD q ByteArray.empty = keys2[q] := by simp [h3]
            rw [hk1] at q0
            rw [hk2] at q1
            replace c0 := hE.keep c0; replace c1 := hE.keep c1; replace c2 := hE.keep c2; replace c3 := hE.keep c3; replace c4 := hE.keep c4; replace c5 := hE.keep c5; replace d0 := hE.keep d0; replace d1 := hE.keep d1; replace d2 := hE.keep d2; replace d3 := hE.keep d3; replace d4 := hE.keep d4; replace d5 := hE.keep d5
            have hi1 : (q : Int) < (keys.length : Int) := by omega
            have hi2 : (q : Int) < (keys2.length : Int) := by omega
            have hi3 : (q : Int) < (l.length : Int) := by omega
            have hi4 : (q : Int) < (l2.length : Int) := by omega
            have hkm : (q : Int) + 1 ≤ 9223372036854775807 := by omega
            have hx' := Lib.hid hx
            have hy' := Lib.hid hy
            clear hx hy hk1 hk2
            go_wp2_with fail
            refine wp_region_script [0, 1, 2, 3, 4, 5, 6, 7, 8, 9, 11] [] (fun w' => w' = wr.drew) [(.read, 0), (.read, 1), (.read, 2), (.read, 3), (.read, 4), (.read, 5), (.read, 6), (.read, 7), (.read, 8), (.read, 9), (.one, 10), (.pure, 11)] (by kernel_rfl) (by kernel_rfl) ?_
            iterate 10 (first | (apply scr_r; (· rfl); (· (first | rfl | (simp [Region.wanted, yielded, go_sem]; done) | (simp [Region.wanted, yielded, go_sem, *]; done))); (· (go_simp; try rfl)); (· (simp [go_sem]; try rfl))) | (apply scr_r0; (· rfl); (· (first | rfl | (simp [Region.wanted, yielded, go_sem]; done) | (simp [Region.wanted, yielded, go_sem, *]; done))); (· (simp [go_sem]; try rfl))))
            refine scr_one rfl rfl (fun K hK => ?_)
            go_simp
            refine specCompareStrings_c (hsm.out _ (List.getElem_mem h1)) _ ?_
            obtain ⟨z, hz⟩ : ∃ z, cmpS keys[q] keys2[q] = z := ⟨_, rfl⟩
            rw [hz]
            intro w3 hE3
            refine hK _ _ (fun h => by simp at h) ?_
            clear hK
            have hz' := Lib.hid hz
            have hE3' := (Ext.refl wr).drew.trans hE3
            clear hz hE3 q0 q1
            (apply scr_pure'; (· rfl); (· rfl); (· (intro w'; go_simp; try rfl)); (· (simp [go_sem]; try rfl)))
            refine scr_end ?_
            simp only [Exit.then]
            replace a4 := hE3'.keep a4
            replace a5 := hE3'.keep a5
            replace b4 := hE3'.keep b4
            replace b5 := hE3'.keep b5
            have hnx := hat.out
            rw [hz1.out, hz2.out] at hnx
            dsimp only at hnx
            rw [hz'.out] at hnx
            by_cases hv0 : z = 0
            · have hvb : (z != 0) = false := by simpa using hv0
              replace c0 := hE3'.keep c0; replace c1 := hE3'.keep c1; replace c2 := hE3'.keep c2; replace c3 := hE3'.keep c3; replace c4 := hE3'.keep c4; replace c5 := hE3'.keep c5; replace d0 := hE3'.keep d0; replace d1 := hE3'.keep d1; replace d2 := hE3'.keep d2; replace d3 := hE3'.keep d3; replace d4 := hE3'.keep d4; replace d5 := hE3'.keep d5
              rw [if_neg (by simp [hv0])] at hnx
              have hnx' := Lib.hid hnx
              clear hv0 hnx hat
              go_wp2_with fail
              refine wp_region_script [0, 1, 2, 3, 4, 5, 6, 7, 8, 9, 11] [] (fun w' => w' = w3.drew) [(.read, 0), (.read, 1), (.read, 2), (.read, 3), (.read, 4), (.read, 5), (.read, 6), (.read, 7), (.read, 8), (.read, 9), (.one, 10), (.pure, 11)] (by kernel_rfl) (by kernel_rfl) ?_
              iterate 10 (first | (apply scr_r; (· rfl); (· (first | rfl | (simp [Region.wanted, yielded, go_sem]; done) | (simp [Region.wanted, yielded, go_sem, *]; done))); (· (go_simp; try rfl)); (· (simp [go_sem]; try rfl))) | (apply scr_r0; (· rfl); (· (first | rfl | (simp [Region.wanted, yielded, go_sem]; done) | (simp [Region.wanted, yielded, go_sem, *]; done))); (· (simp [go_sem]; try rfl))))
              refine scr_one rfl rfl (fun K hK => ?_)
              go_simp
              refine specCompareValues_c (cs := x.list) (ds := y.list) (hx'.out.mv ((hE.trans hE3').drew.mv _)) (hy'.out.mv ((hE.trans hE3').drew.mv _)) _ ?_
              obtain ⟨u, hu⟩ : ∃ u, rV l[q] l2[q] = u := ⟨_, rfl⟩
              rw [show V.cmpP (l[q]).clean (l2[q]).clean = u from hu]
              intro w4 hE4
              refine hK _ _ (fun h => by simp at h) ?_
              clear hK c0 c1 c2 c3 c4 c5 d0 d1 d2 d3 d4 d5
              have hu' := Lib.hid hu
              have hE4' := (Ext.refl w3).drew.trans hE4
              clear hu hE4
              (apply scr_pure'; (· rfl); (· rfl); (· (intro w'; go_simp; try rfl)); (· (simp [go_sem]; try rfl)))
              refine scr_end ?_
              simp only [Exit.then]
              have hny := hnx'.out
              rw [hu'.out] at hny
              by_cases hu0 : u = 0
              · have hub : (u != 0) = false := by simpa using hu0
                rw [if_neg (by simp [hu0])] at hny
                have hny' := Lib.hid hny
                clear hu0 hny
                go_wp2_with fail
                go_roundw
                case rel => exact ⟨q + 1, by omega, by omega, by omega, by omega, by go_num, (hE.trans hE3').trans hE4', hE4'.keep a4, hE4'.keep a5, hE4'.keep b4, hE4'.keep b5, hny'⟩
                case measure => simp [intOf]; omega
              · have hub : (u != 0) = true := by simpa using hu0
                rw [if_pos hu0] at hny
                have hny' := Lib.hid hny
                clear hu0 hny
                go_wp2_with fail
                exact hR'.out.int hny'.out _ ((hE.trans hE3').trans hE4')
            · have hvb : (z != 0) = true := by simpa using hv0
              rw [if_pos hv0] at hnx
              have hnx' := Lib.hid hnx
              clear hv0 hnx c0 c1 c2 c3 c4 c5 d0 d1 d2 d3 d4 d5
              go_wp2_with fail
              exact hR'.out.int hnx'.out _ (hE.trans hE3')
          · have hend := Lib.hid (cmpE_end hall.out (by rw [hP.out]; omega) (by rw [hQ.out]; omega) (by rw [hP.out, hQ.out]; omega))
            have hi1 : (q : Int) < (keys.length : Int) := by omega
            have hi2 : (q : Int) < (l.length : Int) := by omega
            have hi3 : (q : Int) < (keys2.length : Int) := by omega
            have hi4 : ¬ (q : Int) < (l2.length : Int) := by omega
            go_wp2_with fail
            refine specCompareInts_c _ ?_
            intro w3 hE3
            dsimp only
            go_wp2_with fail
            exact hR'.out.int (by rw [hend.out, hP.out, hQ.out]; congr 1 <;> omega) _ (hE.trans hE3)
        · have hend := Lib.hid (cmpE_end hall.out (by rw [hP.out]; omega) (by rw [hQ.out]; omega) (by rw [hP.out, hQ.out]; omega))
          have hi1 : (q : Int) < (keys.length : Int) := by omega
          have hi2 : (q : Int) < (l.length : Int) := by omega
          have hi3 : ¬ (q : Int) < (keys2.length : Int) := by omega
          go_wp2_with fail
          refine specCompareInts_c _ ?_
          intro w3 hE3
          dsimp only
          go_wp2_with fail
          exact hR'.out.int (by rw [hend.out, hP.out, hQ.out]; congr 1 <;> omega) _ (hE.trans hE3)
      · have hend := Lib.hid (cmpE_end hall.out (by rw [hP.out]; omega) (by rw [hQ.out]; omega) (by rw [hP.out, hQ.out]; omega))
        have hi1 : (q : Int) < (keys.length : Int) := by omega
        have hi2 : ¬ (q : Int) < (l.length : Int) := by omega
        go_wp2_with fail
        refine specCompareInts_c _ ?_
        intro w3 hE3
        dsimp only
        go_wp2_with fail
        exact hR'.out.int (by rw [hend.out, hP.out, hQ.out]; congr 1 <;> omega) _ (hE.trans hE3)
    · have hend := Lib.hid (cmpE_end hall.out (by rw [hP.out]; omega) (by rw [hQ.out]; omega) (by rw [hP.out, hQ.out]; omega))
      have hi1 : ¬ (q : Int) < (keys.length : Int) := by omega
      go_wp2_with fail
      refine specCompareInts_c _ ?_
      intro w3 hE3
      dsimp only
      go_wp2_with fail
      exact hR'.out.int (by rw [hend.out, hP.out, hQ.out]; congr 1 <;> omega) _ (hE.trans hE3)

set_option maxRecDepth 100000 in
set_option maxHeartbeats 2000000 in
set_option pp.maxSteps 1000000 in
set_option pp.deepTerms true in
theorem implLessKeys_c {w : World} {X Y : List Nat} {cs ds : List Value} {a b : EL} (ha : kEl.is w X cs a) (hb : kEl.is w Y ds b) (R : Ending → World → Prop) (hR : Ends R w (.bool (cmpE rV (a.keys.zip a.l) (b.keys.zip b.l) == -1))) :
    Calls Try.prog 18 #[.agg cs.toArray, .agg ds.toArray] w R := by
  have ha' := Lib.hid (kEl.mv ha ((Mv.refl _ _).less (Z := []) (by simp)))
  have hb' := Lib.hid (kEl.mv hb ((Mv.refl _ _).less (Z := []) (by simp)))
  obtain ⟨vk, vl, vs, rfl, -, -, -, hks, hl, hv⟩ := ha
  obtain ⟨vk2, vl2, vs2, rfl, -, -, -, hks2, hl2, hv2⟩ := hb
  obtain ⟨x, rfl⟩ := hv.shape
  obtain ⟨y, rfl⟩ := hv2.shape
  obtain ⟨o, c, -, -, rfl, -⟩ := hl.ex
  obtain ⟨o2, c2, -, -, rfl, -⟩ := hl2.ex
  obtain ⟨ko, kc, -, -, rfl, -⟩ := hks.ex
  obtain ⟨ko2, kc2, -, -, rfl, -⟩ := hks2.ex
  obtain ⟨z, hz⟩ : ∃ z, cmpE rV (a.keys.zip a.l) (b.keys.zip b.l) = z := ⟨_, rfl⟩
  rw [hz] at hR
  have hz' := Lib.hid hz
  have hR' := Lib.hid hR
  clear hR hks hl hv hks2 hl2 hv2 hz
  simp only [Cells6.list, List.cons_append, List.nil_append] at ha' hb' ⊢
  go_enter Try.func18, Try.ntmps18
  go_wp2_with fail
  refine abs2 (G := Code.wp _ _ _ _) ?_
  intro w1 hE1 hb1 hb2 hs1
  have e0 : w1.cell? ⟨w.heap.size, 0, none⟩ = some (.int .i64 a.kind) := cells_of hb1 0; have e1 : w1.cell? ⟨w.heap.size, 1, none⟩ = some (.string a.s) := cells_of hb1 1; have e2 : w1.cell? ⟨w.heap.size, 2, none⟩ = some (.slice ko a.keys.length kc) := cells_of hb1 2; have e3 : w1.cell? ⟨w.heap.size, 3, none⟩ = some (.slice o a.l.length c) := cells_of hb1 3; have e4 : w1.cell? ⟨w.heap.size, 4, none⟩ = some (.int .i64 x.kind) := cells_of hb1 4; have e5 : w1.cell? ⟨w.heap.size, 5, none⟩ = some (.int .i64 x.n) := cells_of hb1 5; have e6 : w1.cell? ⟨w.heap.size, 6, none⟩ = some (.float .f64 x.f) := cells_of hb1 6; have e7 : w1.cell? ⟨w.heap.size, 7, none⟩ = some (.string x.s) := cells_of hb1 7; have e8 : w1.cell? ⟨w.heap.size, 8, none⟩ = some (.slice x.ko x.kn x.kc) := cells_of hb1 8; have e9 : w1.cell? ⟨w.heap.size, 9, none⟩ = some (.slice x.o x.m x.c) := cells_of hb1 9; have e10 : w1.cell? ⟨w.heap.size, 10, none⟩ = some (.int .i64 a.n) := cells_of hb1 10
  have f0 : w1.cell? ⟨w.heap.size + 1, 0, none⟩ = some (.int .i64 b.kind) := cells_of hb2 0; have f1 : w1.cell? ⟨w.heap.size + 1, 1, none⟩ = some (.string b.s) := cells_of hb2 1; have f2 : w1.cell? ⟨w.heap.size + 1, 2, none⟩ = some (.slice ko2 b.keys.length kc2) := cells_of hb2 2; have f3 : w1.cell? ⟨w.heap.size + 1, 3, none⟩ = some (.slice o2 b.l.length c2) := cells_of hb2 3; have f4 : w1.cell? ⟨w.heap.size + 1, 4, none⟩ = some (.int .i64 y.kind) := cells_of hb2 4; have f5 : w1.cell? ⟨w.heap.size + 1, 5, none⟩ = some (.int .i64 y.n) := cells_of hb2 5; have f6 : w1.cell? ⟨w.heap.size + 1, 6, none⟩ = some (.float .f64 y.f) := cells_of hb2 6; have f7 : w1.cell? ⟨w.heap.size + 1, 7, none⟩ = some (.string y.s) := cells_of hb2 7; have f8 : w1.cell? ⟨w.heap.size + 1, 8, none⟩ = some (.slice y.ko y.kn y.kc) := cells_of hb2 8; have f9 : w1.cell? ⟨w.heap.size + 1, 9, none⟩ = some (.slice y.o y.m y.c) := cells_of hb2 9; have f10 : w1.cell? ⟨w.heap.size + 1, 10, none⟩ = some (.int .i64 b.n) := cells_of hb2 10
  clear hb1 hb2 hs1
  have hC : Ext w1 w1.drew := (Ext.refl _).drew
  refine wp_region_script [0, 2, 5] [1] (fun w' => Ext w1 w') [(.read, 0), (.read, 2), (.one, 1), (.one, 3), (.one, 4), (.pure, 5)] (by kernel_rfl) (by kernel_rfl) ?_
  (apply scr_read'; (· rfl); (· rfl); (· first | exact hC | exact (Ext.refl _).drew); (· (intro w' hw'; have e0_ := hw'.keep e0; have e1_ := hw'.keep e1; have e2_ := hw'.keep e2; have e3_ := hw'.keep e3; have e4_ := hw'.keep e4; have e5_ := hw'.keep e5; have e6_ := hw'.keep e6; have e7_ := hw'.keep e7; have e8_ := hw'.keep e8; have e9_ := hw'.keep e9; have e10_ := hw'.keep e10; go_simp; try rfl)); (· (simp [go_sem]; try rfl)))
  (apply scr_read'; (· rfl); (· rfl); (· first | exact hC | exact (Ext.refl _).drew); (· (intro w' hw'; have f0_ := hw'.keep f0; have f1_ := hw'.keep f1; have f2_ := hw'.keep f2; have f3_ := hw'.keep f3; have f4_ := hw'.keep f4; have f5_ := hw'.keep f5; have f6_ := hw'.keep f6; have f7_ := hw'.keep f7; have f8_ := hw'.keep f8; have f9_ := hw'.keep f9; have f10_ := hw'.keep f10; go_simp; try rfl)); (· (simp [go_sem]; try rfl)))
  refine scr_one rfl rfl (fun K hK => ?_)
  go_simp
  refine toKeys_c (X := []) (kEl.mv ha'.out ((hE1.trans hC).mv _)) (Old.nil _) _ ?_
  intro w2 y1 hE2 h2
  have hone2 := h2.one
  have h2' := Lib.hid h2
  clear h2
  refine hK _ _ (fun _ => hC.trans hE2) ?_
  clear hK
  refine scr_one rfl rfl (fun K hK => ?_)
  go_simp
  refine toKeys_c (X := []) (kEl.mv hb'.out ((hE1.trans (hC.trans hE2)).mv _)) (Old.nil _) _ ?_
  intro w3 y2 hE3 h3
  have h3' := Lib.hid h3
  clear h3
  refine hK _ _ (fun h => by simp at h) ?_
  clear hK
  refine scr_one rfl rfl (fun K hK => ?_)
  go_simp
  refine fieldListLess_c (h2'.out.mv (hE3.mv _) (by simp [kFd])) h3'.out _ ?_
  rw [cmpE_plain, hz'.out]
  intro w4 hE4
  refine hK _ _ (fun h => by simp at h) ?_
  clear hK
  (apply scr_pure'; (· rfl); (· rfl); (· (intro w'; go_simp; try rfl)); (· (simp [go_sem]; try rfl)))
  refine scr_end ?_
  simp only [Exit.then]
  go_wp2_with fail
  exact hR'.out _ (hE1.trans (hC.trans (hE2.trans (hE3.trans hE4))))
end Go.Proofs.Ytamcgcncghabhaa
