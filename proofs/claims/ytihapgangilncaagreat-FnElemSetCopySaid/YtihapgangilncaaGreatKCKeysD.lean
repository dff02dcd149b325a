/- spec.CompareKeys, impl.LessKeys. (printed by gen_keysd.py) -/
import Derived.Test.YtihapgangilncaaGreatKCMapQ
namespace Go.Proofs.YtihapgangilncaaGreat
open Go.RowKit
set_option linter.unusedSimpArgs false

set_option maxRecDepth 100000 in
set_option maxHeartbeats 8000000 in
set_option pp.maxSteps 1000000 in
set_option pp.deepTerms true in
theorem specCompareKeys_c {w : World} {X Y : List Nat} {cs ds : List Value} {a b : EL} (ha : kEl.is w X cs a) (hb : kEl.is w Y ds b) (R : Ending → World → Prop) (hR : Ends R w (.int .i64 (cmpE rV (a.keys.zip a.l) (b.keys.zip b.l)))) :
    Calls Tryz.prog 107 #[.agg cs.toArray, .agg ds.toArray] w R := by
  obtain ⟨kind, s, keys, l, v, n⟩ := a
  obtain ⟨kind2, s2, keys2, l2, v2, n2⟩ := b
  obtain ⟨vk, vl, vs, rfl, -, -, -, hks, hl, hv⟩ := ha
  obtain ⟨vk2, vl2, vs2, rfl, -, -, -, hks2, hl2, hv2⟩ := hb
  dsimp only at hks hl hv hks2 hl2 hv2 hR ⊢
  obtain ⟨xx, rfl⟩ := hv.shape
  obtain ⟨yy, rfl⟩ := hv2.shape
  have hsm := Lib.hid hks.small
  obtain ⟨o, c, b, off, rfl, -, l3, h4, h5⟩ := hl.ex
  obtain ⟨o2, c2, d, doff, rfl, -, m3, m4, m5⟩ := hl2.ex
  obtain ⟨ko, kc, kb, koff, rfl, -, k3, k4, k5⟩ := hks.ex
  obtain ⟨ko2, kc2, mb, moff, rfl, -, n3, n4, n5⟩ := hks2.ex
  have hP := Lib.hid (show (keys.zip l).length = min keys.length l.length from by simp)
  have hQ := Lib.hid (show (keys2.zip l2).length = min keys2.length l2.length from by simp)
  have hR' := Lib.hid hR
  have h5' := Lib.hid h5
  have m5' := Lib.hid m5
  have h4' := Lib.hid h4
  have m4' := Lib.hid m4
  have k5' := Lib.hid k5
  have n5' := Lib.hid n5
  have k4' := Lib.hid k4
  have n4' := Lib.hid n4
  clear hR hl hl2 hks hks2 hv hv2 h4 h5 m4 m5 k4 k5 n4 n5
  simp only [Cells6.list, List.cons_append, List.nil_append]
  go_enter Tryz.func107, Tryz.ntmps107
  go_wp2_with fail
  go_loopw [5] (fun i wr => ∃ q : Nat, q ≤ keys.length ∧ q ≤ keys2.length ∧ q ≤ l.length ∧ q ≤ l2.length ∧ i = .int .i64 q ∧ Ext w wr ∧ wr.cell? ⟨w.heap.size, 2, none⟩ = some (.slice ko keys.length kc) ∧ wr.cell? ⟨w.heap.size, 3, none⟩ = some (.slice o l.length c) ∧ wr.cell? ⟨w.heap.size + 1, 2, none⟩ = some (.slice ko2 keys2.length kc2) ∧ wr.cell? ⟨w.heap.size + 1, 3, none⟩ = some (.slice o2 l2.length c2) ∧ Hid (cmpE rV (keys.zip l) (keys2.zip l2) = cmpE rV ((keys.zip l).drop q) ((keys2.zip l2).drop q))) (fun i _ => keys.length - (intOf i).toNat)
  case atStart =>
    refine abs2 (G := fun wr => ∃ q : Nat, q ≤ keys.length ∧ q ≤ keys2.length ∧ q ≤ l.length ∧ q ≤ l2.length ∧ Value.int .i64 0 = .int .i64 q ∧ Ext w wr ∧ wr.cell? ⟨w.heap.size, 2, none⟩ = some (.slice ko keys.length kc) ∧ wr.cell? ⟨w.heap.size, 3, none⟩ = some (.slice o l.length c) ∧ wr.cell? ⟨w.heap.size + 1, 2, none⟩ = some (.slice ko2 keys2.length kc2) ∧ wr.cell? ⟨w.heap.size + 1, 3, none⟩ = some (.slice o2 l2.length c2) ∧ Hid (cmpE rV (keys.zip l) (keys2.zip l2) = cmpE rV ((keys.zip l).drop q) ((keys2.zip l2).drop q))) ?_
    intro w1 hE1 hb1 hb2 hs1
    exact ⟨0, Nat.zero_le _, Nat.zero_le _, Nat.zero_le _, Nat.zero_le _, rfl, hE1, cells_of hb1 2, cells_of hb1 3, cells_of hb2 2, cells_of hb2 3, Lib.hid (by simp)⟩
  case round =>
    obtain ⟨q, hq1, hq2, hq3, hq4, rfl, hE, a4, a5, b4, b5, hall⟩ := hrel
    by_cases h1 : q < keys.length
    · by_cases h2 : q < l.length
      · by_cases h3 : q < keys2.length
        · by_cases h4 : q < l2.length
          · have hp1 : q < (keys.zip l).length := by rw [hP.out]; omega
            have hp2 : q < (keys2.zip l2).length := by rw [hQ.out]; omega
            have hat := Lib.hid (cmpE_at hall.out hp1 hp2)
            have hz1 := Lib.hid (show (keys.zip l)[q] = (keys[q], l[q]) from by simp)
            have hz2 := Lib.hid (show (keys2.zip l2)[q] = (keys2[q], l2[q]) from by simp)
            obtain ⟨rfl, -⟩ := h4'.out (by omega)
            obtain ⟨rfl, -⟩ := m4'.out (by omega)
            obtain ⟨rfl, -⟩ := k4'.out (by omega)
            obtain ⟨rfl, -⟩ := n4'.out (by omega)
            obtain ⟨x, c0, c1, c2, c3, c4, c5, hx⟩ := h5'.out q h2
            obtain ⟨y, d0, d1, d2, d3, d4, d5, hy⟩ := m5'.out q h4
            have q0 := hE.keep (k5'.out q h1).1
            have q1 := hE.keep (n5'.out q h3).1
            have hk1 : keys.getD q ByteArray.empty = keys[q] := by simp [h1]
            have hk2 : keys2.getD q ByteArray.empty = keys2[q] := by simp [h3]
            rw [hk1] at q0
            rw [hk2] at q1
            replace c0 := hE.keep c0; replace c1 := hE.keep c1; replace c2 := hE.keep c2; replace c3 := hE.keep c3; replace c4 := hE.keep c4; replace c5 := hE.keep c5; replace d0 := hE.keep d0; replace d1 := hE.keep d1; replace d2 := hE.keep d2; replace d3 := hE.keep d3; replace d4 := hE.keep d4; replace d5 := hE.keep d5
            have hi1 : (q : Int) < (keys.length : Int) := by omega
            have hi2 : (q : Int) < (keys2.length : Int) := by omega
            have hi3 : (q : Int) < (l.length : Int) := by omega
            have hi4 : (q : Int) < (l2.length : Int) := by omega
            have hkm : (q : Int) + 1 ≤ 9223372036854775807 := by omega
            have hx' := Lib.hid hx
            have hy' := Lib.hid hy
            clear hx hy hk1 hk2
            go_wp2_with fail
            refine wp_region_script [0, 1, 2, 3, 4, 5, 6, 7, 8, 9, 11] [] (fun w' => w' = wr.drew) [(.read, 0), (.read, 1), (.read, 2), (.read, 3), (.read, 4), (.read, 5), (.read, 6), (.read, 7), (.read, 8), (.read, 9), (.one, 10), (.pure, 11)] (by kernel_rfl) (by kernel_rfl) ?_
            iterate 10 (first | (apply scr_r; (· rfl); (· (first | rfl | (simp [Region.wanted, yielded, go_sem]; done) | (simp [Region.wanted, yielded, go_sem, *]; done))); (· (go_simp; try rfl)); (· (simp [go_sem]; try rfl))) | (apply scr_r0; (· rfl); (· (first | rfl | (simp [Region.wanted, yielded, go_sem]; done) | (simp [Region.wanted, yielded, go_sem, *]; done))); (· (simp [go_sem]; try rfl))))
            refine scr_one rfl rfl (fun K hK => ?_)
            go_simp
            refine specCompareStrings_c (hsm.out _ (List.getElem_mem h1)) _ ?_
            obtain ⟨z, hz⟩ : ∃ z, cmpS keys[q] keys2[q] = z := ⟨_, rfl⟩
            rw [hz]
            intro w3 hE3
            refine hK _ _ (fun h => by simp at h) ?_
            clear hK
            have hz' := Lib.hid hz
            have hE3' := (Ext.refl wr).drew.trans hE3
            clear hz hE3 q0 q1
            (apply scr_pure'; (· rfl); (· rfl); (· (intro w'; go_simp; try rfl)); (· (simp [go_sem]; try rfl)))
            refine scr_end ?_
            simp only [Exit.then]
            replace a4 := hE3'.keep a4
            replace a5 := hE3'.keep a5
            replace b4 := hE3'.keep b4
            replace b5 := hE3'.keep b5
            have hnx := hat.out
            rw [hz1.out, hz2.out] at hnx
            dsimp only at hnx
            rw [hz'.out] at hnx
            by_cases hv0 : z = 0
            · have hvb : (z != 0) = false := by simpa using hv0
              replace c0 := hE3'.keep c0; replace c1 := hE3'.keep c1; replace c2 := hE3'.keep c2; replace c3 := hE3'.keep c3; replace c4 := hE3'.keep c4; replace c5 := hE3'.keep c5; replace d0 := hE3'.keep d0; replace d1 := hE3'.keep d1; replace d2 := hE3'.keep d2; replace d3 := hE3'.keep d3; replace d4 := hE3'.keep d4; replace d5 := hE3'.keep d5
              rw [if_neg (by simp [hv0])] at hnx
              have hnx' := Lib.hid hnx
              clear hv0 hnx hat
              go_wp2_with fail
              refine wp_region_script [0, 1, 2, 3, 4, 5, 6, 7, 8, 9, 11] [] (fun w' => w' = w3.drew) [(.read, 0), (.read, 1), (.read, 2), (.read, 3), (.read, 4), (.read, 5), (.read, 6), (.read, 7), (.read, 8), (.read, 9), (.one, 10), (.pure, 11)] (by kernel_rfl) (by kernel_rfl) ?_
              iterate 10 (first | (apply scr_r; (· rfl); (· (first | rfl | (simp [Region.wanted, yielded, go_sem]; done) | (simp [Region.wanted, yielded, go_sem, *]; done))); (· (go_simp; try rfl)); (· (simp [go_sem]; try rfl))) | (apply scr_r0; (· rfl); (· (first | rfl | (simp [Region.wanted, yielded, go_sem]; done) | (simp [Region.wanted, yielded, go_sem, *]; done))); (· (simp [go_sem]; try rfl))))
              refine scr_one rfl rfl (fun K hK => ?_)
              go_simp
              refine specCompareValues_c (cs := x.list) (ds := y.list) (hx'.out.mv ((hE.trans hE3').drew.mv _)) (hy'.out.mv ((hE.trans hE3').drew.mv _)) _ ?_
              obtain ⟨u, hu⟩ : ∃ u, rV l[q] l2[q] = u := ⟨_, rfl⟩
              rw [show V.cmpP (l[q]).clean (l2[q]).clean = u from hu]
              intro w4 hE4
              refine hK _ _ (fun h => by simp at h) ?_
              clear hK c0 c1 c2 c3 c4 c5 d0 d1 d2 d3 d4 d5
              have hu' := Lib.hid hu
              have hE4' := (Ext.refl w3).drew.trans hE4
              clear hu hE4
              (apply scr_pure'; (· rfl); (· rfl); (· (intro w'; go_simp; try rfl)); (· (simp [go_sem]; try rfl)))
              refine scr_end ?_
              simp only [Exit.then]
              have hny := hnx'.out
              rw [hu'.out] at hny
              by_cases hu0 : u = 0
              · have hub : (u != 0) = false := by simpa using hu0
                rw [if_neg (by simp [hu0])] at hny
                have hny' := Lib.hid hny
                clear hu0 hny
                go_wp2_with fail
                go_roundw
                case rel => exact ⟨q + 1, by omega, by omega, by omega, by omega, by go_num, (hE.trans hE3').trans hE4', hE4'.keep a4, hE4'.keep a5, hE4'.keep b4, hE4'.keep b5, hny'⟩
                case measure => simp [intOf]; omega
              · have hub : (u != 0) = true := by simpa using hu0
                rw [if_pos hu0] at hny
                have hny' := Lib.hid hny
                clear hu0 hny
                go_wp2_with fail
                exact hR'.out.int hny'.out _ ((hE.trans hE3').trans hE4')
            · have hvb : (z != 0) = true := by simpa using hv0
              rw [if_pos hv0] at hnx
              have hnx' := Lib.hid hnx
              clear hv0 hnx c0 c1 c2 c3 c4 c5 d0 d1 d2 d3 d4 d5
              go_wp2_with fail
              exact hR'.out.int hnx'.out _ (hE.trans hE3')
          · have hend := Lib.hid (cmpE_end hall.out (by rw [hP.out]; omega) (by rw [hQ.out]; omega) (by rw [hP.out, hQ.out]; omega))
            have hi1 : (q : Int) < (keys.length : Int) := by omega
            have hi2 : (q : Int) < (l.length : Int) := by omega
            have hi3 : (q : Int) < (keys2.length : Int) := by omega
            have hi4 : ¬ (q : Int) < (l2.length : Int) := by omega
            go_wp2_with fail
            refine specCompareInts_c _ ?_
            intro w3 hE3
            dsimp only
            go_wp2_with fail
            exact hR'.out.int (by rw [hend.out, hP.out, hQ.out]; congr 1 <;> omega) _ (hE.trans hE3)
        · have hend := Lib.hid (cmpE_end hall.out (by rw [hP.out]; omega) (by rw [hQ.out]; omega) (by rw [hP.out, hQ.out]; omega))
          have hi1 : (q : Int) < (keys.length : Int) := by omega
          have hi2 : (q : Int) < (l.length : Int) := by omega
          have hi3 : ¬ (q : Int) < (keys2.length : Int) := by omega
          go_wp2_with fail
          refine specCompareInts_c _ ?_
          intro w3 hE3
          dsimp only
          go_wp2_with fail
          exact hR'.out.int (by rw [hend.out, hP.out, hQ.out]; congr 1 <;> omega) _ (hE.trans hE3)
      · have hend := Lib.hid (cmpE_end hall.out (by rw [hP.out]; omega) (by rw [hQ.out]; omega) (by rw [hP.out, hQ.out]; omega))
        have hi1 : (q : Int) < (keys.length : Int) := by omega
        have hi2 : ¬ (q : Int) < (l.length : Int) := by omega
        go_wp2_with fail
        refine specCompareInts_c _ ?_
        intro w3 hE3
        dsimp only
        go_wp2_with fail
        exact hR'.out.int (by rw [hend.out, hP.out, hQ.out]; congr 1 <;> omega) _ (hE.trans hE3)
    · have hend := Lib.hid (cmpE_end hall.out (by rw [hP.out]; omega) (by rw [hQ.out]; omega) (by rw [hP.out, hQ.out]; omega))
      have hi1 : ¬ (q : Int) < (keys.length : Int) := by omega
      go_wp2_with fail
      refine specCompareInts_c _ ?_
      intro w3 hE3
      dsimp only
      go_wp2_with fail
      exact hR'.out.int (by rw [hend.out, hP.out, hQ.out]; congr 1 <;> omega) _ (hE.trans hE3)

end Go.Proofs.YtihapgangilncaaGreat
