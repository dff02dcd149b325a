/- laws.atomsAlike: what it computes, by the depth of the types. -/
import Derived.Test.YtnndacgokehkpaaAlikeA
import Derived.Test.YtnndacgokehkpaaGrd
namespace Go.Proofs.Ytnndacgokehkpaa
open Go.RowKit

set_option maxRecDepth 100000 in
set_option maxHeartbeats 16000000 in
set_option pp.maxSteps 1000000 in
set_option pp.deepTerms true in
theorem atoms_step {sf d : Nat} {sv : V → V → Bool} (hf : SameFn sf sv) (ih : AtomsC sf sv d) : AtomsC sf sv (d + 1) := by
  intro w cs ds a b ha hb R hR
  obtain ⟨s, ls, ms⟩ := a
  obtain ⟨t, ks, ns⟩ := b
  obtain ⟨vl, vm, rfl, -, hls, hms⟩ := ha
  obtain ⟨ul, um, rfl, -, hks, hns⟩ := hb
  have hR2 : Ends R w (.bool (al5 sv (aAlike sv d) s t (ls.take 1) (ks.take 1) (ms.take 1) (ns.take 1))) := hR
  have hlo := hls.one
  have hmo := hms.one
  have hlo2 := hks.one
  have hmo2 := hns.one
  have hls' := Lib.hid hls
  have hms' := Lib.hid hms
  have hks' := Lib.hid hks
  have hns' := Lib.hid hns
  have hR' := Lib.hid hR2
  have ih' := Lib.hid ih
  have hf' := Lib.hid hf
  clear hR hR2 ih hf hls hms hks hns
  go_enter Try.func13, Try.ntmps13
  go_wp2_with fail
  refine abs2 (G := Code.wp _ _ _ _) ?_
  intro w1 hE1 hb1 hb2 hs1
  have a0 : w1.cell? ⟨w.heap.size, 0, none⟩ = some (.string s) := cells_of hb1 0
  have a1 : w1.cell? ⟨w.heap.size, 1, none⟩ = some vl := cells_of hb1 1
  have a2 : w1.cell? ⟨w.heap.size, 2, none⟩ = some vm := cells_of hb1 2
  have b0 : w1.cell? ⟨w.heap.size + 1, 0, none⟩ = some (.string t) := cells_of hb2 0
  have b1 : w1.cell? ⟨w.heap.size + 1, 1, none⟩ = some ul := cells_of hb2 1
  have b2 : w1.cell? ⟨w.heap.size + 1, 2, none⟩ = some um := cells_of hb2 2
  clear hb1 hb2 hs1
  refine wp_region_script [0, 2, 4, 6, 8, 9, 10, 11] [1, 3, 5] (fun w' => Ext w1 w') [(.read, 0), (.read, 2), (.read, 4), (.read, 6), (.one, 1), (.one, 3), (.one, 5), (.one, 7), (.pure, 8), (.pure, 9), (.pure, 10), (.pure, 11)] (by kernel_rfl) (by kernel_rfl) ?_
  (apply scr_read'; (· rfl); (· rfl); (· first | exact hC | exact (Ext.refl _).drew); (· (intro w' hw'; have a0_ := hw'.keep a0; have a1_ := hw'.keep a1; have a2_ := hw'.keep a2; go_simp; try rfl)); (· (simp [go_sem]; try rfl)))
  (apply scr_read'; (· rfl); (· rfl); (· first | exact hC | exact (Ext.refl _).drew); (· (intro w' hw'; have b0_ := hw'.keep b0; have b1_ := hw'.keep b1; have b2_ := hw'.keep b2; go_simp; try rfl)); (· (simp [go_sem]; try rfl)))
  (apply scr_read'; (· rfl); (· rfl); (· first | exact hC | exact (Ext.refl _).drew); (· (intro w' hw'; have a0_ := hw'.keep a0; have a1_ := hw'.keep a1; have a2_ := hw'.keep a2; go_simp; try rfl)); (· (simp [go_sem]; try rfl)))
  (apply scr_read'; (· rfl); (· rfl); (· first | exact hC | exact (Ext.refl _).drew); (· (intro w' hw'; have b0_ := hw'.keep b0; have b1_ := hw'.keep b1; have b2_ := hw'.keep b2; go_simp; try rfl)); (· (simp [go_sem]; try rfl)))
  refine scr_one rfl rfl (fun K hK => ?_)
  go_simp
  refine firstList_c (d := d) (X := []) (hls'.out.mv ((hE1.trans (Ext.refl w1).drew).mv []) (by simp [kLt])) _ ?_
  intro w2 v1 hE2 hv1
  have hw2 := (Ext.refl w1).drew.trans hE2
  have hv1' := Lib.hid hv1
  clear hv1
  refine hK _ _ (fun _ => hw2) ?_
  clear hK
  refine scr_one rfl rfl (fun K hK => ?_)
  go_simp
  refine firstList_c (d := d) (X := []) (hks'.out.mv ((hE1.trans hw2).mv []) (by simp [kLt])) _ ?_
  intro w3 v2 hE3 hv2
  have hw3 := hw2.trans hE3
  have hv2' := Lib.hid hv2
  clear hv2
  refine hK _ _ (fun _ => hw3) ?_
  clear hK
  refine scr_one rfl rfl (fun K hK => ?_)
  go_simp
  refine firstMap_c (d := d) (X := []) (hms'.out.mv ((hE1.trans hw3).mv []) (by simp [kMt])) _ ?_
  intro w4 v3 hE4 hv3
  have hw4 := hw3.trans hE4
  have hv3' := Lib.hid hv3
  clear hv3
  refine hK _ _ (fun _ => hw4) ?_
  clear hK
  refine scr_one rfl rfl (fun K hK => ?_)
  go_simp
  refine firstMap_c (d := d) (X := []) (hns'.out.mv ((hE1.trans hw4).mv []) (by simp [kMt])) _ ?_
  intro w5 v4 hE5 hv4
  have hw5 := hw4.trans hE5
  have hv4' := Lib.hid hv4
  clear hv4
  refine hK _ _ (fun h => by simp at h) ?_
  clear hK
  have l1 := hv1'.out.mv (((hE3.trans hE4).trans hE5).mv []) (by simp [kLt])
  have l2 := hv2'.out.mv ((hE4.trans hE5).mv []) (by simp [kLt])
  have l3 := hv3'.out.mv (hE5.mv []) (by simp [kMt])
  have l4 := hv4'.out
  clear hv1' hv2' hv3' hv4' hls' hks' hms' hns'
  obtain ⟨lo, lc, lb, loff, rfl, -, l1b, l1c, l1d⟩ := l1.ex
  obtain ⟨ko, kc, kb, koff, rfl, -, l2b, l2c, l2d⟩ := l2.ex
  obtain ⟨mo, mc, mb, moff, rfl, -, l3b, l3c, l3d⟩ := l3.ex
  obtain ⟨no, nc, nb, noff, rfl, -, l4b, l4c, l4d⟩ := l4.ex
  rw [kLt_8] at l1d l2d
  rw [kMt_8] at l3d l4d
  have h1c := Lib.hid l1c
  have h1d := Lib.hid l1d
  have h2c := Lib.hid l2c
  have h2d := Lib.hid l2d
  have h3c := Lib.hid l3c
  have h3d := Lib.hid l3d
  have h4c := Lib.hid l4c
  have h4d := Lib.hid l4d
  clear l1 l2 l3 l4 l1c l1d l2c l2d l3c l3d l4c l4d
  generalize ls.take 1 = L1 at *
  generalize ks.take 1 = L2 at *
  generalize ms.take 1 = M1 at *
  generalize ns.take 1 = M2 at *
  have hE := hE1.trans hw5
  replace a0 := hw5.keep a0
  replace b0 := hw5.keep b0
  clear a1 a2 b1 b2
  iterate 4 (apply scr_pure'; (· rfl); (· rfl); (· (intro w'; go_simp; try rfl)); (· (simp [go_sem]; try rfl)))
  refine scr_end ?_
  simp only [Exit.then]
  by_cases hst : s = t
  · subst hst
    by_cases hl : L1.length = L2.length
    · by_cases hm : M1.length = M2.length
      · have hl' := Lib.hid hl
        have hm' := Lib.hid hm
        have hR2 := Lib.hid (show ∀ b c : Bool, all2b (ltAlike (aAlike sv d)) L1 L2 = b → all2b (mtAlike sv (aAlike sv d)) M1 M2 = c → Ends R w (.bool (b && c)) from fun b c h1 h2 => hR'.out.bool (by simp [al5, hl, hm, h1, h2]))
        clear hR'
        go_wp2_with fail
        clear hl hm
        go_loopw [43] (fun i wr => ∃ k : Nat, k ≤ L1.length ∧ i = .int .i64 k ∧ Ext w5 wr ∧ Hid (∀ j (h : j < L1.length) (h2 : j < L2.length), j < k → ltAlike (aAlike sv d) L1[j] L2[j] = true)) (fun i _ => L1.length - (intOf i).toNat)
        case atStart => exact ⟨0, Nat.zero_le _, rfl, Ext.refl _, fun j _ _ hj => by omega⟩
        case round =>
          obtain ⟨k, hk, rfl, hbr, hall⟩ := hrel
          by_cases hlt : k < L1.length
          · have hlt2 : k < L2.length := by have := hl'.out; omega
            obtain ⟨rfl, -⟩ := h1c.out (by omega)
            obtain ⟨rfl, -⟩ := h2c.out (by omega)
            obtain ⟨cs', hc, hcs⟩ := h1d.out k hlt
            obtain ⟨ds', hd, hds⟩ := h2d.out k hlt2
            obtain ⟨t2, t3, t4, vk, rfl, hat, hks, -, -, -⟩ := kLt_parts hcs
            obtain ⟨u2, u3, u4, uk, rfl, hau, hku, -, -, -⟩ := kLt_parts hds
            have hat' := Lib.hid hat
            have hau' := Lib.hid hau
            have hks' := Lib.hid hks
            have hku' := Lib.hid hku
            have x0 := hbr.keep (hc 0 (by omega))
            have x1 := hbr.keep (hc 1 (by omega))
            have x2 := hbr.keep (hc 2 (by omega))
            have x3 := hbr.keep (hc 3 (by omega))
            have x4 := hbr.keep (hc 4 (by omega))
            have x5 := hbr.keep (hc 5 (by omega))
            have x6 := hbr.keep (hc 6 (by omega))
            have x7 := hbr.keep (hc 7 (by omega))
            have y0 := hbr.keep (hd 0 (by omega))
            have y1 := hbr.keep (hd 1 (by omega))
            have y2 := hbr.keep (hd 2 (by omega))
            have y3 := hbr.keep (hd 3 (by omega))
            have y4 := hbr.keep (hd 4 (by omega))
            have y5 := hbr.keep (hd 5 (by omega))
            have y6 := hbr.keep (hd 6 (by omega))
            have y7 := hbr.keep (hd 7 (by omega))
            simp only [Nat.add_zero] at x0 y0
            clear hc hd hcs hds hat hau hks hku
            have hi1 : (k : Int) < (L1.length : Int) := by omega
            have hi2 : (k : Int) < (L2.length : Int) := by omega
            have hER := hE.trans hbr
            have hkm : (k : Int) + 1 ≤ 9223372036854775807 := by omega
            by_cases hrl : (L1[k]).rel = (L2[k]).rel
            · rw [← hrl] at y6
              have hrl' := Lib.hid hrl
              have hno := Lib.hid (fun h => hR2.out false _ (all2b_no k hlt hlt2 h) rfl)
              clear hrl
              go_wp2_with fail
              refine wp_region_script ((List.range 22) ++ [23, 24, 25, 26, 27, 28, 29, 30, 31, 32, 33, 34, 35, 36, 38, 39]) [22] (fun w' => Ext wr w') [(.pure, 0), (.pure, 1), (.pure, 2), (.pure, 3), (.read, 4), (.pure, 5), (.pure, 6), (.pure, 7), (.pure, 8), (.read, 9), (.pure, 10), (.pure, 11), (.pure, 12), (.pure, 13), (.pure, 14), (.pure, 15), (.read, 16), (.pure, 17), (.pure, 18), (.pure, 19), (.pure, 20), (.read, 21), (.one, 22), (.pure, 23), (.pure, 24), (.pure, 25), (.pure, 26), (.pure, 27), (.pure, 28), (.pure, 29), (.read, 30), (.pure, 31), (.pure, 32), (.pure, 33), (.pure, 34), (.read, 35), (.pure, 36), (.one, 37), (.pure, 38), (.pure, 39)] (by kernel_rfl) (by kernel_rfl) ?_
              iterate 4 (first | (apply scr_pG; (· rfl); (· (first | rfl | (simp [Region.wanted, yielded, go_sem]; done) | (simp [Region.wanted, yielded, go_sem, *]; done))); (· (intro w'; go_simp; try rfl)); (· (simp [go_sem]; try rfl))) | (apply scr_p0; (· rfl); (· (first | rfl | (simp [Region.wanted, yielded, go_sem]; done) | (simp [Region.wanted, yielded, go_sem, *]; done))); (· (simp [go_sem]; try rfl))))
              (first | (apply scr_rG; (· rfl); (· (first | rfl | (simp [Region.wanted, yielded, go_sem]; done) | (simp [Region.wanted, yielded, go_sem, *]; done))); (· first | exact hC | exact (Ext.refl _).drew); (· (intro w' hw'; have x0_ := hw'.keep x0; have x1_ := hw'.keep x1; have x2_ := hw'.keep x2; have x3_ := hw'.keep x3; have x4_ := hw'.keep x4; have x5_ := hw'.keep x5; have x6_ := hw'.keep x6; have x7_ := hw'.keep x7; have y0_ := hw'.keep y0; have y1_ := hw'.keep y1; have y2_ := hw'.keep y2; have y3_ := hw'.keep y3; have y4_ := hw'.keep y4; have y5_ := hw'.keep y5; have y6_ := hw'.keep y6; have y7_ := hw'.keep y7; go_simp; try rfl)); (· (simp [go_sem]; try rfl))) | (apply scr_r0G; (· rfl); (· (first | rfl | (simp [Region.wanted, yielded, go_sem]; done) | (simp [Region.wanted, yielded, go_sem, *]; done))); (· first | exact hC | exact (Ext.refl _).drew); (· (simp [go_sem]; try rfl))))
              iterate 4 (first | (apply scr_pG; (· rfl); (· (first | rfl | (simp [Region.wanted, yielded, go_sem]; done) | (simp [Region.wanted, yielded, go_sem, *]; done))); (· (intro w'; go_simp; try rfl)); (· (simp [go_sem]; try rfl))) | (apply scr_p0; (· rfl); (· (first | rfl | (simp [Region.wanted, yielded, go_sem]; done) | (simp [Region.wanted, yielded, go_sem, *]; done))); (· (simp [go_sem]; try rfl))))
              (first | (apply scr_rG; (· rfl); (· (first | rfl | (simp [Region.wanted, yielded, go_sem]; done) | (simp [Region.wanted, yielded, go_sem, *]; done))); (· first | exact hC | exact (Ext.refl _).drew); (· (intro w' hw'; have x0_ := hw'.keep x0; have x1_ := hw'.keep x1; have x2_ := hw'.keep x2; have x3_ := hw'.keep x3; have x4_ := hw'.keep x4; have x5_ := hw'.keep x5; have x6_ := hw'.keep x6; have x7_ := hw'.keep x7; have y0_ := hw'.keep y0; have y1_ := hw'.keep y1; have y2_ := hw'.keep y2; have y3_ := hw'.keep y3; have y4_ := hw'.keep y4; have y5_ := hw'.keep y5; have y6_ := hw'.keep y6; have y7_ := hw'.keep y7; go_simp; try rfl)); (· (simp [go_sem]; try rfl))) | (apply scr_r0G; (· rfl); (· (first | rfl | (simp [Region.wanted, yielded, go_sem]; done) | (simp [Region.wanted, yielded, go_sem, *]; done))); (· first | exact hC | exact (Ext.refl _).drew); (· (simp [go_sem]; try rfl))))
              iterate 6 (first | (apply scr_pG; (· rfl); (· (first | rfl | (simp [Region.wanted, yielded, go_sem]; done) | (simp [Region.wanted, yielded, go_sem, *]; done))); (· (intro w'; go_simp; try rfl)); (· (simp [go_sem]; try rfl))) | (apply scr_p0; (· rfl); (· (first | rfl | (simp [Region.wanted, yielded, go_sem]; done) | (simp [Region.wanted, yielded, go_sem, *]; done))); (· (simp [go_sem]; try rfl))))
              (first | (apply scr_rG; (· rfl); (· (first | rfl | (simp [Region.wanted, yielded, go_sem]; done) | (simp [Region.wanted, yielded, go_sem, *]; done))); (· first | exact hC | exact (Ext.refl _).drew); (· (intro w' hw'; have x0_ := hw'.keep x0; have x1_ := hw'.keep x1; have x2_ := hw'.keep x2; have x3_ := hw'.keep x3; have x4_ := hw'.keep x4; have x5_ := hw'.keep x5; have x6_ := hw'.keep x6; have x7_ := hw'.keep x7; have y0_ := hw'.keep y0; have y1_ := hw'.keep y1; have y2_ := hw'.keep y2; have y3_ := hw'.keep y3; have y4_ := hw'.keep y4; have y5_ := hw'.keep y5; have y6_ := hw'.keep y6; have y7_ := hw'.keep y7; go_simp; try rfl)); (· (simp [go_sem]; try rfl))) | (apply scr_r0G; (· rfl); (· (first | rfl | (simp [Region.wanted, yielded, go_sem]; done) | (simp [Region.wanted, yielded, go_sem, *]; done))); (· first | exact hC | exact (Ext.refl _).drew); (· (simp [go_sem]; try rfl))))
              iterate 4 (first | (apply scr_pG; (· rfl); (· (first | rfl | (simp [Region.wanted, yielded, go_sem]; done) | (simp [Region.wanted, yielded, go_sem, *]; done))); (· (intro w'; go_simp; try rfl)); (· (simp [go_sem]; try rfl))) | (apply scr_p0; (· rfl); (· (first | rfl | (simp [Region.wanted, yielded, go_sem]; done) | (simp [Region.wanted, yielded, go_sem, *]; done))); (· (simp [go_sem]; try rfl))))
              (first | (apply scr_rG; (· rfl); (· (first | rfl | (simp [Region.wanted, yielded, go_sem]; done) | (simp [Region.wanted, yielded, go_sem, *]; done))); (· first | exact hC | exact (Ext.refl _).drew); (· (intro w' hw'; have x0_ := hw'.keep x0; have x1_ := hw'.keep x1; have x2_ := hw'.keep x2; have x3_ := hw'.keep x3; have x4_ := hw'.keep x4; have x5_ := hw'.keep x5; have x6_ := hw'.keep x6; have x7_ := hw'.keep x7; have y0_ := hw'.keep y0; have y1_ := hw'.keep y1; have y2_ := hw'.keep y2; have y3_ := hw'.keep y3; have y4_ := hw'.keep y4; have y5_ := hw'.keep y5; have y6_ := hw'.keep y6; have y7_ := hw'.keep y7; go_simp; try rfl)); (· (simp [go_sem]; try rfl))) | (apply scr_r0G; (· rfl); (· (first | rfl | (simp [Region.wanted, yielded, go_sem]; done) | (simp [Region.wanted, yielded, go_sem, *]; done))); (· first | exact hC | exact (Ext.refl _).drew); (· (simp [go_sem]; try rfl))))
              refine scr_oneG rfl (by simp [Region.wanted, yielded, go_sem]) (fun K hK => ?_)
              go_simp
              refine sameStrings_c (hks'.out.mv ((hbr.trans (Ext.refl _).drew).mv [])) (hku'.out.mv ((hbr.trans (Ext.refl _).drew).mv [])) _ ?_
              intro w6 hE6
              have hC := (Ext.refl wr).drew.trans hE6
              refine hK _ _ (fun _ => hC) ?_
              clear hK
              obtain ⟨sb, hsb⟩ : ∃ sb, decide ((L1[k]).keys = (L2[k]).keys) = sb := ⟨_, rfl⟩
              have hsb' := Lib.hid hsb
              rw [hsb]
              clear hsb
              cases sb
              · iterate 7 (first | (apply scr_pG; (· rfl); (· (first | rfl | (simp [Region.wanted, yielded, go_sem]; done) | (simp [Region.wanted, yielded, go_sem, *]; done))); (· (intro w'; go_simp; try rfl)); (· (simp [go_sem]; try rfl))) | (apply scr_p0; (· rfl); (· (first | rfl | (simp [Region.wanted, yielded, go_sem]; done) | (simp [Region.wanted, yielded, go_sem, *]; done))); (· (simp [go_sem]; try rfl))))
                (first | (apply scr_rG; (· rfl); (· (first | rfl | (simp [Region.wanted, yielded, go_sem]; done) | (simp [Region.wanted, yielded, go_sem, *]; done))); (· first | exact hC | exact (Ext.refl _).drew); (· (intro w' hw'; have x0_ := hw'.keep x0; go_simp; try rfl)); (· (simp [go_sem]; try rfl))) | (apply scr_r0G; (· rfl); (· (first | rfl | (simp [Region.wanted, yielded, go_sem]; done) | (simp [Region.wanted, yielded, go_sem, *]; done))); (· first | exact hC | exact (Ext.refl _).drew); (· (simp [go_sem]; try rfl))))
                iterate 4 (first | (apply scr_pG; (· rfl); (· (first | rfl | (simp [Region.wanted, yielded, go_sem]; done) | (simp [Region.wanted, yielded, go_sem, *]; done))); (· (intro w'; go_simp; try rfl)); (· (simp [go_sem]; try rfl))) | (apply scr_p0; (· rfl); (· (first | rfl | (simp [Region.wanted, yielded, go_sem]; done) | (simp [Region.wanted, yielded, go_sem, *]; done))); (· (simp [go_sem]; try rfl))))
                (first | (apply scr_rG; (· rfl); (· (first | rfl | (simp [Region.wanted, yielded, go_sem]; done) | (simp [Region.wanted, yielded, go_sem, *]; done))); (· first | exact hC | exact (Ext.refl _).drew); (· (intro w' hw'; have x0_ := hw'.keep x0; go_simp; try rfl)); (· (simp [go_sem]; try rfl))) | (apply scr_r0G; (· rfl); (· (first | rfl | (simp [Region.wanted, yielded, go_sem]; done) | (simp [Region.wanted, yielded, go_sem, *]; done))); (· first | exact hC | exact (Ext.refl _).drew); (· (simp [go_sem]; try rfl))))
                (first | (apply scr_pG; (· rfl); (· (first | rfl | (simp [Region.wanted, yielded, go_sem]; done) | (simp [Region.wanted, yielded, go_sem, *]; done))); (· (intro w'; go_simp; try rfl)); (· (simp [go_sem]; try rfl))) | (apply scr_p0; (· rfl); (· (first | rfl | (simp [Region.wanted, yielded, go_sem]; done) | (simp [Region.wanted, yielded, go_sem, *]; done))); (· (simp [go_sem]; try rfl))))
                refine scr_one0 rfl (by simp [Region.wanted, yielded, go_sem]) (fun h => by simp at h) (by simp [go_sem]; rfl) ?_
                iterate 2 (first | (apply scr_pG; (· rfl); (· (first | rfl | (simp [Region.wanted, yielded, go_sem]; done) | (simp [Region.wanted, yielded, go_sem, *]; done))); (· (intro w'; go_simp; try rfl)); (· (simp [go_sem]; try rfl))) | (apply scr_p0; (· rfl); (· (first | rfl | (simp [Region.wanted, yielded, go_sem]; done) | (simp [Region.wanted, yielded, go_sem, *]; done))); (· (simp [go_sem]; try rfl))))
                refine scr_end ?_
                simp only [Exit.then]
                go_wp2_with fail
                exact hno.out (by simp [ltAlike, hsb'.out]) _ (hER.trans hC)
              · iterate 7 (first | (apply scr_pG; (· rfl); (· (first | rfl | (simp [Region.wanted, yielded, go_sem]; done) | (simp [Region.wanted, yielded, go_sem, *]; done))); (· (intro w'; go_simp; try rfl)); (· (simp [go_sem]; try rfl))) | (apply scr_p0; (· rfl); (· (first | rfl | (simp [Region.wanted, yielded, go_sem]; done) | (simp [Region.wanted, yielded, go_sem, *]; done))); (· (simp [go_sem]; try rfl))))
                (first | (apply scr_rG; (· rfl); (· (first | rfl | (simp [Region.wanted, yielded, go_sem]; done) | (simp [Region.wanted, yielded, go_sem, *]; done))); (· first | exact hC | exact (Ext.refl _).drew); (· (intro w' hw'; have x0_ := hw'.keep x0; have x1_ := hw'.keep x1; have x2_ := hw'.keep x2; have x3_ := hw'.keep x3; have x4_ := hw'.keep x4; have x5_ := hw'.keep x5; have x6_ := hw'.keep x6; have x7_ := hw'.keep x7; have y0_ := hw'.keep y0; have y1_ := hw'.keep y1; have y2_ := hw'.keep y2; have y3_ := hw'.keep y3; have y4_ := hw'.keep y4; have y5_ := hw'.keep y5; have y6_ := hw'.keep y6; have y7_ := hw'.keep y7; go_simp; try rfl)); (· (simp [go_sem]; try rfl))) | (apply scr_r0G; (· rfl); (· (first | rfl | (simp [Region.wanted, yielded, go_sem]; done) | (simp [Region.wanted, yielded, go_sem, *]; done))); (· first | exact hC | exact (Ext.refl _).drew); (· (simp [go_sem]; try rfl))))
                iterate 4 (first | (apply scr_pG; (· rfl); (· (first | rfl | (simp [Region.wanted, yielded, go_sem]; done) | (simp [Region.wanted, yielded, go_sem, *]; done))); (· (intro w'; go_simp; try rfl)); (· (simp [go_sem]; try rfl))) | (apply scr_p0; (· rfl); (· (first | rfl | (simp [Region.wanted, yielded, go_sem]; done) | (simp [Region.wanted, yielded, go_sem, *]; done))); (· (simp [go_sem]; try rfl))))
                (first | (apply scr_rG; (· rfl); (· (first | rfl | (simp [Region.wanted, yielded, go_sem]; done) | (simp [Region.wanted, yielded, go_sem, *]; done))); (· first | exact hC | exact (Ext.refl _).drew); (· (intro w' hw'; have x0_ := hw'.keep x0; have x1_ := hw'.keep x1; have x2_ := hw'.keep x2; have x3_ := hw'.keep x3; have x4_ := hw'.keep x4; have x5_ := hw'.keep x5; have x6_ := hw'.keep x6; have x7_ := hw'.keep x7; have y0_ := hw'.keep y0; have y1_ := hw'.keep y1; have y2_ := hw'.keep y2; have y3_ := hw'.keep y3; have y4_ := hw'.keep y4; have y5_ := hw'.keep y5; have y6_ := hw'.keep y6; have y7_ := hw'.keep y7; go_simp; try rfl)); (· (simp [go_sem]; try rfl))) | (apply scr_r0G; (· rfl); (· (first | rfl | (simp [Region.wanted, yielded, go_sem]; done) | (simp [Region.wanted, yielded, go_sem, *]; done))); (· first | exact hC | exact (Ext.refl _).drew); (· (simp [go_sem]; try rfl))))
                (first | (apply scr_pG; (· rfl); (· (first | rfl | (simp [Region.wanted, yielded, go_sem]; done) | (simp [Region.wanted, yielded, go_sem, *]; done))); (· (intro w'; go_simp; try rfl)); (· (simp [go_sem]; try rfl))) | (apply scr_p0; (· rfl); (· (first | rfl | (simp [Region.wanted, yielded, go_sem]; done) | (simp [Region.wanted, yielded, go_sem, *]; done))); (· (simp [go_sem]; try rfl))))
                refine scr_oneG rfl (by simp [Region.wanted, yielded, go_sem]) (fun K hK => ?_)
                go_simp
                refine refsAlike_c ih'.out (r := (L1[k]).elem) (s := (L2[k]).elem) ((kA d).mv hat'.out ((hbr.trans hC).mv _)) ((kA d).mv hau'.out ((hbr.trans hC).mv _)) _ ?_
                intro w7 hE7
                refine hK _ _ (fun h => by simp at h) ?_
                clear hK
                obtain ⟨rb, hrb⟩ : ∃ rb, rfAlike (aAlike sv d) (L1[k]).elem (L2[k]).elem = rb := ⟨_, rfl⟩
                have hrb' := Lib.hid hrb
                rw [hrb]
                clear hrb
                have hbq := (hbr.trans hC).trans hE7
                cases rb
                · iterate 2 (first | (apply scr_pG; (· rfl); (· (first | rfl | (simp [Region.wanted, yielded, go_sem]; done) | (simp [Region.wanted, yielded, go_sem, *]; done))); (· (intro w'; go_simp; try rfl)); (· (simp [go_sem]; try rfl))) | (apply scr_p0; (· rfl); (· (first | rfl | (simp [Region.wanted, yielded, go_sem]; done) | (simp [Region.wanted, yielded, go_sem, *]; done))); (· (simp [go_sem]; try rfl))))
                  refine scr_end ?_
                  simp only [Exit.then]
                  go_wp2_with fail
                  exact hno.out (by simp [ltAlike, hrb'.out]) _ (hE.trans hbq)
                · iterate 2 (first | (apply scr_pG; (· rfl); (· (first | rfl | (simp [Region.wanted, yielded, go_sem]; done) | (simp [Region.wanted, yielded, go_sem, *]; done))); (· (intro w'; go_simp; try rfl)); (· (simp [go_sem]; try rfl))) | (apply scr_p0; (· rfl); (· (first | rfl | (simp [Region.wanted, yielded, go_sem]; done) | (simp [Region.wanted, yielded, go_sem, *]; done))); (· (simp [go_sem]; try rfl))))
                  refine scr_end ?_
                  simp only [Exit.then]
                  go_wp2_with fail
                  go_roundw
                  case rel =>
                    refine ⟨k + 1, by omega, by go_num, hbq, fun j h h2 hj => ?_⟩
                    by_cases e : j = k
                    · subst e; simp only [ltAlike, hrl'.out, hsb'.out, hrb'.out, Bool.and_self, BEq.rfl]
                    · exact hall.out j h h2 (by omega)
                  case measure => simp [intOf]; omega
            · have hb := bytes_beq hrl
              have hno := Lib.hid (hR2.out false _ (all2b_no k hlt hlt2 (by simp [ltAlike, hrl])) rfl)
              clear hrl
              go_wp2_with fail
              refine wp_region_script ((List.range 22) ++ [23, 24, 25, 26, 27, 28, 29, 30, 31, 32, 33, 34, 35, 36, 38, 39]) [22] (fun w' => Ext wr w') [(.pure, 0), (.pure, 1), (.pure, 2), (.pure, 3), (.read, 4), (.pure, 5), (.pure, 6), (.pure, 7), (.pure, 8), (.read, 9), (.pure, 10), (.pure, 11), (.pure, 12), (.pure, 13), (.pure, 14), (.pure, 15), (.read, 16), (.pure, 17), (.pure, 18), (.pure, 19), (.pure, 20), (.read, 21), (.one, 22), (.pure, 23), (.pure, 24), (.pure, 25), (.pure, 26), (.pure, 27), (.pure, 28), (.pure, 29), (.read, 30), (.pure, 31), (.pure, 32), (.pure, 33), (.pure, 34), (.read, 35), (.pure, 36), (.one, 37), (.pure, 38), (.pure, 39)] (by kernel_rfl) (by kernel_rfl) ?_
              iterate 4 (first | (apply scr_pG; (· rfl); (· (first | rfl | (simp [Region.wanted, yielded, go_sem]; done) | (simp [Region.wanted, yielded, go_sem, *]; done))); (· (intro w'; go_simp; try rfl)); (· (simp [go_sem]; try rfl))) | (apply scr_p0; (· rfl); (· (first | rfl | (simp [Region.wanted, yielded, go_sem]; done) | (simp [Region.wanted, yielded, go_sem, *]; done))); (· (simp [go_sem]; try rfl))))
              (first | (apply scr_rG; (· rfl); (· (first | rfl | (simp [Region.wanted, yielded, go_sem]; done) | (simp [Region.wanted, yielded, go_sem, *]; done))); (· first | exact hC | exact (Ext.refl _).drew); (· (intro w' hw'; have x0_ := hw'.keep x0; have x1_ := hw'.keep x1; have x2_ := hw'.keep x2; have x3_ := hw'.keep x3; have x4_ := hw'.keep x4; have x5_ := hw'.keep x5; have x6_ := hw'.keep x6; have x7_ := hw'.keep x7; have y0_ := hw'.keep y0; have y1_ := hw'.keep y1; have y2_ := hw'.keep y2; have y3_ := hw'.keep y3; have y4_ := hw'.keep y4; have y5_ := hw'.keep y5; have y6_ := hw'.keep y6; have y7_ := hw'.keep y7; go_simp; try rfl)); (· (simp [go_sem]; try rfl))) | (apply scr_r0G; (· rfl); (· (first | rfl | (simp [Region.wanted, yielded, go_sem]; done) | (simp [Region.wanted, yielded, go_sem, *]; done))); (· first | exact hC | exact (Ext.refl _).drew); (· (simp [go_sem]; try rfl))))
              iterate 4 (first | (apply scr_pG; (· rfl); (· (first | rfl | (simp [Region.wanted, yielded, go_sem]; done) | (simp [Region.wanted, yielded, go_sem, *]; done))); (· (intro w'; go_simp; try rfl)); (· (simp [go_sem]; try rfl))) | (apply scr_p0; (· rfl); (· (first | rfl | (simp [Region.wanted, yielded, go_sem]; done) | (simp [Region.wanted, yielded, go_sem, *]; done))); (· (simp [go_sem]; try rfl))))
              (first | (apply scr_rG; (· rfl); (· (first | rfl | (simp [Region.wanted, yielded, go_sem]; done) | (simp [Region.wanted, yielded, go_sem, *]; done))); (· first | exact hC | exact (Ext.refl _).drew); (· (intro w' hw'; have x0_ := hw'.keep x0; have x1_ := hw'.keep x1; have x2_ := hw'.keep x2; have x3_ := hw'.keep x3; have x4_ := hw'.keep x4; have x5_ := hw'.keep x5; have x6_ := hw'.keep x6; have x7_ := hw'.keep x7; have y0_ := hw'.keep y0; have y1_ := hw'.keep y1; have y2_ := hw'.keep y2; have y3_ := hw'.keep y3; have y4_ := hw'.keep y4; have y5_ := hw'.keep y5; have y6_ := hw'.keep y6; have y7_ := hw'.keep y7; go_simp; try rfl)); (· (simp [go_sem]; try rfl))) | (apply scr_r0G; (· rfl); (· (first | rfl | (simp [Region.wanted, yielded, go_sem]; done) | (simp [Region.wanted, yielded, go_sem, *]; done))); (· first | exact hC | exact (Ext.refl _).drew); (· (simp [go_sem]; try rfl))))
              iterate 6 (first | (apply scr_pG; (· rfl); (· (first | rfl | (simp [Region.wanted, yielded, go_sem]; done) | (simp [Region.wanted, yielded, go_sem, *]; done))); (· (intro w'; go_simp; try rfl)); (· (simp [go_sem]; try rfl))) | (apply scr_p0; (· rfl); (· (first | rfl | (simp [Region.wanted, yielded, go_sem]; done) | (simp [Region.wanted, yielded, go_sem, *]; done))); (· (simp [go_sem]; try rfl))))
              (first | (apply scr_rG; (· rfl); (· (first | rfl | (simp [Region.wanted, yielded, go_sem]; done) | (simp [Region.wanted, yielded, go_sem, *]; done))); (· first | exact hC | exact (Ext.refl _).drew); (· (intro w' hw'; have x0_ := hw'.keep x0; go_simp; try rfl)); (· (simp [go_sem]; try rfl))) | (apply scr_r0G; (· rfl); (· (first | rfl | (simp [Region.wanted, yielded, go_sem]; done) | (simp [Region.wanted, yielded, go_sem, *]; done))); (· first | exact hC | exact (Ext.refl _).drew); (· (simp [go_sem]; try rfl))))
              iterate 4 (first | (apply scr_pG; (· rfl); (· (first | rfl | (simp [Region.wanted, yielded, go_sem]; done) | (simp [Region.wanted, yielded, go_sem, *]; done))); (· (intro w'; go_simp; try rfl)); (· (simp [go_sem]; try rfl))) | (apply scr_p0; (· rfl); (· (first | rfl | (simp [Region.wanted, yielded, go_sem]; done) | (simp [Region.wanted, yielded, go_sem, *]; done))); (· (simp [go_sem]; try rfl))))
              (first | (apply scr_rG; (· rfl); (· (first | rfl | (simp [Region.wanted, yielded, go_sem]; done) | (simp [Region.wanted, yielded, go_sem, *]; done))); (· first | exact hC | exact (Ext.refl _).drew); (· (intro w' hw'; have x0_ := hw'.keep x0; go_simp; try rfl)); (· (simp [go_sem]; try rfl))) | (apply scr_r0G; (· rfl); (· (first | rfl | (simp [Region.wanted, yielded, go_sem]; done) | (simp [Region.wanted, yielded, go_sem, *]; done))); (· first | exact hC | exact (Ext.refl _).drew); (· (simp [go_sem]; try rfl))))
              refine scr_one0 rfl (by simp [Region.wanted, yielded, go_sem]) (fun _ => (Ext.refl _).drew) (by simp [go_sem]; rfl) ?_
              iterate 7 (first | (apply scr_pG; (· rfl); (· (first | rfl | (simp [Region.wanted, yielded, go_sem]; done) | (simp [Region.wanted, yielded, go_sem, *]; done))); (· (intro w'; go_simp; try rfl)); (· (simp [go_sem]; try rfl))) | (apply scr_p0; (· rfl); (· (first | rfl | (simp [Region.wanted, yielded, go_sem]; done) | (simp [Region.wanted, yielded, go_sem, *]; done))); (· (simp [go_sem]; try rfl))))
              (first | (apply scr_rG; (· rfl); (· (first | rfl | (simp [Region.wanted, yielded, go_sem]; done) | (simp [Region.wanted, yielded, go_sem, *]; done))); (· first | exact hC | exact (Ext.refl _).drew); (· (intro w' hw'; have x0_ := hw'.keep x0; go_simp; try rfl)); (· (simp [go_sem]; try rfl))) | (apply scr_r0G; (· rfl); (· (first | rfl | (simp [Region.wanted, yielded, go_sem]; done) | (simp [Region.wanted, yielded, go_sem, *]; done))); (· first | exact hC | exact (Ext.refl _).drew); (· (simp [go_sem]; try rfl))))
              iterate 4 (first | (apply scr_pG; (· rfl); (· (first | rfl | (simp [Region.wanted, yielded, go_sem]; done) | (simp [Region.wanted, yielded, go_sem, *]; done))); (· (intro w'; go_simp; try rfl)); (· (simp [go_sem]; try rfl))) | (apply scr_p0; (· rfl); (· (first | rfl | (simp [Region.wanted, yielded, go_sem]; done) | (simp [Region.wanted, yielded, go_sem, *]; done))); (· (simp [go_sem]; try rfl))))
              (first | (apply scr_rG; (· rfl); (· (first | rfl | (simp [Region.wanted, yielded, go_sem]; done) | (simp [Region.wanted, yielded, go_sem, *]; done))); (· first | exact hC | exact (Ext.refl _).drew); (· (intro w' hw'; have x0_ := hw'.keep x0; go_simp; try rfl)); (· (simp [go_sem]; try rfl))) | (apply scr_r0G; (· rfl); (· (first | rfl | (simp [Region.wanted, yielded, go_sem]; done) | (simp [Region.wanted, yielded, go_sem, *]; done))); (· first | exact hC | exact (Ext.refl _).drew); (· (simp [go_sem]; try rfl))))
              (first | (apply scr_pG; (· rfl); (· (first | rfl | (simp [Region.wanted, yielded, go_sem]; done) | (simp [Region.wanted, yielded, go_sem, *]; done))); (· (intro w'; go_simp; try rfl)); (· (simp [go_sem]; try rfl))) | (apply scr_p0; (· rfl); (· (first | rfl | (simp [Region.wanted, yielded, go_sem]; done) | (simp [Region.wanted, yielded, go_sem, *]; done))); (· (simp [go_sem]; try rfl))))
              refine scr_one0 rfl (by simp [Region.wanted, yielded, go_sem]) (fun h => by simp at h) (by simp [go_sem]; rfl) ?_
              iterate 2 (first | (apply scr_pG; (· rfl); (· (first | rfl | (simp [Region.wanted, yielded, go_sem]; done) | (simp [Region.wanted, yielded, go_sem, *]; done))); (· (intro w'; go_simp; try rfl)); (· (simp [go_sem]; try rfl))) | (apply scr_p0; (· rfl); (· (first | rfl | (simp [Region.wanted, yielded, go_sem]; done) | (simp [Region.wanted, yielded, go_sem, *]; done))); (· (simp [go_sem]; try rfl))))
              refine scr_end ?_
              simp only [Exit.then]
              go_wp2_with fail
              exact hno.out _ hER.drew
          · have hl1 : all2b (ltAlike (aAlike sv d)) L1 L2 = true := (all2b_iff hl'.out).2 fun j h h2 => hall.out j h h2 (by omega)
            have hR3 := Lib.hid (fun c h => hR2.out true c hl1 h)
            clear hl1 hall hR2
            have hER := hE.trans hbr
            have hlt2 : ¬ k < L2.length := by have := hl'.out; omega
            go_wp2_with fail
            go_loopw [89] (fun i wr => ∃ k : Nat, k ≤ M1.length ∧ i = .int .i64 k ∧ Ext w5 wr ∧ Hid (∀ j (h : j < M1.length) (h2 : j < M2.length), j < k → mtAlike sv (aAlike sv d) M1[j] M2[j] = true)) (fun i _ => M1.length - (intOf i).toNat)
            case atStart => exact ⟨0, Nat.zero_le _, rfl, hbr, fun j _ _ hj => by omega⟩
            case round =>
              clear hlt hlt2 hk
              obtain ⟨k2, hk2, rfl, hbr2, hall2⟩ := hrel
              by_cases hlt : k2 < M1.length
              · have hlt2 : k2 < M2.length := by have := hm'.out; omega
                obtain ⟨rfl, -⟩ := h3c.out (by omega)
                obtain ⟨rfl, -⟩ := h4c.out (by omega)
                obtain ⟨cs', hc, hcs⟩ := h3d.out k2 hlt
                obtain ⟨ds', hd, hds⟩ := h4d.out k2 hlt2
                obtain ⟨vf, t2, t3, t4, rfl, hat, hfs, -, -, -⟩ := kMt_parts hcs
                obtain ⟨uf, u2, u3, u4, rfl, hau, hgs, -, -, -⟩ := kMt_parts hds
                obtain ⟨fo, fc, fb, foff, rfl, -, fsz, f1c, f1d⟩ := hfs.ex
                obtain ⟨go, gc, gb, goff, rfl, -, gsz, f2c, f2d⟩ := hgs.ex
                rw [kFt_8] at f1d f2d
                replace f1c := Lib.hid f1c
                replace f1d := Lib.hid f1d
                replace f2c := Lib.hid f2c
                replace f2d := Lib.hid f2d
                have hat' := Lib.hid hat
                have hau' := Lib.hid hau
                have x0w := Lib.hid (hc 0 (by omega))
                have y0w := Lib.hid (hd 0 (by omega))
                have x0 := hbr2.keep (hc 0 (by omega))
                have x1 := hbr2.keep (hc 1 (by omega))
                have x2 := hbr2.keep (hc 2 (by omega))
                have x3 := hbr2.keep (hc 3 (by omega))
                have x4 := hbr2.keep (hc 4 (by omega))
                have x5 := hbr2.keep (hc 5 (by omega))
                have x6 := hbr2.keep (hc 6 (by omega))
                have x7 := hbr2.keep (hc 7 (by omega))
                have y0 := hbr2.keep (hd 0 (by omega))
                have y1 := hbr2.keep (hd 1 (by omega))
                have y2 := hbr2.keep (hd 2 (by omega))
                have y3 := hbr2.keep (hd 3 (by omega))
                have y4 := hbr2.keep (hd 4 (by omega))
                have y5 := hbr2.keep (hd 5 (by omega))
                have y6 := hbr2.keep (hd 6 (by omega))
                have y7 := hbr2.keep (hd 7 (by omega))
                simp only [Nat.add_zero] at x0 y0 x0w y0w
                clear hc hd hcs hds hat hau hfs hgs
                have hi1 : (k2 : Int) < (M1.length : Int) := by omega
                have hi2 : (k2 : Int) < (M2.length : Int) := by omega
                have hER := hE.trans hbr2
                have hkm : (k2 : Int) + 1 ≤ 9223372036854775807 := by omega
                rename World => wm
                by_cases hrm : (M1[k2]).rel = (M2[k2]).rel
                · rw [← hrm] at y7
                  have hrm' := Lib.hid hrm
                  have hno2 := Lib.hid (fun h => hR3.out false (all2b_no k2 hlt hlt2 h))
                  clear hrm
                  by_cases hfl : (M1[k2]).fields.length = (M2[k2]).fields.length
                  · have hfl' := Lib.hid hfl
                    have hflI : (((M1[k2]).fields.length : Int) == ((M2[k2]).fields.length : Int)) = true := by simp [hfl]
                    go_wp2_with fail
                    refine wp_region_script (List.range 38) [] (fun w' => w' = wm.drew) [(.read, 0), (.read, 1), (.read, 2), (.read, 3), (.read, 4), (.read, 5), (.read, 6), (.read, 7), (.read, 8), (.read, 9), (.read, 10), (.read, 11), (.read, 12), (.read, 13), (.read, 14), (.read, 15), (.read, 16), (.read, 17), (.read, 18), (.read, 19), (.read, 20), (.read, 21), (.read, 22), (.read, 23), (.read, 24), (.read, 25), (.read, 26), (.read, 27), (.read, 28), (.read, 29), (.read, 30), (.read, 31), (.read, 32), (.read, 33), (.read, 34), (.read, 35), (.read, 36), (.read, 37), (.one, 38), (.pure, 39), (.pure, 40)] (by kernel_rfl) (by kernel_rfl) ?_
                    iterate 38 (first | (apply scr_r; (· rfl); (· (first | rfl | (simp [Region.wanted, yielded, go_sem]; done) | (simp [Region.wanted, yielded, go_sem, *]; done))); (· (go_simp; try rfl)); (· (simp [go_sem]; try rfl))) | (apply scr_r0; (· rfl); (· (first | rfl | (simp [Region.wanted, yielded, go_sem]; done) | (simp [Region.wanted, yielded, go_sem, *]; done))); (· (simp [go_sem]; try rfl))))
                    refine scr_oneG rfl (by simp [Region.wanted, yielded, go_sem]) (fun K hK => ?_)
                    go_simp
                    refine refsAlike_c ih'.out (r := (M1[k2]).elem) (s := (M2[k2]).elem) ((kA d).mv hat'.out (hbr2.drew.mv _)) ((kA d).mv hau'.out (hbr2.drew.mv _)) _ ?_
                    intro w7 hE7
                    refine hK _ _ (fun h => by simp at h) ?_
                    clear hK
                    obtain ⟨rb, hrb⟩ : ∃ rb, rfAlike (aAlike sv d) (M1[k2]).elem (M2[k2]).elem = rb := ⟨_, rfl⟩
                    have hrb' := Lib.hid hrb
                    rw [hrb]
                    clear hrb
                    have hbq := hbr2.drew.trans hE7
                    have hx0 := Lib.hid x0
                    have hy0 := Lib.hid y0
                    clear x0 x1 x2 x3 x4 x5 x6 x7 y0 y1 y2 y3 y4 y5 y6 y7
                    have x0 := hbq.keep x0w.out
                    have y0 := hbq.keep y0w.out
                    clear hx0 hy0
                    cases rb
                    · iterate 2 (first | (apply scr_pG; (· rfl); (· (first | rfl | (simp [Region.wanted, yielded, go_sem]; done) | (simp [Region.wanted, yielded, go_sem, *]; done))); (· (intro w'; go_simp; try rfl)); (· (simp [go_sem]; try rfl))) | (apply scr_p0; (· rfl); (· (first | rfl | (simp [Region.wanted, yielded, go_sem]; done) | (simp [Region.wanted, yielded, go_sem, *]; done))); (· (simp [go_sem]; try rfl))))
                      refine scr_end ?_
                      simp only [Exit.then]
                      go_wp2_with fail
                      exact hno2.out (by simp [mtAlike, hrb'.out]) _ (hE.trans hbq)
                    · iterate 2 (first | (apply scr_pG; (· rfl); (· (first | rfl | (simp [Region.wanted, yielded, go_sem]; done) | (simp [Region.wanted, yielded, go_sem, *]; done))); (· (intro w'; go_simp; try rfl)); (· (simp [go_sem]; try rfl))) | (apply scr_p0; (· rfl); (· (first | rfl | (simp [Region.wanted, yielded, go_sem]; done) | (simp [Region.wanted, yielded, go_sem, *]; done))); (· (simp [go_sem]; try rfl))))
                      refine scr_end ?_
                      simp only [Exit.then]
                      go_wp2_with fail
                      clear hfl hflI
                      go_loopw [139] (fun i wq => ∃ q : Nat, q ≤ (M1[k2]).fields.length ∧ i = .int .i64 q ∧ Ext w5 wq ∧ Hid (∀ j (h : j < (M1[k2]).fields.length) (h2 : j < (M2[k2]).fields.length), j < q → ftAlike sv (aAlike sv d) (M1[k2]).fields[j] (M2[k2]).fields[j] = true)) (fun i _ => (M1[k2]).fields.length - (intOf i).toNat)
                      case atStart => exact ⟨0, Nat.zero_le _, rfl, hbq, fun j _ _ hj => by omega⟩
                      case round =>
                        obtain ⟨q, hq, rfl, hbf, hallf⟩ := hrel
                        clear x0 y0
                        by_cases hlt3 : q < (M1[k2]).fields.length
                        · have hlt4 : q < (M2[k2]).fields.length := by have := hfl'.out; omega
                          obtain ⟨rfl, -⟩ := f1c.out (by omega)
                          obtain ⟨rfl, -⟩ := f2c.out (by omega)
                          obtain ⟨cs', hc, hcs⟩ := f1d.out q hlt3
                          obtain ⟨ds', hd, hds⟩ := f2d.out q hlt4
                          have hcs' := Lib.hid hcs
                          have hds' := Lib.hid hds
                          obtain ⟨t2, t3, t4, vd, rfl, -, -, -, -, -⟩ := kFt_parts hcs
                          obtain ⟨u2, u3, u4, ud, rfl, -, -, -, -, -⟩ := kFt_parts hds
                          have x0 := hbf.keep x0w.out
                          have y0 := hbf.keep y0w.out
                          have hbf0 := hbf
                          have p0 := hbf.keep (hc 0 (by omega))
                          have p1 := hbf.keep (hc 1 (by omega))
                          have p2 := hbf.keep (hc 2 (by omega))
                          have p3 := hbf.keep (hc 3 (by omega))
                          have p4 := hbf.keep (hc 4 (by omega))
                          have p5 := hbf.keep (hc 5 (by omega))
                          have p6 := hbf.keep (hc 6 (by omega))
                          have p7 := hbf.keep (hc 7 (by omega))
                          have q0 := hbf.keep (hd 0 (by omega))
                          have q1 := hbf.keep (hd 1 (by omega))
                          have q2 := hbf.keep (hd 2 (by omega))
                          have q3 := hbf.keep (hd 3 (by omega))
                          have q4 := hbf.keep (hd 4 (by omega))
                          have q5 := hbf.keep (hd 5 (by omega))
                          have q6 := hbf.keep (hd 6 (by omega))
                          have q7 := hbf.keep (hd 7 (by omega))
                          simp only [Nat.add_zero] at p0 q0
                          clear hc hd hcs hds
                          have hi3 : (q : Int) < ((M1[k2]).fields.length : Int) := by omega
                          have hi4 : (q : Int) < ((M2[k2]).fields.length : Int) := by omega
                          have hi1 : (k2 : Int) < (M1.length : Int) := by omega
                          have hi2 : (k2 : Int) < (M2.length : Int) := by omega
                          have hqm : (q : Int) + 1 ≤ 9223372036854775807 := by omega
                          rename World => wq
                          go_wp2_with fail
                          refine wp_region_script (List.range 17) [] (fun w' => w' = wq.drew) [(.read, 0), (.read, 1), (.read, 2), (.read, 3), (.read, 4), (.read, 5), (.read, 6), (.read, 7), (.read, 8), (.read, 9), (.read, 10), (.read, 11), (.read, 12), (.read, 13), (.read, 14), (.read, 15), (.read, 16), (.one, 17), (.pure, 18)] (by kernel_rfl) (by kernel_rfl) ?_
                          iterate 17 (first | (apply scr_r; (· rfl); (· (first | rfl | (simp [Region.wanted, yielded, go_sem]; done) | (simp [Region.wanted, yielded, go_sem, *]; done))); (· (go_simp; try rfl)); (· (simp [go_sem]; try rfl))) | (apply scr_r0; (· rfl); (· (first | rfl | (simp [Region.wanted, yielded, go_sem]; done) | (simp [Region.wanted, yielded, go_sem, *]; done))); (· (simp [go_sem]; try rfl))))
                          refine scr_one rfl rfl (fun K hK => ?_)
                          go_simp
                          refine fieldsAlike_c hf'.out ih'.out (x := (M1[k2]).fields[q]) (y := (M2[k2]).fields[q]) ((kFt (kA d)).mv hcs'.out (hbf.drew.mv _)) ((kFt (kA d)).mv hds'.out (hbf.drew.mv _)) _ ?_
                          intro w8 hE8
                          refine hK _ _ (fun h => by simp at h) ?_
                          clear hK
                          obtain ⟨fb, hfb⟩ : ∃ fb, ftAlike sv (aAlike sv d) (M1[k2]).fields[q] (M2[k2]).fields[q] = fb := ⟨_, rfl⟩
                          have hfb' := Lib.hid hfb
                          rw [hfb]
                          clear hfb
                          have hb8 := hbf.drew.trans hE8
                          cases fb
                          · (apply scr_pure'; (· rfl); (· rfl); (· (intro w'; go_simp; try rfl)); (· (simp [go_sem]; try rfl)))
                            refine scr_end ?_
                            simp only [Exit.then]
                            go_wp2_with fail
                            exact hno2.out (by simp [mtAlike, all2b_no q hlt3 hlt4 hfb'.out]) _ (hE.trans hb8)
                          · (apply scr_pure'; (· rfl); (· rfl); (· (intro w'; go_simp; try rfl)); (· (simp [go_sem]; try rfl)))
                            refine scr_end ?_
                            simp only [Exit.then]
                            go_wp2_with fail
                            go_roundw
                            case rel =>
                              refine ⟨q + 1, by omega, by go_num, hb8, fun j h h2 hj => ?_⟩
                              by_cases e : j = q
                              · subst e; exact hfb'.out
                              · exact hallf.out j h h2 (by omega)
                            case measure => simp [intOf]; omega
                        · have hl3 : all2b (ftAlike sv (aAlike sv d)) (M1[k2]).fields (M2[k2]).fields = true := (all2b_iff hfl'.out).2 fun j h h2 => hallf.out j h h2 (by omega)
                          have hl3' := Lib.hid hl3
                          have hlt5 : ¬ q < (M2[k2]).fields.length := by have := hfl'.out; omega
                          clear hallf hl3
                          go_wp2_with fail
                          go_roundw
                          case rel =>
                            refine ⟨k2 + 1, by omega, by go_num, hbf, fun j h h2 hj => ?_⟩
                            by_cases e : j = k2
                            · subst e; simp only [mtAlike, hrm'.out, hfl'.out, hrb'.out, hl3'.out, Bool.and_self, BEq.rfl]
                            · exact hall2.out j h h2 (by omega)
                          case measure => simp [intOf]; omega
                  · have hflI : (((M1[k2]).fields.length : Int) == ((M2[k2]).fields.length : Int)) = false := by simp; omega
                    have hflJ : ¬ (((M1[k2]).fields.length : Int) = ((M2[k2]).fields.length : Int)) := by omega
                    go_wp2_with fail
                    refine wp_region_script (List.range 38) [] (fun w' => w' = wm.drew) [(.read, 0), (.read, 1), (.read, 2), (.read, 3), (.read, 4), (.read, 5), (.read, 6), (.read, 7), (.read, 8), (.read, 9), (.read, 10), (.read, 11), (.read, 12), (.read, 13), (.read, 14), (.read, 15), (.read, 16), (.read, 17), (.read, 18), (.read, 19), (.read, 20), (.read, 21), (.read, 22), (.read, 23), (.read, 24), (.read, 25), (.read, 26), (.read, 27), (.read, 28), (.read, 29), (.read, 30), (.read, 31), (.read, 32), (.read, 33), (.read, 34), (.read, 35), (.read, 36), (.read, 37), (.one, 38), (.pure, 39), (.pure, 40)] (by kernel_rfl) (by kernel_rfl) ?_
                    iterate 38 (first | (apply scr_r; (· rfl); (· (first | rfl | (simp [Region.wanted, yielded, go_sem]; done) | (simp [Region.wanted, yielded, go_sem, *]; done))); (· (go_simp; try rfl)); (· (simp [go_sem]; try rfl))) | (apply scr_r0; (· rfl); (· (first | rfl | (simp [Region.wanted, yielded, go_sem]; done) | (simp [Region.wanted, yielded, go_sem, *]; done))); (· (simp [go_sem]; try rfl))))
                    refine scr_one0 rfl (by simp [Region.wanted, yielded, go_sem, hflJ]) (fun h => by simp at h) (by simp [go_sem]; rfl) ?_
                    iterate 2 (first | (apply scr_pG; (· rfl); (· (first | rfl | (simp [Region.wanted, yielded, go_sem]; done) | (simp [Region.wanted, yielded, go_sem, *]; done))); (· (intro w'; go_simp; try rfl)); (· (simp [go_sem]; try rfl))) | (apply scr_p0; (· rfl); (· (first | rfl | (simp [Region.wanted, yielded, go_sem]; done) | (simp [Region.wanted, yielded, go_sem, *]; done))); (· (simp [go_sem]; try rfl))))
                    refine scr_end ?_
                    simp only [Exit.then]
                    go_wp2_with fail
                    exact hno2.out (by simp [mtAlike, hfl]) _ hER.drew
                · have hb := bytes_beq hrm
                  have hno2 := Lib.hid (hR3.out false (all2b_no k2 hlt hlt2 (by simp [mtAlike, hrm])))
                  clear hrm
                  go_wp2_with fail
                  refine wp_region_script (List.range 38) [] (fun w' => w' = wm.drew) [(.read, 0), (.read, 1), (.read, 2), (.read, 3), (.read, 4), (.read, 5), (.read, 6), (.read, 7), (.read, 8), (.read, 9), (.read, 10), (.read, 11), (.read, 12), (.read, 13), (.read, 14), (.read, 15), (.read, 16), (.read, 17), (.read, 18), (.read, 19), (.read, 20), (.read, 21), (.read, 22), (.read, 23), (.read, 24), (.read, 25), (.read, 26), (.read, 27), (.read, 28), (.read, 29), (.read, 30), (.read, 31), (.read, 32), (.read, 33), (.read, 34), (.read, 35), (.read, 36), (.read, 37), (.one, 38), (.pure, 39), (.pure, 40)] (by kernel_rfl) (by kernel_rfl) ?_
                  iterate 38 (first | (apply scr_r; (· rfl); (· (first | rfl | (simp [Region.wanted, yielded, go_sem]; done) | (simp [Region.wanted, yielded, go_sem, *]; done))); (· (go_simp; try rfl)); (· (simp [go_sem]; try rfl))) | (apply scr_r0; (· rfl); (· (first | rfl | (simp [Region.wanted, yielded, go_sem]; done) | (simp [Region.wanted, yielded, go_sem, *]; done))); (· (simp [go_sem]; try rfl))))
                  refine scr_one0 rfl (by simp [Region.wanted, yielded, go_sem]) (fun h => by simp at h) (by simp [go_sem]; rfl) ?_
                  iterate 2 (first | (apply scr_pG; (· rfl); (· (first | rfl | (simp [Region.wanted, yielded, go_sem]; done) | (simp [Region.wanted, yielded, go_sem, *]; done))); (· (intro w'; go_simp; try rfl)); (· (simp [go_sem]; try rfl))) | (apply scr_p0; (· rfl); (· (first | rfl | (simp [Region.wanted, yielded, go_sem]; done) | (simp [Region.wanted, yielded, go_sem, *]; done))); (· (simp [go_sem]; try rfl))))
                  refine scr_end ?_
                  simp only [Exit.then]
                  go_wp2_with fail
                  exact hno2.out _ hER.drew
              · have hl2 : all2b (mtAlike sv (aAlike sv d)) M1 M2 = true := (all2b_iff hm'.out).2 fun j h h2 => hall2.out j h h2 (by omega)
                have hR4 := Lib.hid (hR3.out true hl2)
                have hlt2 : ¬ k2 < M2.length := by have := hm'.out; omega
                clear hl2 hall2 hR3
                go_wp2_with fail
                exact hR4.out _ (hE.trans hbr2)
      · have hR2 := Lib.hid (hR'.out.bool (show _ = false by simp [al5, hm]))
        clear hR'
        go_wp2_with fail
        exact hR2.out _ hE
    · have hR2 := Lib.hid (hR'.out.bool (show _ = false by simp [al5, hl]))
      clear hR'
      go_wp2_with fail
      exact hR2.out _ hE
  · have hb := bytes_beq hst
    have hR2 := Lib.hid (hR'.out.bool (show _ = false by simp [al5, hst]))
    clear hst hR'
    go_wp2_with fail
    exact hR2.out _ hE

end Go.Proofs.Ytnndacgokehkpaa
