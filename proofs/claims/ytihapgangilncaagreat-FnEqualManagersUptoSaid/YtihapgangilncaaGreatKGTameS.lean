/- spec.EqualValues, EqualKeys, elemRank, EqualElems, HasPrefix, EqualPaths. spec.elemRank, EqualElems, HasPrefix, EqualPaths. spec.CleanElem, KeySorted, OrderlyElem, OrderlyPaths, tame. spec.KeySorted, OrderlyElem, OrderlyPaths; tame. spec.OrderlyValues, OrderlyElem, OrderlyPaths; tame. -/
import Derived.Test.YtihapgangilncaaGreatKGElemP
import Derived.Test.YtihapgangilncaaGreatKGEqL
import Derived.Test.YtihapgangilncaaGreatKGGrd
import Derived.IntWalk
namespace Go.Proofs.YtihapgangilncaaGreat
open Go.RowKit

set_option maxRecDepth 100000 in
set_option maxHeartbeats 2000000 in
set_option pp.maxSteps 1000000 in
set_option pp.deepTerms true in
theorem equalValues_c {w : World} {X Y : List Nat} {cs ds : List Value} {a b : V} (ha : IsV w X cs a) (hb : IsV w Y ds b) (R : Ending → World → Prop) (hR : Ends R w (.bool (V.eqP a.clean b.clean))) :
    Calls Tryz.prog 93 #[.agg cs.toArray, .agg ds.toArray] w R := by
  obtain ⟨x, rfl⟩ := ha.shape
  obtain ⟨y, rfl⟩ := hb.shape
  have ha' := Lib.hid (ha.mv ((Mv.refl _ _).less (Z := []) (by simp)))
  have hb' := Lib.hid (hb.mv ((Mv.refl _ _).less (Z := []) (by simp)))
  have hR' := Lib.hid hR
  clear hR ha hb
  simp only [Cells6.list]
  go_enter Tryz.func93, Tryz.ntmps93
  go_wp2_with fail
  refine abs2 (G := Code.wp _ _ _ _) ?_
  intro w1 hE1 hb1 hb2 hs1
  have e0 : w1.cell? ⟨w.heap.size, 0, none⟩ = some (.int .i64 x.kind) := cells_of hb1 0; have e1 : w1.cell? ⟨w.heap.size, 1, none⟩ = some (.int .i64 x.n) := cells_of hb1 1; have e2 : w1.cell? ⟨w.heap.size, 2, none⟩ = some (.float .f64 x.f) := cells_of hb1 2; have e3 : w1.cell? ⟨w.heap.size, 3, none⟩ = some (.string x.s) := cells_of hb1 3; have e4 : w1.cell? ⟨w.heap.size, 4, none⟩ = some (.slice x.ko x.kn x.kc) := cells_of hb1 4; have e5 : w1.cell? ⟨w.heap.size, 5, none⟩ = some (.slice x.o x.m x.c) := cells_of hb1 5
  have f0 : w1.cell? ⟨w.heap.size + 1, 0, none⟩ = some (.int .i64 y.kind) := cells_of hb2 0; have f1 : w1.cell? ⟨w.heap.size + 1, 1, none⟩ = some (.int .i64 y.n) := cells_of hb2 1; have f2 : w1.cell? ⟨w.heap.size + 1, 2, none⟩ = some (.float .f64 y.f) := cells_of hb2 2; have f3 : w1.cell? ⟨w.heap.size + 1, 3, none⟩ = some (.string y.s) := cells_of hb2 3; have f4 : w1.cell? ⟨w.heap.size + 1, 4, none⟩ = some (.slice y.ko y.kn y.kc) := cells_of hb2 4; have f5 : w1.cell? ⟨w.heap.size + 1, 5, none⟩ = some (.slice y.o y.m y.c) := cells_of hb2 5
  clear hb1 hb2 hs1
  have hC : Ext w1 w1.drew := (Ext.refl _).drew
  refine wp_region_script [0, 2, 5] [1] (fun w' => Ext w1 w') [(.read, 0), (.read, 2), (.one, 1), (.one, 3), (.one, 4), (.pure, 5)] (by kernel_rfl) (by kernel_rfl) ?_
  (apply scr_read'; (· rfl); (· rfl); (· first | exact hC | exact (Ext.refl _).drew); (· (intro w' hw'; have e0_ := hw'.keep e0; have e1_ := hw'.keep e1; have e2_ := hw'.keep e2; have e3_ := hw'.keep e3; have e4_ := hw'.keep e4; have e5_ := hw'.keep e5; go_simp; try rfl)); (· (simp [go_sem]; try rfl)))
  (apply scr_read'; (· rfl); (· rfl); (· first | exact hC | exact (Ext.refl _).drew); (· (intro w' hw'; have f0_ := hw'.keep f0; have f1_ := hw'.keep f1; have f2_ := hw'.keep f2; have f3_ := hw'.keep f3; have f4_ := hw'.keep f4; have f5_ := hw'.keep f5; go_simp; try rfl)); (· (simp [go_sem]; try rfl)))
  refine scr_one rfl rfl (fun K hK => ?_)
  go_simp
  refine clean_all a _ [] x.list (ha'.out.mv ((hE1.trans hC).mv _)) (Old.nil _) _ ?_
  intro w2 cs2 hE2 h2
  obtain ⟨x2, rfl⟩ := h2.shape
  have h2' := Lib.hid h2
  clear h2
  refine hK _ _ (fun _ => hC.trans hE2) ?_
  clear hK
  refine scr_one rfl rfl (fun K hK => ?_)
  go_simp
  refine clean_all b _ [] y.list (hb'.out.mv ((hE1.trans (hC.trans hE2)).mv _)) (Old.nil _) _ ?_
  intro w3 cs3 hE3 h3
  obtain ⟨y2, rfl⟩ := h3.shape
  have h3' := Lib.hid h3
  clear h3
  refine hK _ _ (fun h => by simp at h) ?_
  clear hK
  refine scr_one rfl rfl (fun K hK => ?_)
  go_simp
  refine equalPlain_c a.clean (cs := x2.list) (ds := y2.list) (h2'.out.mv (hE3.mv _)) h3'.out _ ?_
  intro w4 hE4
  refine hK _ _ (fun h => by simp at h) ?_
  clear hK
  (apply scr_pure'; (· rfl); (· rfl); (· (intro w'; go_simp; try rfl)); (· (simp [go_sem]; try rfl)))
  refine scr_end ?_
  simp only [Exit.then]
  go_wp2_with fail
  exact hR'.out _ (hE1.trans (hC.trans (hE2.trans (hE3.trans hE4))))

def eqKv (p q : ByteArray × V) : Bool := p.1 == q.1 && V.eqP p.2.clean q.2.clean
def eqKeys (a b : EL) : Bool := listB eqKv (a.keys.zip a.l) (b.keys.zip b.l)

set_option maxRecDepth 100000 in
set_option maxHeartbeats 4000000 in
set_option pp.maxSteps 1000000 in
set_option pp.deepTerms true in
theorem equalKeys_c {w : World} {X Y : List Nat} {cs ds : List Value} {a b : EL} (ha : kEl.is w X cs a) (hb : kEl.is w Y ds b) (R : Ending → World → Prop) (hR : Ends R w (.bool (eqKeys a b))) :
    Calls Tryz.prog 92 #[.agg cs.toArray, .agg ds.toArray] w R := by
  obtain ⟨kind, s, keys, l, v, n⟩ := a
  obtain ⟨kind2, s2, keys2, l2, v2, n2⟩ := b
  obtain ⟨vk, vl, vs, rfl, -, -, -, hks, hl, hv⟩ := ha
  obtain ⟨vk2, vl2, vs2, rfl, -, -, -, hks2, hl2, hv2⟩ := hb
  dsimp only at hks hl hv hks2 hl2 hv2 hR ⊢
  obtain ⟨x, rfl⟩ := hv.shape
  obtain ⟨y, rfl⟩ := hv2.shape
  obtain ⟨ko, kc, kb, koff, rfl, k2, k3, -, -⟩ := id hks.ex
  obtain ⟨o, c, b, off, rfl, c2, c3, -, -⟩ := id hl.ex
  obtain ⟨ko2, kc2, kb2, koff2, rfl, j2, j3, -, -⟩ := id hks2.ex
  obtain ⟨o2, d, b2, off2, rfl, d2, d3, -, -⟩ := id hl2.ex
  have hks' := Lib.hid hks
  have hl' := Lib.hid hl
  have hks2' := Lib.hid hks2
  have hl2' := Lib.hid hl2
  have hR' := Lib.hid hR
  clear hR hks hl hv hks2 hl2 hv2
  simp only [Cells6.list, List.cons_append, List.nil_append]
  go_enter Tryz.func92, Tryz.ntmps92
  go_wp2_with fail
  refine abs2 (G := Code.wp _ _ _ _) ?_
  intro w1 hE1 hb1 hb2 hs1
  have e0 : w1.cell? ⟨w.heap.size, 0, none⟩ = some (.int .i64 kind) := cells_of hb1 0; have e1 : w1.cell? ⟨w.heap.size, 1, none⟩ = some (.string s) := cells_of hb1 1; have e2 : w1.cell? ⟨w.heap.size, 2, none⟩ = some (.slice ko keys.length kc) := cells_of hb1 2; have e3 : w1.cell? ⟨w.heap.size, 3, none⟩ = some (.slice o l.length c) := cells_of hb1 3; have e4 : w1.cell? ⟨w.heap.size, 4, none⟩ = some (.int .i64 x.kind) := cells_of hb1 4; have e5 : w1.cell? ⟨w.heap.size, 5, none⟩ = some (.int .i64 x.n) := cells_of hb1 5; have e6 : w1.cell? ⟨w.heap.size, 6, none⟩ = some (.float .f64 x.f) := cells_of hb1 6; have e7 : w1.cell? ⟨w.heap.size, 7, none⟩ = some (.string x.s) := cells_of hb1 7; have e8 : w1.cell? ⟨w.heap.size, 8, none⟩ = some (.slice x.ko x.kn x.kc) := cells_of hb1 8; have e9 : w1.cell? ⟨w.heap.size, 9, none⟩ = some (.slice x.o x.m x.c) := cells_of hb1 9; have e10 : w1.cell? ⟨w.heap.size, 10, none⟩ = some (.int .i64 n) := cells_of hb1 10
  have f0 : w1.cell? ⟨w.heap.size + 1, 0, none⟩ = some (.int .i64 kind2) := cells_of hb2 0; have f1 : w1.cell? ⟨w.heap.size + 1, 1, none⟩ = some (.string s2) := cells_of hb2 1; have f2 : w1.cell? ⟨w.heap.size + 1, 2, none⟩ = some (.slice ko2 keys2.length kc2) := cells_of hb2 2; have f3 : w1.cell? ⟨w.heap.size + 1, 3, none⟩ = some (.slice o2 l2.length d) := cells_of hb2 3; have f4 : w1.cell? ⟨w.heap.size + 1, 4, none⟩ = some (.int .i64 y.kind) := cells_of hb2 4; have f5 : w1.cell? ⟨w.heap.size + 1, 5, none⟩ = some (.int .i64 y.n) := cells_of hb2 5; have f6 : w1.cell? ⟨w.heap.size + 1, 6, none⟩ = some (.float .f64 y.f) := cells_of hb2 6; have f7 : w1.cell? ⟨w.heap.size + 1, 7, none⟩ = some (.string y.s) := cells_of hb2 7; have f8 : w1.cell? ⟨w.heap.size + 1, 8, none⟩ = some (.slice y.ko y.kn y.kc) := cells_of hb2 8; have f9 : w1.cell? ⟨w.heap.size + 1, 9, none⟩ = some (.slice y.o y.m y.c) := cells_of hb2 9; have f10 : w1.cell? ⟨w.heap.size + 1, 10, none⟩ = some (.int .i64 n2) := cells_of hb2 10
  clear hb1 hb2 hs1 e0 e1 e4 e5 e6 e7 e8 e9 e10 f0 f1 f4 f5 f6 f7 f8 f9 f10
  obtain ⟨N, hN⟩ : ∃ N, (keys.zip l).length = N := ⟨_, rfl⟩
  obtain ⟨M, hM⟩ : ∃ M, (keys2.zip l2).length = M := ⟨_, rfl⟩
  have hm1 : (if l.length < keys.length then (l.length : Int) else (keys.length : Int)) = (N : Int) := by rw [← hN, List.length_zip]; split <;> omega
  have hm2 : (if l2.length < keys2.length then (l2.length : Int) else (keys2.length : Int)) = (M : Int) := by rw [← hM, List.length_zip]; split <;> omega
  have hNk : N ≤ keys.length := by rw [← hN, List.length_zip]; exact Nat.min_le_left _ _
  have hNl : N ≤ l.length := by rw [← hN, List.length_zip]; exact Nat.min_le_right _ _
  have hMk : M ≤ keys2.length := by rw [← hM, List.length_zip]; exact Nat.min_le_left _ _
  have hMl : M ≤ l2.length := by rw [← hM, List.length_zip]; exact Nat.min_le_right _ _
  have hN' := Lib.hid hN
  have hM' := Lib.hid hM
  clear hN hM
  refine wp_region_script (List.range 16) [] (fun w' => w' = w1.drew) [(.read, 0), (.read, 1), (.read, 2), (.read, 3), (.read, 4), (.read, 5), (.read, 6), (.read, 7), (.read, 8), (.read, 9), (.read, 10), (.read, 11), (.read, 12), (.read, 13), (.read, 14), (.read, 15)] (by kernel_rfl) (by kernel_rfl) ?_
  iterate 16 (first | (apply scr_r; (· rfl); (· (first | rfl | (simp [Region.wanted, yielded, go_sem]; done) | (simp [Region.wanted, yielded, go_sem, *]; done))); (· (go_simp; try rfl)); (· (simp [go_sem]; try rfl))) | (apply scr_r0; (· rfl); (· (first | rfl | (simp [Region.wanted, yielded, go_sem]; done) | (simp [Region.wanted, yielded, go_sem, *]; done))); (· (simp [go_sem]; try rfl))))
  refine scr_end ?_
  simp only [Exit.then]
  have hm1' := Lib.hid hm1
  have hm2' := Lib.hid hm2
  clear hm1 hm2
  by_cases hNM : N = M
  rotate_left
  · have hnm : ((N : Int) != (M : Int)) = true := by rw [bne_iff_ne]; omega
    have hNM' := Lib.hid hNM
    clear hNM
    go_wp2_with fail
    refine hR'.out.bool ?_ _ hE1.drew
    simp [eqKeys, listB, hN'.out, hM'.out, hNM'.out]
  subst hNM
  have hlen : (keys.zip l).length = (keys2.zip l2).length := by rw [hN'.out, hM'.out]
  have hlen' := Lib.hid hlen
  clear hlen
  have e2' := Lib.hid e2
  have e3' := Lib.hid e3
  have f2' := Lib.hid f2
  have f3' := Lib.hid f3
  clear e2 e3 f2 f3
  go_wp2_with fail
  go_loopw [7] (fun i wr => ∃ k : Nat, k ≤ N ∧ i = .int .i64 k ∧ Ext w1 wr ∧ Hid (∀ j (h : j < (keys.zip l).length) (h2 : j < (keys2.zip l2).length), j < k → eqKv (keys.zip l)[j] (keys2.zip l2)[j] = true)) (fun i _ => N - (intOf i).toNat)
  case atStart => exact ⟨0, Nat.zero_le _, rfl, (Ext.refl _).drew, Lib.hid fun j _ _ hj => by omega⟩
  case round =>
    obtain ⟨k, hk, rfl, hE, hall⟩ := hrel
    rename World => wr
    have e2 := hE.keep e2'.out
    have e3 := hE.keep e3'.out
    have f2 := hE.keep f2'.out
    have f3 := hE.keep f3'.out
    have hEE := hE1.trans hE
    by_cases hlt : k < N
    · have hkk : k < keys.length := by omega
      have hkl : k < l.length := by omega
      have hkk2 : k < keys2.length := by omega
      have hkl2 : k < l2.length := by omega
      obtain ⟨_, _, _, _, e, -, -, k4, k5⟩ := hks'.out.ex
      cases e
      obtain ⟨_, _, _, _, e, -, -, m4, m5⟩ := hks2'.out.ex
      cases e
      obtain ⟨_, _, _, _, e, -, -, h4, h5⟩ := hl'.out.ex
      cases e
      obtain ⟨_, _, _, _, e, -, -, g4, g5⟩ := hl2'.out.ex
      cases e
      obtain ⟨rfl, -⟩ := k4 (by omega)
      obtain ⟨rfl, -⟩ := m4 (by omega)
      obtain ⟨rfl, -⟩ := h4 (by omega)
      obtain ⟨rfl, -⟩ := g4 (by omega)
      have q0 := hEE.keep (k5 k hkk).1
      have q1 := hEE.keep (m5 k hkk2).1
      have hk1 : keys.getD k ByteArray.empty = keys[k] := by simp [hkk]
      have hk2 : keys2.getD k ByteArray.empty = keys2[k] := by simp [hkk2]
      rw [hk1] at q0
      rw [hk2] at q1
      obtain ⟨a, a0, a1, a2, a3, a4, a5, hva⟩ := h5 k hkl
      obtain ⟨b, b0, b1, b2, b3, b4, b5, hvb⟩ := g5 k hkl2
      replace a0 := hEE.keep a0; replace a1 := hEE.keep a1; replace a2 := hEE.keep a2; replace a3 := hEE.keep a3; replace a4 := hEE.keep a4; replace a5 := hEE.keep a5; replace b0 := hEE.keep b0; replace b1 := hEE.keep b1; replace b2 := hEE.keep b2; replace b3 := hEE.keep b3; replace b4 := hEE.keep b4; replace b5 := hEE.keep b5
      have hva' := Lib.hid hva
      have hvb' := Lib.hid hvb
      have hi1 : (k : Int) < (keys.length : Int) := by omega
      have hi2 : (k : Int) < (l.length : Int) := by omega
      have hi3 : (k : Int) < (keys2.length : Int) := by omega
      have hi4 : (k : Int) < (l2.length : Int) := by omega
      have hi5 : (k : Int) < (N : Int) := by omega
      have hkm : (k : Int) + 1 ≤ 9223372036854775807 := by omega
      clear k5 m5 k4 m4 h4 h5 g4 g5 hk1 hk2 hva hvb
      have hz : ∀ (h : k < (keys.zip l).length) (h2 : k < (keys2.zip l2).length), eqKv (keys.zip l)[k] (keys2.zip l2)[k] = (keys[k] == keys2[k] && V.eqP (l[k]).clean (l2[k]).clean) := fun h h2 => by simp [eqKv]
      have hz' := Lib.hid hz
      clear hz
      by_cases hke : keys[k] = keys2[k]
      · have hkt : ((keys[k]).toList == (keys2[k]).toList) = true := by rw [hke]; simp
        have hke' := Lib.hid hke
        clear hke
        go_wp2_with fail
        refine wp_region_script [0, 1, 2, 3, 4, 5, 6, 7, 8, 9, 10, 11, 12, 13, 14, 15, 16, 17, 18, 19, 20, 21, 23, 24] [] (fun w' => w' = wr.drew) [(.read, 0), (.read, 1), (.read, 2), (.read, 3), (.read, 4), (.read, 5), (.read, 6), (.read, 7), (.read, 8), (.read, 9), (.read, 10), (.read, 11), (.read, 12), (.read, 13), (.read, 14), (.read, 15), (.read, 16), (.read, 17), (.read, 18), (.read, 19), (.read, 20), (.read, 21), (.one, 22), (.pure, 23), (.pure, 24)] (by kernel_rfl) (by kernel_rfl) ?_
        iterate 22 (first | (apply scr_r; (· rfl); (· (first | rfl | (simp [Region.wanted, yielded, go_sem]; done) | (simp [Region.wanted, yielded, go_sem, *]; done))); (· (go_simp; try rfl)); (· (simp [go_sem]; try rfl))) | (apply scr_r0; (· rfl); (· (first | rfl | (simp [Region.wanted, yielded, go_sem]; done) | (simp [Region.wanted, yielded, go_sem, *]; done))); (· (simp [go_sem]; try rfl))))
        refine scr_oneG rfl (by simp [Region.wanted, yielded, go_sem]) (fun K hK => ?_)
        go_simp
        refine equalValues_c (cs := a.list) (ds := b.list) (hva'.out.mv (hEE.drew.mv _)) (hvb'.out.mv (hEE.drew.mv _)) _ ?_
        obtain ⟨bb, hbb⟩ : ∃ bb, V.eqP (l[k]).clean (l2[k]).clean = bb := ⟨_, rfl⟩
        rw [hbb]
        intro w3 hE3
        refine hK _ _ (fun h => by simp at h) ?_
        clear hK
        have hbb' := Lib.hid hbb
        clear hbb
        cases bb
        all_goals
          (first | (apply scr_pG; (· rfl); (· (first | rfl | (simp [Region.wanted, yielded, go_sem]; done) | (simp [Region.wanted, yielded, go_sem, *]; done))); (· (intro w'; go_simp; try rfl)); (· (simp [go_sem]; try rfl))) | (apply scr_p0; (· rfl); (· (first | rfl | (simp [Region.wanted, yielded, go_sem]; done) | (simp [Region.wanted, yielded, go_sem, *]; done))); (· (simp [go_sem]; try rfl))))
          (first | (apply scr_pG; (· rfl); (· (first | rfl | (simp [Region.wanted, yielded, go_sem]; done) | (simp [Region.wanted, yielded, go_sem, *]; done))); (· (intro w'; go_simp; try rfl)); (· (simp [go_sem]; try rfl))) | (apply scr_p0; (· rfl); (· (first | rfl | (simp [Region.wanted, yielded, go_sem]; done) | (simp [Region.wanted, yielded, go_sem, *]; done))); (· (simp [go_sem]; try rfl))))
          refine scr_end ?_
          simp only [Exit.then]
          go_wp2_with fail
        · refine hR'.out.bool ?_ _ (hEE.drew.trans hE3)
          have : pairB eqKv (keys.zip l) (keys2.zip l2) = false := by
            rw [Bool.eq_false_iff]
            intro h
            have := (pairB_iff hlen'.out).1 h k (by rw [hN'.out]; exact hlt) (by rw [hM'.out]; exact hlt)
            rw [hz'.out, hbb'.out] at this
            simp at this
          simp [eqKeys, listB, this]
        · go_roundw
          case rel =>
            refine ⟨k + 1, by omega, by go_num, hE.drew.trans hE3, Lib.hid fun j h h2 hj => ?_⟩
            by_cases e : j = k
            · subst e; rw [hz'.out, hbb'.out, hke'.out]; simp
            · exact hall.out j h h2 (by omega)
          case measure => simp [intOf]; omega
      · have hkt : ((keys[k]).toList == (keys2[k]).toList) = false := beq_eq_false_iff_ne.2 fun h => hke (toList_inj h)
        have hke' := Lib.hid hke
        clear hke
        go_wp2_with fail
        refine wp_region_script [0, 1, 2, 3, 4, 5, 6, 7, 8, 9, 10, 11, 12, 13, 14, 15, 16, 17, 18, 19, 20, 21, 23, 24] [] (fun w' => w' = wr.drew) [(.read, 0), (.read, 1), (.read, 2), (.read, 3), (.read, 4), (.read, 5), (.read, 6), (.read, 7), (.read, 8), (.read, 9), (.read, 10), (.read, 11), (.read, 12), (.read, 13), (.read, 14), (.read, 15), (.read, 16), (.read, 17), (.read, 18), (.read, 19), (.read, 20), (.read, 21), (.one, 22), (.pure, 23), (.pure, 24)] (by kernel_rfl) (by kernel_rfl) ?_
        iterate 22 (first | (apply scr_r; (· rfl); (· (first | rfl | (simp [Region.wanted, yielded, go_sem]; done) | (simp [Region.wanted, yielded, go_sem, *]; done))); (· (go_simp; try rfl)); (· (simp [go_sem]; try rfl))) | (apply scr_r0; (· rfl); (· (first | rfl | (simp [Region.wanted, yielded, go_sem]; done) | (simp [Region.wanted, yielded, go_sem, *]; done))); (· (simp [go_sem]; try rfl))))
        refine scr_one0 rfl (by simp [Region.wanted, yielded, go_sem]) (fun h => by simp at h) (by simp [go_sem]; rfl) ?_
        (first | (apply scr_pG; (· rfl); (· (first | rfl | (simp [Region.wanted, yielded, go_sem]; done) | (simp [Region.wanted, yielded, go_sem, *]; done))); (· (intro w'; go_simp; try rfl)); (· (simp [go_sem]; try rfl))) | (apply scr_p0; (· rfl); (· (first | rfl | (simp [Region.wanted, yielded, go_sem]; done) | (simp [Region.wanted, yielded, go_sem, *]; done))); (· (simp [go_sem]; try rfl))))
        (first | (apply scr_pG; (· rfl); (· (first | rfl | (simp [Region.wanted, yielded, go_sem]; done) | (simp [Region.wanted, yielded, go_sem, *]; done))); (· (intro w'; go_simp; try rfl)); (· (simp [go_sem]; try rfl))) | (apply scr_p0; (· rfl); (· (first | rfl | (simp [Region.wanted, yielded, go_sem]; done) | (simp [Region.wanted, yielded, go_sem, *]; done))); (· (simp [go_sem]; try rfl))))
        refine scr_end ?_
        simp only [Exit.then]
        go_wp2_with fail
        refine hR'.out.bool ?_ _ hEE.drew
        have : pairB eqKv (keys.zip l) (keys2.zip l2) = false := by
          rw [Bool.eq_false_iff]
          intro h
          have := (pairB_iff hlen'.out).1 h k (by rw [hN'.out]; exact hlt) (by rw [hM'.out]; exact hlt)
          rw [hz'.out] at this
          simp [hke'.out] at this
        simp [eqKeys, listB, this]
    · have hp : pairB eqKv (keys.zip l) (keys2.zip l2) = true := (pairB_iff hlen'.out).2 fun j h h2 => hall.out j h h2 (by rw [hN'.out] at h; omega)
      have hp' := Lib.hid hp
      have hi5 : ¬ (k : Int) < (N : Int) := by omega
      clear hp
      go_wp2_with fail
      exact hR'.out.bool (by simp [eqKeys, listB, hp'.out, hlen'.out]) _ hEE
end Go.Proofs.YtihapgangilncaaGreat

namespace Go.Proofs.YtihapgangilncaaGreat
open Go.RowKit

def rankOf (k : Int) : Int := if k = 1 ∨ k = 2 ∨ k = 3 then k else 0
def eqEl (a b : EL) : Bool := if rankOf a.kind = rankOf b.kind then (if rankOf a.kind = 1 then eqKeys a b else if rankOf a.kind = 2 then V.eqP a.v.clean b.v.clean else if rankOf a.kind = 3 then a.n == b.n else a.s == b.s) else false

set_option maxRecDepth 100000 in
set_option maxHeartbeats 2000000 in
theorem elemRank_c {w : World} {kind n : Int} {s : ByteArray} {vk vl x0 x1 x2 x3 x4 x5 : Value} (R : Ending → World → Prop) (hR : Ends R w (.int .i64 (rankOf kind))) :
    Calls Tryz.prog 91 #[.agg #[.int .i64 kind, .string s, vk, vl, x0, x1, x2, x3, x4, x5, .int .i64 n]] w R := by
  have hR' := Lib.hid hR
  clear hR
  have hk : kind = 1 ∨ kind = 2 ∨ kind = 3 ∨ ((kind == 1) = false ∧ (kind == 2) = false ∧ (kind == 3) = false) := by
    by_cases h1 : kind = 1 <;> by_cases h2 : kind = 2 <;> by_cases h3 : kind = 3 <;> simp [h1, h2, h3]
  rcases hk with rfl | rfl | rfl | ⟨q1, q2, q3⟩
  all_goals
    go_enter Tryz.func91, Tryz.ntmps91
    go_wp2_with fail
  · exact hR'.out.int (by simp [rankOf]) _ (.alloc _ _)
  · exact hR'.out.int (by simp [rankOf]) _ (.alloc _ _)
  · exact hR'.out.int (by simp [rankOf]) _ (.alloc _ _)
  · exact hR'.out.int (by simp at q1 q2 q3; simp [rankOf, q1, q2, q3]) _ (.alloc _ _)

set_option maxRecDepth 100000 in
set_option maxHeartbeats 4000000 in
set_option pp.maxSteps 1000000 in
set_option pp.deepTerms true in
theorem equalElems_c {w : World} {X Y : List Nat} {cs ds : List Value} {a b : EL} (ha : kEl.is w X cs a) (hb : kEl.is w Y ds b) (R : Ending → World → Prop) (hR : Ends R w (.bool (eqEl a b))) :
    Calls Tryz.prog 47 #[.agg cs.toArray, .agg ds.toArray] w R := by
  have ha' := Lib.hid ha
  have hb' := Lib.hid hb
  obtain ⟨kind, s, keys, l, v, n⟩ := a
  obtain ⟨kind2, s2, keys2, l2, v2, n2⟩ := b
  obtain ⟨vk, vl, vs, rfl, -, -, -, hks, hl, hv⟩ := ha
  obtain ⟨vk2, vl2, vs2, rfl, -, -, -, hks2, hl2, hv2⟩ := hb
  dsimp only at hks hl hv hks2 hl2 hv2 hR ⊢
  obtain ⟨x, rfl⟩ := hv.shape
  obtain ⟨y, rfl⟩ := hv2.shape
  obtain ⟨ko, kc, kb, koff, rfl, k2, k3, -, -⟩ := id hks.ex
  obtain ⟨o, c, b, off, rfl, c2, c3, -, -⟩ := id hl.ex
  obtain ⟨ko2, kc2, kb2, koff2, rfl, j2, j3, -, -⟩ := id hks2.ex
  obtain ⟨o2, d, b2, off2, rfl, d2, d3, -, -⟩ := id hl2.ex
  have hv' := Lib.hid hv
  have hv2' := Lib.hid hv2
  have hR' := Lib.hid hR
  clear hR hks hl hv hks2 hl2 hv2
  simp only [Cells6.list, List.cons_append, List.nil_append] at ha' hb' ⊢
  go_enter Tryz.func47, Tryz.ntmps47
  go_wp2_with fail
  refine abs2 (G := Code.wp _ _ _ _) ?_
  intro w1 hE1 hb1 hb2 hs1
  have e0 : w1.cell? ⟨w.heap.size, 0, none⟩ = some (.int .i64 kind) := cells_of hb1 0; have e1 : w1.cell? ⟨w.heap.size, 1, none⟩ = some (.string s) := cells_of hb1 1; have e2 : w1.cell? ⟨w.heap.size, 2, none⟩ = some (.slice ko keys.length kc) := cells_of hb1 2; have e3 : w1.cell? ⟨w.heap.size, 3, none⟩ = some (.slice o l.length c) := cells_of hb1 3; have e4 : w1.cell? ⟨w.heap.size, 4, none⟩ = some (.int .i64 x.kind) := cells_of hb1 4; have e5 : w1.cell? ⟨w.heap.size, 5, none⟩ = some (.int .i64 x.n) := cells_of hb1 5; have e6 : w1.cell? ⟨w.heap.size, 6, none⟩ = some (.float .f64 x.f) := cells_of hb1 6; have e7 : w1.cell? ⟨w.heap.size, 7, none⟩ = some (.string x.s) := cells_of hb1 7; have e8 : w1.cell? ⟨w.heap.size, 8, none⟩ = some (.slice x.ko x.kn x.kc) := cells_of hb1 8; have e9 : w1.cell? ⟨w.heap.size, 9, none⟩ = some (.slice x.o x.m x.c) := cells_of hb1 9; have e10 : w1.cell? ⟨w.heap.size, 10, none⟩ = some (.int .i64 n) := cells_of hb1 10
  have f0 : w1.cell? ⟨w.heap.size + 1, 0, none⟩ = some (.int .i64 kind2) := cells_of hb2 0; have f1 : w1.cell? ⟨w.heap.size + 1, 1, none⟩ = some (.string s2) := cells_of hb2 1; have f2 : w1.cell? ⟨w.heap.size + 1, 2, none⟩ = some (.slice ko2 keys2.length kc2) := cells_of hb2 2; have f3 : w1.cell? ⟨w.heap.size + 1, 3, none⟩ = some (.slice o2 l2.length d) := cells_of hb2 3; have f4 : w1.cell? ⟨w.heap.size + 1, 4, none⟩ = some (.int .i64 y.kind) := cells_of hb2 4; have f5 : w1.cell? ⟨w.heap.size + 1, 5, none⟩ = some (.int .i64 y.n) := cells_of hb2 5; have f6 : w1.cell? ⟨w.heap.size + 1, 6, none⟩ = some (.float .f64 y.f) := cells_of hb2 6; have f7 : w1.cell? ⟨w.heap.size + 1, 7, none⟩ = some (.string y.s) := cells_of hb2 7; have f8 : w1.cell? ⟨w.heap.size + 1, 8, none⟩ = some (.slice y.ko y.kn y.kc) := cells_of hb2 8; have f9 : w1.cell? ⟨w.heap.size + 1, 9, none⟩ = some (.slice y.o y.m y.c) := cells_of hb2 9; have f10 : w1.cell? ⟨w.heap.size + 1, 10, none⟩ = some (.int .i64 n2) := cells_of hb2 10
  clear hb1 hb2 hs1
  have hC : Ext w1 w1.drew := (Ext.refl _).drew
  refine wp_region_script [0, 2, 4] [1] (fun w' => Ext w1 w') [(.read, 0), (.read, 2), (.one, 1), (.one, 3), (.pure, 4)] (by kernel_rfl) (by kernel_rfl) ?_
  (apply scr_read'; (· rfl); (· rfl); (· first | exact hC | exact (Ext.refl _).drew); (· (intro w' hw'; have e0_ := hw'.keep e0; have e1_ := hw'.keep e1; have e2_ := hw'.keep e2; have e3_ := hw'.keep e3; have e4_ := hw'.keep e4; have e5_ := hw'.keep e5; have e6_ := hw'.keep e6; have e7_ := hw'.keep e7; have e8_ := hw'.keep e8; have e9_ := hw'.keep e9; have e10_ := hw'.keep e10; go_simp; try rfl)); (· (simp [go_sem]; try rfl)))
  (apply scr_read'; (· rfl); (· rfl); (· first | exact hC | exact (Ext.refl _).drew); (· (intro w' hw'; have f0_ := hw'.keep f0; have f1_ := hw'.keep f1; have f2_ := hw'.keep f2; have f3_ := hw'.keep f3; have f4_ := hw'.keep f4; have f5_ := hw'.keep f5; have f6_ := hw'.keep f6; have f7_ := hw'.keep f7; have f8_ := hw'.keep f8; have f9_ := hw'.keep f9; have f10_ := hw'.keep f10; go_simp; try rfl)); (· (simp [go_sem]; try rfl)))
  refine scr_one rfl rfl (fun K hK => ?_)
  go_simp
  refine elemRank_c _ ?_
  intro w2 hE2
  refine hK _ _ (fun _ => hC.trans hE2) ?_
  clear hK
  refine scr_one rfl rfl (fun K hK => ?_)
  go_simp
  refine elemRank_c _ ?_
  intro w3 hE3
  refine hK _ _ (fun h => by simp at h) ?_
  clear hK
  have hE4 : Ext w1 w3 := hC.trans (hE2.trans hE3)
  replace e0 := hE4.keep e0; replace e1 := hE4.keep e1; replace e2 := hE4.keep e2; replace e3 := hE4.keep e3; replace e4 := hE4.keep e4; replace e5 := hE4.keep e5; replace e6 := hE4.keep e6; replace e7 := hE4.keep e7; replace e8 := hE4.keep e8; replace e9 := hE4.keep e9; replace e10 := hE4.keep e10; replace f0 := hE4.keep f0; replace f1 := hE4.keep f1; replace f2 := hE4.keep f2; replace f3 := hE4.keep f3; replace f4 := hE4.keep f4; replace f5 := hE4.keep f5; replace f6 := hE4.keep f6; replace f7 := hE4.keep f7; replace f8 := hE4.keep f8; replace f9 := hE4.keep f9; replace f10 := hE4.keep f10
  have hA := hE1.trans hE4
  clear hE4 hE1 hE2 hE3 hC
  by_cases hrk : rankOf kind = rankOf kind2
  rotate_left
  · have hrb : (rankOf kind != rankOf kind2) = true := by rw [bne_iff_ne]; exact hrk
    have hrk' := Lib.hid hrk
    clear hrk
    (apply scr_pure'; (· rfl); (· rfl); (· (intro w'; go_simp; try rfl)); (· (simp [go_sem]; try rfl)))
    refine scr_end ?_
    simp only [Exit.then]
    go_wp2_with fail
    exact hR'.out.bool (by simp [eqEl, hrk'.out]) _ hA
  have hrb : (rankOf kind != rankOf kind2) = false := by simpa using hrk
  have hrk' := Lib.hid hrk
  clear hrk
  (apply scr_pure'; (· rfl); (· rfl); (· (intro w'; go_simp; try rfl)); (· (simp [go_sem]; try rfl)))
  refine scr_end ?_
  simp only [Exit.then]
  go_wp2_with fail
  refine elemRank_c _ ?_
  intro w4 hE4
  replace e0 := hE4.keep e0; replace e1 := hE4.keep e1; replace e2 := hE4.keep e2; replace e3 := hE4.keep e3; replace e4 := hE4.keep e4; replace e5 := hE4.keep e5; replace e6 := hE4.keep e6; replace e7 := hE4.keep e7; replace e8 := hE4.keep e8; replace e9 := hE4.keep e9; replace e10 := hE4.keep e10; replace f0 := hE4.keep f0; replace f1 := hE4.keep f1; replace f2 := hE4.keep f2; replace f3 := hE4.keep f3; replace f4 := hE4.keep f4; replace f5 := hE4.keep f5; replace f6 := hE4.keep f6; replace f7 := hE4.keep f7; replace f8 := hE4.keep f8; replace f9 := hE4.keep f9; replace f10 := hE4.keep f10
  replace hA := hA.trans hE4
  clear hE4
  dsimp only
  have hk : rankOf kind = 1 ∨ rankOf kind = 2 ∨ rankOf kind = 3 ∨ ((rankOf kind == 1) = false ∧ (rankOf kind == 2) = false ∧ (rankOf kind == 3) = false) := by
    by_cases h1 : rankOf kind = 1 <;> by_cases h2 : rankOf kind = 2 <;> by_cases h3 : rankOf kind = 3 <;> simp [h1, h2, h3]
  rcases hk with hk | hk | hk | ⟨q1, q2, q3⟩
  · have hk' := Lib.hid hk
    rw [hk]
    clear hk hrb
    go_wp2_with fail
    refine equalKeys_c (kEl.mv ha'.out (hA.mv _)) (kEl.mv hb'.out (hA.mv _)) _ ?_
    intro w5 hE5
    dsimp only
    go_wp2_with fail
    exact hR'.out.bool (by rw [eqEl, if_pos hrk'.out, if_pos hk'.out]) _ (hA.trans hE5)
  · have hk' := Lib.hid hk
    rw [hk]
    clear hk hrb
    go_wp2_with fail
    refine equalValues_c (cs := x.list) (ds := y.list) (hv'.out.mv (hA.mv _)) (hv2'.out.mv (hA.mv _)) _ ?_
    intro w5 hE5
    dsimp only
    go_wp2_with fail
    exact hR'.out.bool (by rw [eqEl, if_pos hrk'.out, if_neg (by rw [hk'.out]; decide), if_pos hk'.out]) _ (hA.trans hE5)
  · have hk' := Lib.hid hk
    rw [hk]
    clear hk hrb
    go_wp2_with fail
    exact hR'.out.bool (by rw [eqEl, if_pos hrk'.out, if_neg (by rw [hk'.out]; decide), if_neg (by rw [hk'.out]; decide), if_pos hk'.out]) _ hA
  · clear hrb
    go_wp2_with fail
    exact hR'.out.bool (by simp at q1 q2 q3; rw [eqEl, if_pos hrk'.out, if_neg q1, if_neg q2, if_neg q3]; exact beq_bytes _ _) _ hA

set_option maxRecDepth 100000 in
set_option maxHeartbeats 4000000 in
set_option pp.maxSteps 1000000 in
set_option pp.deepTerms true in
theorem hasPrefix_c {w : World} {X Y : List Nat} {va vb : Value} {p q : List EL} (ha : IsSl kEl 168 w X va p) (hb : IsSl kEl 168 w Y vb q) (hlen : p.length = q.length) (R : Ending → World → Prop) (hR : Ends R w (.bool (pairB eqEl p q))) :
    Calls Tryz.prog 105 #[va, vb] w R := by
  obtain ⟨o, c, b, off, rfl, l2, l3, l4, l5⟩ := id ha.ex
  obtain ⟨o2, c2, b2, off2, rfl, m2, m3, m4, m5⟩ := id hb.ex
  have l4' := Lib.hid l4
  have l5' := Lib.hid l5
  have m4' := Lib.hid m4
  have m5' := Lib.hid m5
  have hR' := Lib.hid hR
  have hll : ¬ (p.length : Int) < (q.length : Int) := by omega
  have hlen' := Lib.hid hlen
  clear hR ha hb l4 l5 m4 m5 hlen
  go_enter Tryz.func105, Tryz.ntmps105
  go_wp2_with fail
  go_loopw [13] (fun i wr => ∃ k : Nat, k ≤ q.length ∧ i = .int .i64 k ∧ Ext w wr ∧ Hid (∀ j (h : j < p.length) (h2 : j < q.length), j < k → eqEl p[j] q[j] = true)) (fun i _ => q.length - (intOf i).toNat)
  case atStart => exact ⟨0, Nat.zero_le _, rfl, Ext.refl _, Lib.hid fun j _ _ hj => by omega⟩
  case round =>
    obtain ⟨k, hk, rfl, hEr, hall⟩ := hrel
    rename World => wr
    by_cases hlt2 : k < q.length
    · have hlt : k < p.length := by have := hlen'.out; omega
      obtain ⟨cs, hc, hcs⟩ := l5'.out k hlt
      obtain ⟨ds, hd, hds⟩ := m5'.out k hlt2
      obtain ⟨rfl, -⟩ := l4'.out (by omega)
      obtain ⟨rfl, -⟩ := m4'.out (by omega)
      obtain ⟨x0, x1, x2, x3, x4, x5, x6, x7, x8, x9, x10, rfl⟩ := kEl_eleven hcs
      obtain ⟨y0, y1, y2, y3, y4, y5, y6, y7, y8, y9, y10, rfl⟩ := kEl_eleven hds
      have q0 := hEr.keep (hc 0 (by decide))
      have q1 := hEr.keep (hc 1 (by decide))
      have q2 := hEr.keep (hc 2 (by decide))
      have q3 := hEr.keep (hc 3 (by decide))
      have q4 := hEr.keep (hc 4 (by decide))
      have q5 := hEr.keep (hc 5 (by decide))
      have q6 := hEr.keep (hc 6 (by decide))
      have q7 := hEr.keep (hc 7 (by decide))
      have q8 := hEr.keep (hc 8 (by decide))
      have q9 := hEr.keep (hc 9 (by decide))
      have q10 := hEr.keep (hc 10 (by decide))
      have r0 := hEr.keep (hd 0 (by decide))
      have r1 := hEr.keep (hd 1 (by decide))
      have r2 := hEr.keep (hd 2 (by decide))
      have r3 := hEr.keep (hd 3 (by decide))
      have r4 := hEr.keep (hd 4 (by decide))
      have r5 := hEr.keep (hd 5 (by decide))
      have r6 := hEr.keep (hd 6 (by decide))
      have r7 := hEr.keep (hd 7 (by decide))
      have r8 := hEr.keep (hd 8 (by decide))
      have r9 := hEr.keep (hd 9 (by decide))
      have r10 := hEr.keep (hd 10 (by decide))
      simp only [show kEl.size = 11 from rfl, Nat.add_zero] at q0 q1 q2 q3 q4 q5 q6 q7 q8 q9 q10 r0 r1 r2 r3 r4 r5 r6 r7 r8 r9 r10
      have hv' := Lib.hid hcs
      have hu' := Lib.hid hds
      have hi1 : (k : Int) < (p.length : Int) := by omega
      have hi2 : (k : Int) < (q.length : Int) := by omega
      have hkm : (k : Int) + 1 ≤ 9223372036854775807 := by omega
      clear hc hd hcs hds
      go_wp2_with fail
      refine wp_region_script [0, 1, 2, 3, 4, 5, 6, 7, 9] [] (fun w' => w' = wr.drew) [(.read, 0), (.read, 1), (.read, 2), (.read, 3), (.read, 4), (.read, 5), (.read, 6), (.read, 7), (.one, 8), (.pure, 9)] (by kernel_rfl) (by kernel_rfl) ?_
      iterate 8 (first | (apply scr_r; (· rfl); (· (first | rfl | (simp [Region.wanted, yielded, go_sem]; done) | (simp [Region.wanted, yielded, go_sem, *]; done))); (· (go_simp; try rfl)); (· (simp [go_sem]; try rfl))) | (apply scr_r0; (· rfl); (· (first | rfl | (simp [Region.wanted, yielded, go_sem]; done) | (simp [Region.wanted, yielded, go_sem, *]; done))); (· (simp [go_sem]; try rfl))))
      refine scr_one rfl rfl (fun K hK => ?_)
      go_simp
      refine equalElems_c (cs := [x0, x1, x2, x3, x4, x5, x6, x7, x8, x9, x10]) (ds := [y0, y1, y2, y3, y4, y5, y6, y7, y8, y9, y10]) (kEl.mv hv'.out (hEr.drew.mv _)) (kEl.mv hu'.out (hEr.drew.mv _)) _ ?_
      obtain ⟨bb, hbb⟩ : ∃ bb, eqEl p[k] q[k] = bb := ⟨_, rfl⟩
      rw [hbb]
      intro w3 hE3
      refine hK _ _ (fun h => by simp at h) ?_
      clear hK
      have hbb' := Lib.hid hbb
      clear hbb
      cases bb
      all_goals
        (apply scr_pure'; (· rfl); (· rfl); (· (intro w'; go_simp; try rfl)); (· (simp [go_sem]; try rfl)))
        refine scr_end ?_
        simp only [Exit.then]
        go_wp2_with fail
      · refine hR'.out.bool ?_ _ (hEr.drew.trans hE3)
        rw [Bool.eq_false_iff]
        intro h
        have := (pairB_iff hlen'.out).1 h k hlt hlt2
        rw [hbb'.out] at this
        cases this
      · go_roundw
        case rel =>
          refine ⟨k + 1, by omega, by go_num, hEr.drew.trans hE3, Lib.hid fun j h h2 hj => ?_⟩
          by_cases e : j = k
          · subst e; exact hbb'.out
          · exact hall.out j h h2 (by omega)
        case measure => simp [intOf]; omega
    · have hp : pairB eqEl p q = true := (pairB_iff hlen'.out).2 fun j h h2 => hall.out j h h2 (by omega)
      have hp' := Lib.hid hp
      clear hp
      go_wp2_with fail
      exact hR'.out.bool hp'.out _ hEr

set_option maxRecDepth 100000 in
set_option maxHeartbeats 1000000 in
theorem specEqualPaths_c {w : World} {X Y : List Nat} {va vb : Value} {p q : List EL} (ha : IsSl kEl 168 w X va p) (hb : IsSl kEl 168 w Y vb q) (R : Ending → World → Prop) (hR : Ends R w (.bool (listB eqEl p q))) :
    Calls Tryz.prog 54 #[va, vb] w R := by
  obtain ⟨_, _, _, _, rfl, l2, l3, -⟩ := id ha.ex
  obtain ⟨_, _, _, _, rfl, m2, m3, -⟩ := id hb.ex
  have ha' := Lib.hid ha
  have hb' := Lib.hid hb
  have hR' := Lib.hid hR
  clear hR ha hb
  by_cases hlen : p.length = q.length
  rotate_left
  · have hl' : ((p.length : Int) == (q.length : Int)) = false := by rw [beq_eq_false_iff_ne]; omega
    have hlen' := Lib.hid hlen
    clear hlen
    go_enter Tryz.func54, Tryz.ntmps54
    go_wp2_with fail
    exact hR'.out.bool (by simp [listB, hlen'.out]) _ (Ext.refl _)
  have hl' : ((p.length : Int) == (q.length : Int)) = true := by simpa using congrArg Int.ofNat hlen
  have hlen' := Lib.hid hlen
  clear hlen
  go_enter Tryz.func54, Tryz.ntmps54
  go_wp2_with fail
  refine hasPrefix_c ha'.out hb'.out hlen'.out _ ?_
  intro w1 hE1
  dsimp only
  go_wp2_with fail
  exact hR'.out.bool (by simp [listB, hlen'.out]) _ hE1

/-- plain law: what the package says of two elements is what the reference says -/
theorem eqE_toE (a b : EL) : eqE (toE a) (toE b) = eqEl a b := by
  have hkey : listB eqFd (a.keys.zip (V.plainL a.l)) (b.keys.zip (V.plainL b.l)) = eqKeys a b := by
    have e1 : a.keys.zip (V.plainL a.l) = (a.keys.zip a.l).map fun p => (p.1, p.2.plain) := by rw [V.plainL_eq, zip_map_right]
    have e2 : b.keys.zip (V.plainL b.l) = (b.keys.zip b.l).map fun p => (p.1, p.2.plain) := by rw [V.plainL_eq, zip_map_right]
    rw [e1, e2, eqKeys, listB, listB, List.length_map, List.length_map]
    congr 1
    generalize a.keys.zip a.l = P
    generalize b.keys.zip b.l = Q
    induction P generalizing Q with
    | nil => simp [pairB]
    | cons p P ih =>
      cases Q with
      | nil => simp [pairB]
      | cons q Q => simp only [List.map_cons, pairB, ih, eqFd, eqKv, eqT_plain]
  unfold toE eqEl rankOf
  by_cases a1 : a.kind = 1
  · by_cases b1 : b.kind = 1
    · simp only [a1, b1, if_pos, true_or]; exact hkey
    · by_cases b2 : b.kind = 2
      · simp [a1, b2, eqE]
      · by_cases b3 : b.kind = 3 <;> simp [a1, b1, b2, b3, eqE]
  · by_cases a2 : a.kind = 2
    · by_cases b2 : b.kind = 2
      · simp [a2, b2, eqE, eqT_plain]
      · by_cases b1 : b.kind = 1
        · simp [a2, b1, eqE]
        · by_cases b3 : b.kind = 3 <;> simp [a2, b1, b2, b3, eqE]
    · by_cases a3 : a.kind = 3
      · by_cases b3 : b.kind = 3
        · simp [a3, b3, eqE]
        · by_cases b1 : b.kind = 1
          · simp [a3, b1, eqE]
          · by_cases b2 : b.kind = 2 <;> simp [a3, b1, b2, b3, eqE]
      · by_cases b1 : b.kind = 1
        · simp [a1, a2, a3, b1, eqE]
        · by_cases b2 : b.kind = 2
          · simp [a1, a2, a3, b2, eqE]
          · by_cases b3 : b.kind = 3 <;> simp [a1, a2, a3, b1, b2, b3, eqE]

end Go.Proofs.YtihapgangilncaaGreat

namespace Go.Proofs.YtihapgangilncaaGreat
open Go.RowKit

theorem specCompareInts_any {w : World} {a b : Int} (R : Ending → World → Prop) (hR : ∀ n, Ends R w (.int .i64 n)) : Calls Tryz.prog 106 #[.int .i64 a, .int .i64 b] w R := by
  have hR' := Lib.hid hR
  clear hR
  go_enter Tryz.func106, Tryz.ntmps106
  go_wp2_with fail
  all_goals exact hR'.out _ _ (Ext.refl _)

set_option maxRecDepth 100000 in
set_option maxHeartbeats 4000000 in
set_option pp.maxSteps 1000000 in
set_option pp.deepTerms true in
theorem compareStrings_any {w : World} {a b : ByteArray} (ha : a.size ≤ 140737488351232) (R : Ending → World → Prop) (hR : ∀ n, Ends R w (.int .i64 n)) :
    Calls Tryz.prog 109 #[.string a, .string b] w R := by
  have hR' := Lib.hid hR
  clear hR
  go_enter Tryz.func109, Tryz.ntmps109
  go_wp2_with fail
  go_loopw [5] (fun i wr => ∃ k : Nat, k ≤ a.size ∧ i = .int .i64 k ∧ Ext w wr) (fun i _ => a.size - (intOf i).toNat)
  case atStart => exact ⟨0, Nat.zero_le _, rfl, Ext.refl _⟩
  case round =>
    obtain ⟨k, hk, rfl, hE⟩ := hrel
    rename World => wr
    by_cases h1 : k < a.size
    · by_cases h2 : k < b.size
      · have hi1 : (k : Int) < (a.size : Int) := by omega
        have hi2 : (k : Int) < (b.size : Int) := by omega
        have hkm : (k : Int) + 1 ≤ 9223372036854775807 := by omega
        go_wp2_with fail
        refine wp_region_script (List.range 7) [] (fun w' => w' = wr.drew) [(.read, 0), (.read, 1), (.read, 2), (.read, 3), (.read, 4), (.read, 5), (.read, 6)] (by kernel_rfl) (by kernel_rfl) ?_
        by_cases hne : (a[k].toNat : Int) = (b[k].toNat : Int)
        · have hneb : ((a[k].toNat : Int) != (b[k].toNat : Int)) = false := by simpa using hne
          iterate 7 (first | (apply scr_r; (· rfl); (· (first | rfl | (simp [Region.wanted, yielded, go_sem]; done) | (simp [Region.wanted, yielded, go_sem, *]; done))); (· (go_simp; try rfl)); (· (simp [go_sem]; try rfl))) | (apply scr_r0; (· rfl); (· (first | rfl | (simp [Region.wanted, yielded, go_sem]; done) | (simp [Region.wanted, yielded, go_sem, *]; done))); (· (simp [go_sem]; try rfl))))
          refine scr_end ?_
          simp only [Exit.then]
          go_wp2_with fail
          go_roundw
          case rel => exact ⟨k + 1, by omega, by go_num, hE.drew⟩
          case measure => simp [intOf]; omega
        · have hneb : ((a[k].toNat : Int) != (b[k].toNat : Int)) = true := by rw [bne_iff_ne]; exact hne
          iterate 7 (first | (apply scr_r; (· rfl); (· (first | rfl | (simp [Region.wanted, yielded, go_sem]; done) | (simp [Region.wanted, yielded, go_sem, *]; done))); (· (go_simp; try rfl)); (· (simp [go_sem]; try rfl))) | (apply scr_r0; (· rfl); (· (first | rfl | (simp [Region.wanted, yielded, go_sem]; done) | (simp [Region.wanted, yielded, go_sem, *]; done))); (· (simp [go_sem]; try rfl))))
          refine scr_end ?_
          simp only [Exit.then]
          go_wp2_with fail
          refine wp_region_script [0, 1, 2, 3, 4, 5, 6, 7, 9] [] (fun w' => w' = wr.drew.drew) [(.read, 0), (.read, 1), (.read, 2), (.read, 3), (.read, 4), (.read, 5), (.read, 6), (.read, 7), (.one, 8), (.pure, 9)] (by kernel_rfl) (by kernel_rfl) ?_
          iterate 8 (first | (apply scr_r; (· rfl); (· (first | rfl | (simp [Region.wanted, yielded, go_sem]; done) | (simp [Region.wanted, yielded, go_sem, *]; done))); (· (go_simp; try rfl)); (· (simp [go_sem]; try rfl))) | (apply scr_r0; (· rfl); (· (first | rfl | (simp [Region.wanted, yielded, go_sem]; done) | (simp [Region.wanted, yielded, go_sem, *]; done))); (· (simp [go_sem]; try rfl))))
          refine scr_one rfl rfl (fun K hK => ?_)
          go_simp
          refine specCompareInts_any _ ?_
          intro n w3 hE3
          refine hK _ _ (fun h => by simp at h) ?_
          clear hK
          (apply scr_pure'; (· rfl); (· rfl); (· (intro w'; go_simp; try rfl)); (· (simp [go_sem]; try rfl)))
          refine scr_end ?_
          simp only [Exit.then]
          go_wp2_with fail
          exact hR'.out _ _ (hE.drew.drew.trans hE3)
      · have hi1 : (k : Int) < (a.size : Int) := by omega
        have hi2 : ¬ (k : Int) < (b.size : Int) := by omega
        go_wp2_with fail
        refine specCompareInts_any _ ?_
        intro n w3 hE3
        dsimp only
        go_wp2_with fail
        exact hR'.out _ _ (hE.trans hE3)
    · have hi1 : ¬ (k : Int) < (a.size : Int) := by omega
      go_wp2_with fail
      refine specCompareInts_any _ ?_
      intro n w3 hE3
      dsimp only
      go_wp2_with fail
      exact hR'.out _ _ (hE.trans hE3)

theorem IsStrs.upto {w : World} {X : List Nat} {o : Option Addr} {c N : Nat} {ss : List ByteArray} (h : IsStrs w X (.slice o ss.length c) ss) (hN : N ≤ ss.length) : IsStrs w X (.slice o N c) (ss.take N) := by
  obtain ⟨o1, c1, b, off, e, h1, h2, h3, h4⟩ := h.ex
  cases e
  have hl : (ss.take N).length = N := by rw [List.length_take]; omega
  refine ⟨o, c, b, off, by rw [hl], by omega, by omega, fun h => h3 (by omega), fun i hi => ?_⟩
  have := h4 i (by omega)
  have e : (ss.take N).getD i ByteArray.empty = ss.getD i ByteArray.empty := by
    rw [List.getD_eq_getElem?_getD, List.getD_eq_getElem?_getD, List.getElem?_take_of_lt (by omega)]
  rw [e]
  exact this
theorem IsVs.upto {w : World} {X : List Nat} {o : Option Addr} {c N : Nat} {l : List V} (h : IsVs w X (.slice o l.length c) l) (hN : N ≤ l.length) : IsVs w X (.slice o N c) (l.take N) := by
  obtain ⟨o1, c1, b, off, e, h1, h2, h3, h4⟩ := h.ex
  cases e
  have hl : (l.take N).length = N := by rw [List.length_take]; omega
  refine ⟨o, c, b, off, by rw [hl], by omega, by omega, fun h => h3 (by omega), fun i hi => ?_⟩
  have := h4 i (by omega)
  rw [List.getElem_take]
  exact this

section
variable {P : Program}
/-- append(v0, x..) of a slice of strings to an empty row of the function's own -/
theorem wp_strsApp {w : World} {X : List Nat} {v : Value} {ss : List ByteArray} {b : Nat} {o : Oper} {a : Act} {K : Act → World → Prop} {Q : Exit → Act → World → Prop} (hss : IsStrs w X v ss) (hX : Old X w) (hown : Own w 9 1 (.slice (some ⟨b, 0, none⟩) 0 0) 0 []) (hbX : b ∉ X) (s x : Operand) (t te : TypeId) (hte : te = 9)
    (ho : o.op = .call { callee := .builtin .append, args := #[s, x], argTypes := #[t, t] }) (ht : P.underlying t = some (.slice te)) (hi : (P.info? te).map (fun i => (i.zero, i.size, i.bytes)) = some (some (.string ⟨#[]⟩), 1, 16))
    (hs : a.eval s = .slice (some ⟨b, 0, none⟩) 0 0) (hx : a.eval x = v) (h : ∀ v' w', w.grownBy w' (some b) → IsStrs w' X v' ss → K (a.put o.dst v') w') : o.wp P a w K Q := by
  subst hte
  obtain ⟨so, c, bb, off, rfl, h1, h2, h3, h4⟩ := hss.ex
  obtain ⟨v', w', hr, ho', hg', hn', hd'⟩ := run_append_gen (P := P) w t o.type 9 ht hi rfl (by decide) hown so ss.length c (ss.map Value.string) (by simp) (fun e => by
      rcases Nat.eq_zero_or_pos ss.length with h0 | h0
      · exact h0
      · have := (h3 h0).1; rw [this] at e; cases e) (fun ad e j u hj => by
      have hj' : j < ss.length := by
        have := (List.getElem?_eq_some_iff.1 hj).1
        simpa using this
      have h5 := (h3 (by omega)).1
      rw [e] at h5
      cases h5
      rw [addr_add]
      have := (h4 j hj').1
      rw [this]
      simp only [List.getElem?_map, List.getElem?_eq_getElem hj', Option.map_some, Option.some.injEq] at hj
      rw [← hj]
      simp [hj']) (fun u hu => by obtain ⟨q, _, rfl⟩ := List.mem_map.1 hu; rfl) (by rw [maxLen_eq]; omega) (by omega)
  unfold Oper.wp execOp
  simp only [ho, resolve, invoke, builtin, Sem.run_bind, Sem.run_pure, Result.andThen_ok, List.map_toArray, List.map_cons, List.map_nil, hs, hx, hr]
  refine h v' w' hg' (IsStrs.of_own (by simpa using ho') (fun g hg hx => ?_) h2 hss.small)
  rcases hd' g hg with h | h
  · simp [Value.ownBlock] at h; subst h; exact hbX hx
  · have := hX g hx; omega
end

def vzero : V := .mk 0 0 0 ⟨#[]⟩ [] []
def cleanEl (e : EL) : EL :=
  if e.kind = 1 then ⟨1, ⟨#[]⟩, e.keys.take (min e.keys.length e.l.length), V.cleanL (e.l.take (min e.keys.length e.l.length)), vzero, 0⟩
  else if e.kind = 2 then ⟨2, ⟨#[]⟩, [], [], e.v.clean, 0⟩ else if e.kind = 3 then ⟨3, ⟨#[]⟩, [], [], vzero, e.n⟩ else ⟨0, e.s, [], [], vzero, 0⟩

theorem vzero_is (w : World) (X : List Nat) : IsV w X [.int .i64 0, .int .i64 0, .float .f64 0, .string ⟨#[]⟩, .slice none 0 0, .slice none 0 0] vzero :=
  IsV.of (by decide) (by decide) (by decide) (by decide) (IsStrs.nil w X) (IsVs.nil w X)

set_option maxRecDepth 100000 in
set_option maxHeartbeats 4000000 in
set_option pp.maxSteps 1000000 in
set_option pp.deepTerms true in
theorem cleanElem_c {w : World} {X : List Nat} {cs : List Value} {e : EL} (he : kEl.is w X cs e) (hX : Old X w) (R : Ending → World → Prop)
    (hR : ∀ w' cs', Ext w w' → kEl.is w' X cs' (cleanEl e) → R (.returned (.agg cs'.toArray)) w') : Calls Tryz.prog 56 #[.agg cs.toArray] w R := by
  have he' := Lib.hid he
  obtain ⟨kind, s, keys, l, v, n⟩ := e
  obtain ⟨vk, vl, vs, rfl, -, hn, hs, hks, hl, hv⟩ := he
  dsimp only at hks hl hv hR hn hs ⊢
  obtain ⟨x, rfl⟩ := hv.shape
  obtain ⟨ko, kc, kb, koff, rfl, k2, k3, -⟩ := id hks.ex
  obtain ⟨o, c, b, off, rfl, l2, l3, -⟩ := id hl.ex
  have hv' := Lib.hid hv
  have hks' := Lib.hid hks
  have hl' := Lib.hid hl
  have hX' := Lib.hid hX
  have hR' := Lib.hid hR
  have hn' := Lib.hid hn
  have hs' := Lib.hid hs
  clear hR hX hks hl hv hn hs
  simp only [Cells6.list, List.cons_append, List.nil_append] at he' ⊢
  have hk : kind = 1 ∨ kind = 2 ∨ kind = 3 ∨ ((kind == 1) = false ∧ (kind == 2) = false ∧ (kind == 3) = false) := by
    by_cases h1 : kind = 1 <;> by_cases h2 : kind = 2 <;> by_cases h3 : kind = 3 <;> simp [h1, h2, h3]
  rcases hk with rfl | rfl | rfl | ⟨q1, q2, q3⟩
  all_goals
    go_enter Tryz.func56, Tryz.ntmps56
    go_upto_if 6 with (fail)
    refine abs2 (G := Code.wp _ _ _ _) ?_
    intro w1 hE1 hb1 hb2 hs1
    have hl1 : w.heap.size + 1 < w1.heap.size := by omega
    clear hs1
  · have e2 : w1.cell? ⟨w.heap.size, 2, none⟩ = some (.slice ko keys.length kc) := cells_of hb1 2
    have e3 : w1.cell? ⟨w.heap.size, 3, none⟩ = some (.slice o l.length c) := cells_of hb1 3
    obtain ⟨N, hN⟩ : ∃ N, min keys.length l.length = N := ⟨_, rfl⟩
    have hm1 : (if l.length < keys.length then (l.length : Int) else (keys.length : Int)) = (N : Int) := by rw [← hN]; split <;> omega
    have hNk : N ≤ keys.length := by omega
    have hNl : N ≤ l.length := by omega
    have hNc : (N : Int) ≤ (kc : Int) := by omega
    have hNd : (N : Int) ≤ (c : Int) := by omega
    have hN' := Lib.hid hN
    clear hb1 hN
    go_wp2_with fail
    have hm1' := Lib.hid hm1
    clear hm1
    have hC : Ext w1 w1.drew := (Ext.refl _).drew
    refine wp_region_script [1, 2, 3, 4, 6, 7, 8, 9, 11] [0, 5] (fun w' => Ext w1 w') [(.pure, 1), (.read, 2), (.pure, 3), (.pure, 4), (.pure, 6), (.read, 7), (.pure, 8), (.pure, 9), (.one, 0), (.one, 5), (.one, 10), (.pure, 11), (.one, 12)] (by kernel_rfl) (by kernel_rfl) ?_
    (apply scr_pure'; (· rfl); (· rfl); (· (intro w'; go_simp; try rfl)); (· (simp [go_sem]; try rfl)))
    (apply scr_read'; (· rfl); (· rfl); (· first | exact hC | exact (Ext.refl _).drew); (· (intro w' hw'; have e2_ := hw'.keep e2; go_simp; try rfl)); (· (simp [go_sem]; try rfl)))
    (apply scr_pure'; (· rfl); (· rfl); (· (intro w'; go_simp; try rfl)); (· (simp [go_sem]; try rfl)))
    (apply scr_pure'; (· rfl); (· rfl); (· (intro w'; go_simp; try rfl)); (· (simp [go_sem]; try rfl)))
    (apply scr_pure'; (· rfl); (· rfl); (· (intro w'; go_simp; try rfl)); (· (simp [go_sem]; try rfl)))
    (apply scr_read'; (· rfl); (· rfl); (· first | exact hC | exact (Ext.refl _).drew); (· (intro w' hw'; have e3_ := hw'.keep e3; go_simp; try rfl)); (· (simp [go_sem]; try rfl)))
    (apply scr_pure'; (· rfl); (· rfl); (· (intro w'; go_simp; try rfl)); (· (simp [go_sem]; try rfl)))
    (apply scr_pure'; (· rfl); (· rfl); (· (intro w'; go_simp; try rfl)); (· (simp [go_sem]; try rfl)))
    have hb2' := (hC.below.block _ hl1).trans hb2
    have hE1' := hE1.trans hC
    have hm0 : Mv w X w1.drew ((w.heap.size + 1) :: X) := (hE1'.mv X).more (by omega)
    have hm0' := Lib.hid hm0
    have hX0 : Old ((w.heap.size + 1) :: X) w1.drew := .cons hl1 (hX'.out.le hE1'.size)
    clear hm0
    refine scr_one rfl rfl (fun K hK => ?_)
    go_simp
    refine hK _ _ (fun _ => hC.push _) ?_
    clear hK
    have hEa : Ext w1.drew (w1.drew.alloc (.cells #[] 9)) := Ext.alloc _ _
    have hown : Own (w1.drew.alloc (.cells #[] 9)) 9 1 (.slice (some ⟨w1.drew.heap.size, 0, none⟩) 0 0) 0 ([] : List Value) := ⟨by simp, .inr ⟨w1.drew.heap.size, 0, #[], rfl, Nat.zero_le _, alloc_new _ _ rfl, Nat.le_refl _, Nat.zero_le _, by simp, by simp⟩⟩
    have hown' := Lib.hid hown
    clear hown
    refine scr_one rfl rfl (fun K hK => ?_)
    refine wp_strsApp (X := (w.heap.size + 1) :: X) ((hks'.out.upto hNk).mv (hm0'.out.ext hEa)) (hX0.le hEa.size) hown'.out (fun h => by have := hX0 _ h; omega) _ _ _ _ rfl rfl Tryz.underlying41 Tryz.info9 rfl rfl ?_
    intro v5 w5 hg5 hs5
    obtain ⟨o5, k5, _, _, rfl, -⟩ := id hs5.ex
    have hlk : (keys.take N).length = N := by rw [List.length_take]; omega
    rw [hlk] at hs5
    rw [hlk]
    have hs5' := Lib.hid hs5
    have hE5 : Ext w1.drew w5 := hEa.grown hg5 (fun j hj => by cases hj; exact Nat.le_refl _)
    refine hK _ _ (fun _ => hC.trans hE5) ?_
    clear hK hs5 hg5 hlk
    refine scr_one rfl rfl (fun K hK => ?_)
    go_simp
    have hlv : (l.take N).length = N := by rw [List.length_take]; omega
    have hl5 : IsVs w5 ((w.heap.size + 1) :: X) (.slice o N c) (l.take N) := (hl'.out.upto hNl).mv (hm0'.out.ext hE5)
    rw [show Value.slice o N c = Value.slice o (l.take N).length c from by rw [hlv]] at hl5 ⊢
    refine plainList_of (fun i h => clean_all _) hl5 (hX0.le hE5.size) _ ?_
    intro w6 v6 hE6 hv6
    obtain ⟨o6, k6, _, _, rfl, -⟩ := id hv6.ex
    have hlw : (V.cleanL (l.take N)).length = N := by rw [cleanL_length, hlv]
    rw [hlw] at hv6
    rw [hlw]
    have hv6' := Lib.hid hv6
    refine hK _ _ (fun h => by simp at h) ?_
    clear hK hv6 hl5 hlv hlw
    (apply scr_pure'; (· rfl); (· rfl); (· (intro w'; go_simp; try rfl)); (· (simp [go_sem]; try rfl)))
    have hb6 := ((hE5.trans hE6).below.block _ hl1).trans hb2'
    refine scr_one rfl rfl (fun K hK => ?_)
    refine wp_storeRow (cells := #[.int .i64 1, .string ⟨#[]⟩, .slice o5 N k5, .slice o6 N k6, .int .i64 0, .int .i64 0, .float .f64 0, .string ⟨#[]⟩, .slice none 0 0, .slice none 0 0, .int .i64 0]) 47 _ _ rfl Tryz.size47 rfl rfl hb6 rfl (by simp [Value.oneCell']) ?_
    intro w4 h4 g4
    refine hK _ _ (fun h => by simp at h) ?_
    clear hK
    refine scr_end ?_
    simp only [Exit.then]
    have hE : Ext w w4 := (hE1'.trans (hE5.trans hE6)).grown g4 (fun j hj => by cases hj; omega)
    have hm4 : Mv w6 ((w.heap.size + 1) :: X) w4 X := ((Mv.refl _ _).grown g4 (fun j hj => by cases hj; simp)).less (fun b hb => by simp [hb])
    have z0 : w4.cell? ⟨w.heap.size + 1, 0, none⟩ = some (.int .i64 1) := cells_of h4 0; have z1 : w4.cell? ⟨w.heap.size + 1, 1, none⟩ = some (.string ⟨#[]⟩) := cells_of h4 1; have z2 : w4.cell? ⟨w.heap.size + 1, 2, none⟩ = some (.slice o5 N k5) := cells_of h4 2; have z3 : w4.cell? ⟨w.heap.size + 1, 3, none⟩ = some (.slice o6 N k6) := cells_of h4 3; have z4 : w4.cell? ⟨w.heap.size + 1, 4, none⟩ = some (.int .i64 0) := cells_of h4 4; have z5 : w4.cell? ⟨w.heap.size + 1, 5, none⟩ = some (.int .i64 0) := cells_of h4 5; have z6 : w4.cell? ⟨w.heap.size + 1, 6, none⟩ = some (.float .f64 0) := cells_of h4 6; have z7 : w4.cell? ⟨w.heap.size + 1, 7, none⟩ = some (.string ⟨#[]⟩) := cells_of h4 7; have z8 : w4.cell? ⟨w.heap.size + 1, 8, none⟩ = some (.slice none 0 0) := cells_of h4 8; have z9 : w4.cell? ⟨w.heap.size + 1, 9, none⟩ = some (.slice none 0 0) := cells_of h4 9; have z10 : w4.cell? ⟨w.heap.size + 1, 10, none⟩ = some (.int .i64 0) := cells_of h4 10
    have hs4 := Lib.hid ((hs5'.out.mv (hE6.mv _)).mv hm4)
    have hv4 := Lib.hid (hv6'.out.mv hm4)
    clear hb6 hb2 hb2' h4 g4 hm4 hE1 hC hE5 hE6 hEa
    go_wp2_with fail
    refine bodyPost_ret (by simp [results, Tryz.results56, go_sem, z0, z1, z2, z3, z4, z5, z6, z7, z8, z9, z10]; try rfl) rfl ?_
    refine hR'.out w4 _ hE ?_
    rw [show cleanEl ⟨1, s, keys, l, v, n⟩ = ⟨1, ⟨#[]⟩, keys.take N, V.cleanL (l.take N), vzero, 0⟩ from by rw [← hN'.out]; rfl]
    exact ⟨_, _, [.int .i64 0, .int .i64 0, .float .f64 0, .string ⟨#[]⟩, .slice none 0 0, .slice none 0 0], rfl, by show (Lit.int .i64 1).wf = true; decide, by show (Lit.int .i64 0).wf = true; decide, Nat.zero_le _, hs4.out, hv4.out, vzero_is _ _⟩
  · have e4 : w1.cell? ⟨w.heap.size, 4, none⟩ = some (.int .i64 x.kind) := cells_of hb1 4
    have e5 : w1.cell? ⟨w.heap.size, 5, none⟩ = some (.int .i64 x.n) := cells_of hb1 5
    have e6 : w1.cell? ⟨w.heap.size, 6, none⟩ = some (.float .f64 x.f) := cells_of hb1 6
    have e7 : w1.cell? ⟨w.heap.size, 7, none⟩ = some (.string x.s) := cells_of hb1 7
    have e8 : w1.cell? ⟨w.heap.size, 8, none⟩ = some (.slice x.ko x.kn x.kc) := cells_of hb1 8
    have e9 : w1.cell? ⟨w.heap.size, 9, none⟩ = some (.slice x.o x.m x.c) := cells_of hb1 9
    clear hb1
    go_wp2_with fail
    refine clean_all v _ ((w.heap.size + 1) :: X) x.list (hv'.out.mv ((hE1.mv X).more (by omega))) (.cons hl1 (hX'.out.le hE1.size)) _ ?_
    intro w2 cs2 hE2 h2
    obtain ⟨y, rfl⟩ := h2.shape
    have hb3 := (hE2.below.block _ hl1).trans hb2
    have h2' := Lib.hid h2
    have hE2' := Lib.hid hE2
    clear h2 hb2 e4 e5 e6 e7 e8 e9 hE2
    simp only [Cells6.list]
    go_wp2_with (refine wpL_storeRow (cells := #[.int .i64 2, .string ⟨#[]⟩, .slice none 0 0, .slice none 0 0, .int .i64 y.kind, .int .i64 y.n, .float .f64 y.f, .string y.s, .slice y.ko y.kn y.kc, .slice y.o y.m y.c, .int .i64 0]) rfl 47 _ _ rfl Tryz.size47 rfl rfl hb3 rfl (by simp [Value.oneCell']) ?_; intro w4 h4 g4)
    have z0 : w4.cell? ⟨w.heap.size + 1, 0, none⟩ = some (.int .i64 2) := cells_of h4 0; have z1 : w4.cell? ⟨w.heap.size + 1, 1, none⟩ = some (.string ⟨#[]⟩) := cells_of h4 1; have z2 : w4.cell? ⟨w.heap.size + 1, 2, none⟩ = some (.slice none 0 0) := cells_of h4 2; have z3 : w4.cell? ⟨w.heap.size + 1, 3, none⟩ = some (.slice none 0 0) := cells_of h4 3; have z4 : w4.cell? ⟨w.heap.size + 1, 4, none⟩ = some (.int .i64 y.kind) := cells_of h4 4; have z5 : w4.cell? ⟨w.heap.size + 1, 5, none⟩ = some (.int .i64 y.n) := cells_of h4 5; have z6 : w4.cell? ⟨w.heap.size + 1, 6, none⟩ = some (.float .f64 y.f) := cells_of h4 6; have z7 : w4.cell? ⟨w.heap.size + 1, 7, none⟩ = some (.string y.s) := cells_of h4 7; have z8 : w4.cell? ⟨w.heap.size + 1, 8, none⟩ = some (.slice y.ko y.kn y.kc) := cells_of h4 8; have z9 : w4.cell? ⟨w.heap.size + 1, 9, none⟩ = some (.slice y.o y.m y.c) := cells_of h4 9; have z10 : w4.cell? ⟨w.heap.size + 1, 10, none⟩ = some (.int .i64 0) := cells_of h4 10
    refine bodyPost_ret (by simp [results, Tryz.results56, go_sem, z0, z1, z2, z3, z4, z5, z6, z7, z8, z9, z10]; try rfl) rfl ?_
    have hE : Ext w w4 := (hE1.trans hE2'.out).grown g4 (fun j hj => by cases hj; omega)
    refine hR'.out w4 _ hE ?_
    have hm4 : Mv w2 ((w.heap.size + 1) :: X) w4 X := ((Mv.refl _ _).grown g4 (fun j hj => by cases hj; simp)).less (fun b hb => by simp [hb])
    rw [show cleanEl ⟨2, s, keys, l, v, n⟩ = ⟨2, ⟨#[]⟩, [], [], v.clean, 0⟩ from rfl]
    exact ⟨_, _, y.list, rfl, by show (Lit.int .i64 2).wf = true; decide, by show (Lit.int .i64 0).wf = true; decide, Nat.zero_le _, IsStrs.nil _ _, IsVs.nil _ _, h2'.out.mv hm4⟩
  · have e10 : w1.cell? ⟨w.heap.size, 10, none⟩ = some (.int .i64 n) := cells_of hb1 10
    clear hb1
    go_wp2_with (refine wpL_storeRow (cells := #[.int .i64 3, .string ⟨#[]⟩, .slice none 0 0, .slice none 0 0, .int .i64 0, .int .i64 0, .float .f64 0, .string ⟨#[]⟩, .slice none 0 0, .slice none 0 0, .int .i64 n]) rfl 47 _ _ rfl Tryz.size47 rfl rfl hb2 rfl (by simp [Value.oneCell']) ?_; intro w4 h4 g4)
    have z0 : w4.cell? ⟨w.heap.size + 1, 0, none⟩ = some (.int .i64 3) := cells_of h4 0; have z1 : w4.cell? ⟨w.heap.size + 1, 1, none⟩ = some (.string ⟨#[]⟩) := cells_of h4 1; have z2 : w4.cell? ⟨w.heap.size + 1, 2, none⟩ = some (.slice none 0 0) := cells_of h4 2; have z3 : w4.cell? ⟨w.heap.size + 1, 3, none⟩ = some (.slice none 0 0) := cells_of h4 3; have z4 : w4.cell? ⟨w.heap.size + 1, 4, none⟩ = some (.int .i64 0) := cells_of h4 4; have z5 : w4.cell? ⟨w.heap.size + 1, 5, none⟩ = some (.int .i64 0) := cells_of h4 5; have z6 : w4.cell? ⟨w.heap.size + 1, 6, none⟩ = some (.float .f64 0) := cells_of h4 6; have z7 : w4.cell? ⟨w.heap.size + 1, 7, none⟩ = some (.string ⟨#[]⟩) := cells_of h4 7; have z8 : w4.cell? ⟨w.heap.size + 1, 8, none⟩ = some (.slice none 0 0) := cells_of h4 8; have z9 : w4.cell? ⟨w.heap.size + 1, 9, none⟩ = some (.slice none 0 0) := cells_of h4 9; have z10 : w4.cell? ⟨w.heap.size + 1, 10, none⟩ = some (.int .i64 n) := cells_of h4 10
    refine bodyPost_ret (by simp [results, Tryz.results56, go_sem, z0, z1, z2, z3, z4, z5, z6, z7, z8, z9, z10]; try rfl) rfl ?_
    have hE : Ext w w4 := hE1.grown g4 (fun j hj => by cases hj; omega)
    refine hR'.out w4 _ hE ?_
    rw [show cleanEl ⟨3, s, keys, l, v, n⟩ = ⟨3, ⟨#[]⟩, [], [], vzero, n⟩ from rfl]
    exact ⟨_, _, [.int .i64 0, .int .i64 0, .float .f64 0, .string ⟨#[]⟩, .slice none 0 0, .slice none 0 0], rfl, by show (Lit.int .i64 3).wf = true; decide, hn'.out, Nat.zero_le _, IsStrs.nil _ _, IsVs.nil _ _, vzero_is _ _⟩
  · have e1 : w1.cell? ⟨w.heap.size, 1, none⟩ = some (.string s) := cells_of hb1 1
    clear hb1
    go_wp2_with (refine wpL_storeRow (cells := #[.int .i64 0, .string s, .slice none 0 0, .slice none 0 0, .int .i64 0, .int .i64 0, .float .f64 0, .string ⟨#[]⟩, .slice none 0 0, .slice none 0 0, .int .i64 0]) rfl 47 _ _ rfl Tryz.size47 rfl rfl hb2 rfl (by simp [Value.oneCell']) ?_; intro w4 h4 g4)
    have z0 : w4.cell? ⟨w.heap.size + 1, 0, none⟩ = some (.int .i64 0) := cells_of h4 0; have z1 : w4.cell? ⟨w.heap.size + 1, 1, none⟩ = some (.string s) := cells_of h4 1; have z2 : w4.cell? ⟨w.heap.size + 1, 2, none⟩ = some (.slice none 0 0) := cells_of h4 2; have z3 : w4.cell? ⟨w.heap.size + 1, 3, none⟩ = some (.slice none 0 0) := cells_of h4 3; have z4 : w4.cell? ⟨w.heap.size + 1, 4, none⟩ = some (.int .i64 0) := cells_of h4 4; have z5 : w4.cell? ⟨w.heap.size + 1, 5, none⟩ = some (.int .i64 0) := cells_of h4 5; have z6 : w4.cell? ⟨w.heap.size + 1, 6, none⟩ = some (.float .f64 0) := cells_of h4 6; have z7 : w4.cell? ⟨w.heap.size + 1, 7, none⟩ = some (.string ⟨#[]⟩) := cells_of h4 7; have z8 : w4.cell? ⟨w.heap.size + 1, 8, none⟩ = some (.slice none 0 0) := cells_of h4 8; have z9 : w4.cell? ⟨w.heap.size + 1, 9, none⟩ = some (.slice none 0 0) := cells_of h4 9; have z10 : w4.cell? ⟨w.heap.size + 1, 10, none⟩ = some (.int .i64 0) := cells_of h4 10
    refine bodyPost_ret (by simp [results, Tryz.results56, go_sem, z0, z1, z2, z3, z4, z5, z6, z7, z8, z9, z10]; try rfl) rfl ?_
    have hE : Ext w w4 := hE1.grown g4 (fun j hj => by cases hj; omega)
    refine hR'.out w4 _ hE ?_
    have hk : cleanEl ⟨kind, s, keys, l, v, n⟩ = ⟨0, s, [], [], vzero, 0⟩ := by simp at q1 q2 q3; simp [cleanEl, q1, q2, q3]
    rw [hk]
    exact ⟨_, _, [.int .i64 0, .int .i64 0, .float .f64 0, .string ⟨#[]⟩, .slice none 0 0, .slice none 0 0], rfl, by show (Lit.int .i64 0).wf = true; decide, by show (Lit.int .i64 0).wf = true; decide, hs'.out, IsStrs.nil _ _, IsVs.nil _ _, vzero_is _ _⟩
end Go.Proofs.YtihapgangilncaaGreat

namespace Go.Proofs.YtihapgangilncaaGreat
open Go.RowKit

set_option maxRecDepth 100000 in
set_option maxHeartbeats 4000000 in
set_option pp.maxSteps 1000000 in
set_option pp.deepTerms true in
theorem keySorted_any {w : World} {cs : List Value} {e : EL} (he : kEl.is w [] cs e) (R : Ending → World → Prop) (hR : ∀ b, Ends R w (.bool b)) : Calls Tryz.prog 96 #[.agg cs.toArray] w R := by
  have hone := kEl.one he
  obtain ⟨c0, c1, c2, c3, c4, c5, c6, c7, c8, c9, c10, rfl⟩ := kEl_eleven he
  have he' := Lib.hid he
  have hR' := Lib.hid hR
  clear hR he
  go_enter Tryz.func96, Tryz.ntmps96
  go_wp2_with fail
  refine abs1 (G := fun wr => Calls _ _ _ wr _) ?_
  intro w1 hE1 hb1 hs1
  clear hs1
  refine cleanElem_c (X := [w.heap.size]) (kEl.mv he'.out ((hE1.mv []).more (Nat.le_refl _))) (.cons (Array.getElem?_eq_some_iff.1 hb1).1 (Old.nil _)) _ ?_
  intro w2 ds hE2 h2
  have honed := kEl.one h2
  obtain ⟨vk, vl, vs, rfl, -, -, -, hks, hl, hv⟩ := id h2
  obtain ⟨x, rfl⟩ := hv.shape
  obtain ⟨ko, kc, kb, koff, rfl, k2, k3, -⟩ := id hks.ex
  have hb2 := (hE2.below.block _ (Array.getElem?_eq_some_iff.1 hb1).1).trans hb1
  obtain ⟨keys, hkeys⟩ : ∃ ks, (cleanEl e).keys = ks := ⟨_, rfl⟩
  rw [hkeys] at hks k2 k3
  generalize (cleanEl e).kind = kd at *
  generalize (cleanEl e).s = sd at *
  generalize (cleanEl e).n = nd at *
  have hks' := Lib.hid hks
  have honed' := Lib.hid honed
  have hA := hE1.trans hE2
  simp only [hkeys, Cells6.list, List.cons_append, List.nil_append] at honed' ⊢
  clear hks hv hl h2 hb1 honed hE1 hE2 hkeys
  go_wp2_with (refine wpL_storeRow (cells := #[.int .i64 kd, .string sd, .slice ko keys.length kc, vl, .int .i64 x.kind, .int .i64 x.n, .float .f64 x.f, .string x.s, .slice x.ko x.kn x.kc, .slice x.o x.m x.c, .int .i64 nd]) rfl 47 _ _ rfl Tryz.size47 rfl rfl hb2 rfl (by simpa using honed'.out) ?_; intro w3 h3 g3)
  have e2 : w3.cell? ⟨w.heap.size, 2, none⟩ = some (.slice ko keys.length kc) := cells_of h3 2
  have hE3 : Ext w w3 := hA.grown g3 (fun j hj => by cases hj; exact Nat.le_refl _)
  have hks3 := Lib.hid (hks'.out.mv (((Mv.refl w2 [w.heap.size]).grown g3 (fun j hj => by cases hj; simp)).less (Z := []) (by simp)))
  have e2' := Lib.hid e2
  clear h3 g3 hks' hb2 honed' hA e2
  go_loopw [3] (fun i wr => ∃ j : Nat, j ≤ keys.length ∧ i = .int .i64 ((j : Int) + 1) ∧ Ext w3 wr) (fun i _ => keys.length + 1 - (intOf i).toNat)
  case atStart => exact ⟨0, Nat.zero_le _, rfl, Ext.refl _⟩
  case round =>
    obtain ⟨j, hj, rfl, hE⟩ := hrel
    rename World => wr
    have e2 := hE.keep e2'.out
    by_cases hlt : j + 1 < keys.length
    · obtain ⟨_, _, kb, koff, e, -, -, k4, k5⟩ := hks3.out.ex
      cases e
      obtain ⟨rfl, -⟩ := k4 (by omega)
      have q0 := hE.keep (k5 j (by omega)).1
      have q1 := hE.keep (k5 (j + 1) hlt).1
      have hz := (k5 j (by omega)).2
      have hk1 : keys.getD j ByteArray.empty = keys[j] := by simp [show j < keys.length by omega]
      have hk2 : keys.getD (j + 1) ByteArray.empty = keys[j + 1] := by simp [hlt]
      rw [hk1] at q0 hz
      rw [hk2] at q1
      have hi1 : (j : Int) < (keys.length : Int) := by omega
      have hi2 : (j : Int) + 1 < (keys.length : Int) := by omega
      have hkm : (j : Int) + 1 + 1 ≤ 9223372036854775807 := by omega
      have hz' := Lib.hid hz
      have hj0 : (0 : Int) ≤ (j : Int) := by omega
      have hj1 : (0 : Int) ≤ (j : Int) + 1 := by omega
      clear k4 k5 hk1 hk2 hz
      go_wp2_with fail
      have hw : IntKind.i64.wrap (j : Int) = (j : Int) := IntWalk.i64_in _ (by omega)
      have hw2 : ((j : Int) + 1).toNat = j + 1 := by omega
      refine wp_region_script [0, 1, 2, 3, 4, 5, 6, 7, 8, 9, 10, 12] [] (fun w' => w' = wr.drew) [(.read, 0), (.read, 1), (.read, 2), (.read, 3), (.read, 4), (.read, 5), (.read, 6), (.read, 7), (.read, 8), (.read, 9), (.read, 10), (.one, 11), (.pure, 12)] (by kernel_rfl) (by kernel_rfl) ?_
      iterate 11 (first | (apply scr_r; (· rfl); (· (first | rfl | (simp [Region.wanted, yielded, go_sem]; done) | (simp [Region.wanted, yielded, go_sem, *]; done))); (· (go_simp; try rfl)); (· (simp [go_sem]; try rfl))) | (apply scr_r0; (· rfl); (· (first | rfl | (simp [Region.wanted, yielded, go_sem]; done) | (simp [Region.wanted, yielded, go_sem, *]; done))); (· (simp [go_sem]; try rfl))))
      refine scr_one rfl rfl (fun K hK => ?_)
      go_simp
      refine compareStrings_any hz'.out _ ?_
      intro n w5 hE5
      clear hw hw2
      refine hK _ _ (fun h => by simp at h) ?_
      clear hK
      have hd : n ≥ 0 ∨ ¬ n ≥ 0 := by omega
      rcases hd with hd | hd
      · have hdb : (decide (0 ≤ n)) = true := by simpa using hd
        have hd0 : 0 ≤ n := hd
        (apply scr_pure'; (· rfl); (· rfl); (· (intro w'; go_simp; try rfl)); (· (simp [go_sem]; try rfl)))
        refine scr_end ?_
        simp only [Exit.then]
        go_wp2_with fail
        exact hR'.out _ _ (hE3.trans (hE.drew.trans hE5))
      · have hd0 : ¬ 0 ≤ n := hd
        have hdb : (decide (0 ≤ n)) = false := by simpa using hd
        (apply scr_pure'; (· rfl); (· rfl); (· (intro w'; go_simp; try rfl)); (· (simp [go_sem]; try rfl)))
        refine scr_end ?_
        simp only [Exit.then]
        go_wp2_with fail
        go_roundw
        case rel => exact ⟨j + 1, by omega, by go_num, hE.drew.trans hE5⟩
        case measure => simp [intOf]; omega
    · have hi2 : ¬ (j : Int) + 1 < (keys.length : Int) := by omega
      go_wp2_with fail
      exact hR'.out _ _ (hE3.trans hE)
end Go.Proofs.YtihapgangilncaaGreat

namespace Go.Proofs.YtihapgangilncaaGreat
open Go.RowKit

set_option maxRecDepth 100000 in
set_option maxHeartbeats 2000000 in
theorem orderlyValues_c {w : World} {X : List Nat} {v : Value} {l : List V} (hl : IsVs w X v l) (R : Ending → World → Prop) (hR : Ends R w (.bool (V.orderlyL l))) :
    Calls Tryz.prog 95 #[v] w R := by
  obtain ⟨o, c, b, off, rfl, h2, h3, h4, h5⟩ := hl.ex
  have hR' := Lib.hid hR
  have hh5 := Lib.hid h5
  have hh4 := Lib.hid h4
  clear hR hl h5 h4
  go_enter Tryz.func95, Tryz.ntmps95
  go_wp2_with fail
  go_loopw [7] (fun i wr => ∃ k : Nat, k ≤ l.length ∧ i = .int .i64 k ∧ Ext w wr ∧ Hid (∀ j (h : j < l.length), j < k → (l[j]).orderly = true)) (fun i _ => l.length - (intOf i).toNat)
  case atStart => exact ⟨0, Nat.zero_le _, rfl, Ext.refl _, Lib.hid fun j _ h => by omega⟩
  case round =>
    obtain ⟨k, hk, rfl, hb, hall⟩ := hrel
    by_cases hlt : k < l.length
    · obtain ⟨rfl, hbX⟩ := hh4.out (by omega)
      obtain ⟨x, c0, c1, c2, c3, c4, c5, hx⟩ := hh5.out k hlt
      have d0 := hb.keep c0
      have d1 := hb.keep c1
      have d2 := hb.keep c2
      have d3 := hb.keep c3
      have d4 := hb.keep c4
      have d5 := hb.keep c5
      have hx' := Lib.hid hx
      clear c0 c1 c2 c3 c4 c5 hx
      go_wp2_with fail
      refine orderly_c _ (hx'.out.mv ((hb.push _).mv X)) _ ?_
      obtain ⟨bb, hbb⟩ : ∃ bb, (l[k]).orderly = bb := ⟨_, rfl⟩
      rw [hbb]
      have hbb' := Lib.hid hbb
      clear hbb
      intro w1 hb1
      dsimp only
      cases bb
      · go_wp2_with fail
        refine hR'.out.bool ?_ _ ((hb.push _).trans hb1)
        rw [Bool.eq_false_iff]
        intro h
        rw [(orderlyL_iff l).1 h k hlt] at hbb'
        have := hbb'.out
        cases this
      · go_wp2_with fail
        go_roundw
        case rel =>
          refine ⟨k + 1, by omega, by go_num, (hb.push _).trans hb1, Lib.hid fun j h hj => ?_⟩
          by_cases e : j = k
          · subst e; exact hbb'.out
          · exact hall.out j h (by omega)
        case measure => simp [intOf]; omega
    · have hp : V.orderlyL l = true := (orderlyL_iff l).2 fun j h => hall.out j h (by omega)
      have hp' := Lib.hid hp
      clear hp
      go_wp2_with fail
      exact hR'.out.bool hp'.out _ hb

def tameEl (e : EL) : Prop := (cleanEl e).v.orderly = true ∧ V.orderlyL (cleanEl e).l = true

set_option maxRecDepth 100000 in
set_option maxHeartbeats 4000000 in
set_option pp.maxSteps 1000000 in
set_option pp.deepTerms true in
theorem orderlyElem_c {w : World} {X : List Nat} {cs : List Value} {e : EL} (he : kEl.is w X cs e) (R : Ending → World → Prop) (hR : ∀ b, (b = true → tameEl e) → Ends R w (.bool b)) : Calls Tryz.prog 48 #[.agg cs.toArray] w R := by
  replace he := kEl.mv he ((Mv.refl _ _).less (Z := []) (by simp))
  have hone := kEl.one he
  obtain ⟨c0, c1, c2, c3, c4, c5, c6, c7, c8, c9, c10, rfl⟩ := kEl_eleven he
  have he' := Lib.hid he
  have hR' := Lib.hid hR
  clear hR he
  go_enter Tryz.func48, Tryz.ntmps48
  go_wp2_with fail
  refine abs1 (G := fun wr => Calls _ _ _ wr _) ?_
  intro w1 hE1 hb1 hs1
  clear hs1
  refine cleanElem_c (X := [w.heap.size]) (kEl.mv he'.out ((hE1.mv []).more (Nat.le_refl _))) (.cons (Array.getElem?_eq_some_iff.1 hb1).1 (Old.nil _)) _ ?_
  intro w2 ds hE2 h2
  have honed := kEl.one h2
  have h2' := Lib.hid h2
  obtain ⟨vk, vl, vs, rfl, -, -, -, hks, hl, hv⟩ := id h2
  obtain ⟨x, rfl⟩ := hv.shape
  obtain ⟨ko, kc, kb, koff, rfl, k2, k3, -⟩ := id hks.ex
  obtain ⟨o, c, b, off, rfl, l2, l3, -⟩ := id hl.ex
  have hb2 := (hE2.below.block _ (Array.getElem?_eq_some_iff.1 hb1).1).trans hb1
  have hA := hE1.trans hE2
  have hv' := Lib.hid hv
  have hl' := Lib.hid hl
  have htm : ∀ (q : Prop), ((cleanEl e).v.orderly = true → V.orderlyL (cleanEl e).l = true → q) → (tameEl e → q) := fun q h t => h t.1 t.2
  have htm2 := Lib.hid (show (cleanEl e).v.orderly = true → V.orderlyL (cleanEl e).l = true → tameEl e from fun a b => ⟨a, b⟩)
  generalize (cleanEl e).kind = kd at *
  generalize (cleanEl e).s = sd at *
  generalize (cleanEl e).n = nd at *
  generalize (cleanEl e).keys = keys at *
  generalize (cleanEl e).l = l at *
  generalize (cleanEl e).v = v at *
  have honed' := Lib.hid honed
  simp only [Cells6.list, List.cons_append, List.nil_append] at honed' h2' ⊢
  clear hks hv hl h2 hb1 honed hE1 hE2 htm
  go_wp2_with (refine wpL_storeRow (cells := #[.int .i64 kd, .string sd, .slice ko keys.length kc, .slice o l.length c, .int .i64 x.kind, .int .i64 x.n, .float .f64 x.f, .string x.s, .slice x.ko x.kn x.kc, .slice x.o x.m x.c, .int .i64 nd]) rfl 47 _ _ rfl Tryz.size47 rfl rfl hb2 rfl (by simpa using honed'.out) ?_; intro w3 h3 g3; have e0 : w3.cell? ⟨w.heap.size, 0, none⟩ = some (.int .i64 kd) := cells_of h3 0; have e1 : w3.cell? ⟨w.heap.size, 1, none⟩ = some (.string sd) := cells_of h3 1; have e2 : w3.cell? ⟨w.heap.size, 2, none⟩ = some (.slice ko keys.length kc) := cells_of h3 2; have e3 : w3.cell? ⟨w.heap.size, 3, none⟩ = some (.slice o l.length c) := cells_of h3 3; have e4 : w3.cell? ⟨w.heap.size, 4, none⟩ = some (.int .i64 x.kind) := cells_of h3 4; have e5 : w3.cell? ⟨w.heap.size, 5, none⟩ = some (.int .i64 x.n) := cells_of h3 5; have e6 : w3.cell? ⟨w.heap.size, 6, none⟩ = some (.float .f64 x.f) := cells_of h3 6; have e7 : w3.cell? ⟨w.heap.size, 7, none⟩ = some (.string x.s) := cells_of h3 7; have e8 : w3.cell? ⟨w.heap.size, 8, none⟩ = some (.slice x.ko x.kn x.kc) := cells_of h3 8; have e9 : w3.cell? ⟨w.heap.size, 9, none⟩ = some (.slice x.o x.m x.c) := cells_of h3 9; have e10 : w3.cell? ⟨w.heap.size, 10, none⟩ = some (.int .i64 nd) := cells_of h3 10)
  have hE3 : Ext w w3 := hA.grown g3 (fun j hj => by cases hj; exact Nat.le_refl _)
  have hm3 : Mv w2 [w.heap.size] w3 [] := ((Mv.refl w2 [w.heap.size]).grown g3 (fun j hj => by cases hj; simp)).less (Z := []) (by simp)
  have hv3 := Lib.hid (hv'.out.mv hm3)
  have hl3 := Lib.hid (hl'.out.mv hm3)
  have he3 := Lib.hid (kEl.mv h2'.out hm3)
  clear h3 g3 hb2 hm3 hA hv' hl' h2' honed'
  refine orderly_c v (cs := x.list) hv3.out _ ?_
  obtain ⟨b1, hb1⟩ : ∃ b1, v.orderly = b1 := ⟨_, rfl⟩
  rw [hb1]
  have hb1' := Lib.hid hb1
  clear hb1
  intro w4 hE4
  replace e0 := hE4.keep e0; replace e1 := hE4.keep e1; replace e2 := hE4.keep e2; replace e3 := hE4.keep e3; replace e4 := hE4.keep e4; replace e5 := hE4.keep e5; replace e6 := hE4.keep e6; replace e7 := hE4.keep e7; replace e8 := hE4.keep e8; replace e9 := hE4.keep e9; replace e10 := hE4.keep e10
  dsimp only
  cases b1
  · go_wp2_with fail
    exact hR'.out _ (fun h => by cases h) _ (hE3.trans hE4)
  go_wp2_with fail
  refine orderlyValues_c (hl3.out.mv (hE4.mv _)) _ ?_
  obtain ⟨b2, hb2⟩ : ∃ b2, V.orderlyL l = b2 := ⟨_, rfl⟩
  rw [hb2]
  have hb2' := Lib.hid hb2
  clear hb2
  intro w5 hE5
  replace e0 := hE5.keep e0; replace e1 := hE5.keep e1; replace e2 := hE5.keep e2; replace e3 := hE5.keep e3; replace e4 := hE5.keep e4; replace e5 := hE5.keep e5; replace e6 := hE5.keep e6; replace e7 := hE5.keep e7; replace e8 := hE5.keep e8; replace e9 := hE5.keep e9; replace e10 := hE5.keep e10
  dsimp only
  cases b2
  · go_wp2_with fail
    exact hR'.out _ (fun h => by cases h) _ (hE3.trans (hE4.trans hE5))
  go_wp2_with fail
  refine keySorted_any (kEl.mv he3.out ((hE4.trans hE5).mv _)) _ ?_
  intro b3 w6 hE6
  dsimp only
  go_wp2_with fail
  exact hR'.out _ (fun _ => htm2.out hb1'.out hb2'.out) _ (hE3.trans (hE4.trans (hE5.trans hE6)))

/-- slices of paths -/
def kPth : Kind (List EL) where
  size := 1
  is := fun w X cs p => ∃ v, cs = [v] ∧ IsSl kEl 168 w X v p
  mv := fun ⟨v, h1, h2⟩ m => ⟨v, h1, h2.mv m (by simp [kEl])⟩
  len := fun ⟨v, h1, _⟩ => by rw [h1]; rfl
  one := fun ⟨v, h1, h2⟩ u hu => by
    rw [h1, List.mem_singleton] at hu
    subst hu; exact h2.one

end Go.Proofs.YtihapgangilncaaGreat
