/- spec.EqualValues, EqualKeys, elemRank, EqualElems, HasPrefix, EqualPaths. spec.elemRank, EqualElems, HasPrefix, EqualPaths. -/
import Derived.Test.YtmihdlbcjiaibaaPaths
import Derived.Test.YtmihdlbcjiaibaaEqL
import Derived.Test.YtmihdlbcjiaibaaAlikeB
namespace Go.Proofs.Ytmihdlbcjiaibaa
open Go.RowKit

set_option maxRecDepth 100000 in
set_option maxHeartbeats 2000000 in
set_option pp.maxSteps 1000000 in
set_option pp.deepTerms true in
theorem equalValues_c {w : World} {X Y : List Nat} {cs ds : List Value} {a b : V} (ha : IsV w X cs a) (hb : IsV w Y ds b) (R : Ending → World → Prop) (hR : Ends R w (.bool (V.eqP a.clean b.clean))) :
    Calls Try.prog 110 #[.agg cs.toArray, .agg ds.toArray] w R := by
  obtain ⟨x, rfl⟩ := ha.shape
  obtain ⟨y, rfl⟩ := hb.shape
  have ha' := Lib.hid (ha.mv ((Mv.refl _ _).less (Z := []) (by simp)))
  have hb' := Lib.hid (hb.mv ((Mv.refl _ _).less (Z := []) (by simp)))
  have hR' := Lib.hid hR
  clear hR ha hb
  simp only [Cells6.list]
  go_enter Try.func110, Try.ntmps110
  go_wp2_with fail
  refine abs2 (G := Code.wp _ _ _ _) ?_
  intro w1 hE1 hb1 hb2 hs1
  have e0 : w1.cell? ⟨w.heap.size, 0, none⟩ = some (.int .i64 x.kind) := cells_of hb1 0; have e1 : w1.cell? ⟨w.heap.size, 1, none⟩ = some (.int .i64 x.n) := cells_of hb1 1; have e2 : w1.cell? ⟨w.heap.size, 2, none⟩ = some (.float .f64 x.f) := cells_of hb1 2; have e3 : w1.cell? ⟨w.heap.size, 3, none⟩ = some (.string x.s) := cells_of hb1 3; have e4 : w1.cell? ⟨w.heap.size, 4, none⟩ = some (.slice x.ko x.kn x.kc) := cells_of hb1 4; have e5 : w1.cell? ⟨w.heap.size, 5, none⟩ = some (.slice x.o x.m x.c) := cells_of hb1 5
  have f0 : w1.cell? ⟨w.heap.size + 1, 0, none⟩ = some (.int .i64 y.kind) := cells_of hb2 0; have f1 : w1.cell? ⟨w.heap.size + 1, 1, none⟩ = some (.int .i64 y.n) := cells_of hb2 1; have f2 : w1.cell? ⟨w.heap.size + 1, 2, none⟩ = some (.float .f64 y.f) := cells_of hb2 2; have f3 : w1.cell? ⟨w.heap.size + 1, 3, none⟩ = some (.string y.s) := cells_of hb2 3; have f4 : w1.cell? ⟨w.heap.size + 1, 4, none⟩ = some (.slice y.ko y.kn y.kc) := cells_of hb2 4; have f5 : w1.cell? ⟨w.heap.size + 1, 5, none⟩ = some (.slice y.o y.m y.c) := cells_of hb2 5
  clear hb1 hb2 hs1
  have hC : Ext w1 w1.drew := (Ext.refl _).drew
  refine wp_region_script [0, 2, 5] [1] (fun w' => Ext w1 w') [(.read, 0), (.read, 2), (.one, 1), (.one, 3), (.one, 4), (.pure, 5)] (by kernel_rfl) (by kernel_rfl) ?_
  (apply scr_read'; (· rfl); (· rfl); (· first | exact hC | exact (Ext.refl _).drew); (· (intro w' hw'; have e0_ := hw'.keep e0; have e1_ := hw'.keep e1; have e2_ := hw'.keep e2; have e3_ := hw'.keep e3; have e4_ := hw'.keep e4; have e5_ := hw'.keep e5; go_simp; try rfl)); (· (simp [go_sem]; try rfl)))
  (apply scr_read'; (· rfl); (· rfl); (· first | exact hC | exact (Ext.refl _).drew); (· (intro w' hw'; have f0_ := hw'.keep f0; have f1_ := hw'.keep f1; have f2_ := hw'.keep f2; have f3_ := hw'.keep f3; have f4_ := hw'.keep f4; have f5_ := hw'.keep f5; go_simp; try rfl)); (· (simp [go_sem]; try rfl)))
  refine scr_one rfl rfl (fun K hK => ?_)
  go_simp
  refine clean_all a _ [] x.list (ha'.out.mv ((hE1.trans hC).mv _)) (Old.nil _) _ ?_
  intro w2 cs2 hE2 h2
  obtain ⟨x2, rfl⟩ := h2.shape
  have h2' := Lib.hid h2
  clear h2
  refine hK _ _ (fun _ => hC.trans hE2) ?_
  clear hK
  refine scr_one rfl rfl (fun K hK => ?_)
  go_simp
  refine clean_all b _ [] y.list (hb'.out.mv ((hE1.trans (hC.trans hE2)).mv _)) (Old.nil _) _ ?_
  intro w3 cs3 hE3 h3
  obtain ⟨y2, rfl⟩ := h3.shape
  have h3' := Lib.hid h3
  clear h3
  refine hK _ _ (fun h => by simp at h) ?_
  clear hK
  refine scr_one rfl rfl (fun K hK => ?_)
  go_simp
  refine equalPlain_c a.clean (cs := x2.list) (ds := y2.list) (h2'.out.mv (hE3.mv _)) h3'.out _ ?_
  intro w4 hE4
  refine hK _ _ (fun h => by simp at h) ?_
  clear hK
  (apply scr_pure'; (· rfl); (· rfl); (· (intro w'; go_simp; try rfl)); (· (simp [go_sem]; try rfl)))
  refine scr_end ?_
  simp only [Exit.then]
  go_wp2_with fail
  exact hR'.out _ (hE1.trans (hC.trans (hE2.trans (hE3.trans hE4))))

def eqKv (p q : ByteArray × V) : Bool := p.1 == q.1 && V.eqP p.2.clean q.2.clean
def eqKeys (a b : EL) : Bool := listB eqKv (a.keys.zip a.l) (b.keys.zip b.l)

set_option maxRecDepth 100000 in
set_option maxHeartbeats 4000000 in
set_option pp.maxSteps 1000000 in
set_option pp.deepTerms true in
theorem equalKeys_c {w : World} {X Y : List Nat} {cs ds : List Value} {a b : EL} (ha : kEl.is w X cs a) (hb : kEl.is w Y ds b) (R : Ending → World → Prop) (hR : Ends R w (.bool (eqKeys a b))) :
    Calls Try.prog 109 #[.agg cs.toArray, .agg ds.toArray] w R := by
  obtain ⟨kind, s, keys, l, v, n⟩ := a
  obtain ⟨kind2, s2, keys2, l2, v2, n2⟩ := b
  obtain ⟨vk, vl, vs, rfl, -, -, -, hks, hl, hv⟩ := ha
  obtain ⟨vk2, vl2, vs2, rfl, -, -, -, hks2, hl2, hv2⟩ := hb
  dsimp only at hks hl hv hks2 hl2 hv2 hR ⊢
  obtain ⟨x, rfl⟩ := hv.shape
  obtain ⟨y, rfl⟩ := hv2.shape
  obtain ⟨ko, kc, kb, koff, rfl, k2, k3, -, -⟩ := id hks.ex
  obtain ⟨o, c, b, off, rfl, c2, c3, -, -⟩ := id hl.ex
  obtain ⟨ko2, kc2, kb2, koff2, rfl, j2, j3, -, -⟩ := id hks2.ex
  obtain ⟨o2, d, b2, off2, rfl, d2, d3, -, -⟩ := id hl2.ex
  have hks' := Lib.hid hks
  have hl' := Lib.hid hl
  have hks2' := Lib.hid hks2
  have hl2' := Lib.hid hl2
  have hR' := Lib.hid hR
  clear hR hks hl hv hks2 hl2 hv2
  simp only [Cells6.list, List.cons_append, List.nil_append]
  go_enter Try.func109, Try.ntmps109
  go_wp2_with fail
  refine abs2 (G := Code.wp _ _ _ _) ?_
  intro w1 hE1 hb1 hb2 hs1
  have e0 : w1.cell? ⟨w.heap.size, 0, none⟩ = some (.int .i64 kind) := cells_of hb1 0; have e1 : w1.cell? ⟨w.heap.size, 1, none⟩ = some (.string s) := cells_of hb1 1; have e2 : w1.cell? ⟨w.heap.size, 2, none⟩ = some (.slice ko keys.length kc) := cells_of hb1 2; have e3 : w1.cell? ⟨w.heap.size, 3, none⟩ = some (.slice o l.length c) := cells_of hb1 3; have e4 : w1.cell? ⟨w.heap.size, 4, none⟩ = some (.int .i64 x.kind) := cells_of hb1 4; have e5 : w1.cell? ⟨w.heap.size, 5, none⟩ = some (.int .i64 x.n) := cells_of hb1 5; have e6 : w1.cell? ⟨w.heap.size, 6, none⟩ = some (.float .f64 x.f) := cells_of hb1 6; have e7 : w1.cell? ⟨w.heap.size, 7, none⟩ = some (.string x.s) := cells_of hb1 7; have e8 : w1.cell? ⟨w.heap.size, 8, none⟩ = some (.slice x.ko x.kn x.kc) := cells_of hb1 8; have e9 : w1.cell? ⟨w.heap.size, 9, none⟩ = some (.slice x.o x.m x.c) := cells_of hb1 9; have e10 : w1.cell? ⟨w.heap.size, 10, none⟩ = some (.int .i64 n) := cells_of hb1 10
  have f0 : w1.cell? ⟨w.heap.size + 1, 0, none⟩ = some (.int .i64 kind2) := cells_of hb2 0; have f1 : w1.cell? ⟨w.heap.size + 1, 1, none⟩ = some (.string s2) := cells_of hb2 1; have f2 : w1.cell? ⟨w.heap.size + 1, 2, none⟩ = some (.slice ko2 keys2.length kc2) := cells_of hb2 2; have f3 : w1.cell? ⟨w.heap.size + 1, 3, none⟩ = some (.slice o2 l2.length d) := cells_of hb2 3; have f4 : w1.cell? ⟨w.heap.size + 1, 4, none⟩ = some (.int .i64 y.kind) := cells_of hb2 4; have f5 : w1.cell? ⟨w.heap.size + 1, 5, none⟩ = some (.int .i64 y.n) := cells_of hb2 5; have f6 : w1.cell? ⟨w.heap.size + 1, 6, none⟩ = some (.float .f64 y.f) := cells_of hb2 6; have f7 : w1.cell? ⟨w.heap.size + 1, 7, none⟩ = some (.string y.s) := cells_of hb2 7; have f8 : w1.cell? ⟨w.heap.size + 1, 8, none⟩ = some (.slice y.ko y.kn y.kc) := cells_of hb2 8; have f9 : w1.cell? ⟨w.heap.size + 1, 9, none⟩ = some (.slice y.o y.m y.c) := cells_of hb2 9; have f10 : w1.cell? ⟨w.heap.size + 1, 10, none⟩ = some (.int .i64 n2) := cells_of hb2 10
  clear hb1 hb2 hs1 e0 e1 e4 e5 e6 e7 e8 e9 e10 f0 f1 f4 f5 f6 f7 f8 f9 f10
  obtain ⟨N, hN⟩ : ∃ N, (keys.zip l).length = N := ⟨_, rfl⟩
  obtain ⟨M, hM⟩ : ∃ M, (keys2.zip l2).length = M := ⟨_, rfl⟩
  have hm1 : (if l.length < keys.length then (l.length : Int) else (keys.length : Int)) = (N : Int) := by rw [← hN, List.length_zip]; split <;> omega
  have hm2 : (if l2.length < keys2.length then (l2.length : Int) else (keys2.length : Int)) = (M : Int) := by rw [← hM, List.length_zip]; split <;> omega
  have hNk : N ≤ keys.length := by rw [← hN, List.length_zip]; exact Nat.min_le_left _ _
  have hNl : N ≤ l.length := by rw [← hN, List.length_zip]; exact Nat.min_le_right _ _
  have hMk : M ≤ keys2.length := by rw [← hM, List.length_zip]; exact Nat.min_le_left _ _
  have hMl : M ≤ l2.length := by rw [← hM, List.length_zip]; exact Nat.min_le_right _ _
  have hN' := Lib.hid hN
  have hM' := Lib.hid hM
  clear hN hM
  refine wp_region_script (List.range 16) [] (fun w' => w' = w1.drew) [(.read, 0), (.read, 1), (.read, 2), (.read, 3), (.read, 4), (.read, 5), (.read, 6), (.read, 7), (.read, 8), (.read, 9), (.read, 10), (.read, 11), (.read, 12), (.read, 13), (.read, 14), (.read, 15)] (by kernel_rfl) (by kernel_rfl) ?_
  iterate 16 (first | (apply scr_r; (· rfl); (· (first | rfl | (simp [Region.wanted, yielded, go_sem]; done) | (simp [Region.wanted, yielded, go_sem, *]; done))); (· (go_simp; try rfl)); (· (simp [go_sem]; try rfl))) | (apply scr_r0; (· rfl); (· (first | rfl | (simp [Region.wanted, yielded, go_sem]; done) | (simp [Region.wanted, yielded, go_sem, *]; done))); (· (simp [go_sem]; try rfl))))
  refine scr_end ?_
  simp only [Exit.then]
  have hm1' := Lib.hid hm1
  have hm2' := Lib.hid hm2
  clear hm1 hm2
  by_cases hNM : N = M
  rotate_left
  · have hnm : ((N : Int) != (M : Int)) = true := by rw [bne_iff_ne]; omega
    have hNM' := Lib.hid hNM
    clear hNM
    go_wp2_with fail
    refine hR'.out.bool ?_ _ hE1.drew
    simp [eqKeys, listB, hN'.out, hM'.out, hNM'.out]
  subst hNM
  have hlen : (keys.zip l).length = (keys2.zip l2).length := by rw [hN'.out, hM'.out]
  have hlen' := Lib.hid hlen
  clear hlen
  have e2' := Lib.hid e2
  have e3' := Lib.hid e3
  have f2' := Lib.hid f2
  have f3' := Lib.hid f3
  clear e2 e3 f2 f3
  go_wp2_with fail
  go_loopw [7] (fun i wr => ∃ k : Nat, k ≤ N ∧ i = .int .i64 k ∧ Ext w1 wr ∧ Hid (∀ j (h : j < (keys.zip l).length) (h2 : j < (keys2.zip l2).length), j < k → eqKv (keys.zip l)[j] (keys2.zip l2)[j] = true)) (fun i _ => N - (intOf i).toNat)
  case atStart => exact ⟨0, Nat.zero_le _, rfl, (Ext.refl _).drew, Lib.hid fun j _ _ hj => by omega⟩
  case round =>
    obtain ⟨k, hk, rfl, hE, hall⟩ := hrel
    rename World => wr
    have e2 := hE.keep e2'.out
    have e3 := hE.keep e3'.out
    have f2 := hE.keep f2'.out
    have f3 := hE.keep f3'.out
    have hEE := hE1.trans hE
    by_cases hlt : k < N
    · have hkk : k < keys.length := by omega
      have hkl : k < l.length := by omega
      have hkk2 : k < keys2.length := by omega
      have hkl2 : k < l2.length := by omega
      obtain ⟨_, _, _, _, e, -, -, k4, k5⟩ := hks'.out.ex
      cases e
      obtain ⟨_, _, _, _, e, -, -, m4, m5⟩ := hks2'.out.ex
      cases e
      obtain ⟨_, _, _, _, e, -, -, h4, h5⟩ := hl'.out.ex
      cases e
      obtain ⟨_, _, _, _, e, -, -, g4, g5⟩ := hl2'.out.ex
      cases e
      obtain ⟨rfl, -⟩ := k4 (by omega)
      obtain ⟨rfl, -⟩ := m4 (by omega)
      obtain ⟨rfl, -⟩ := h4 (by omega)
      obtain ⟨rfl, -⟩ := g4 (by omega)
      have q0 := hEE.keep (k5 k hkk).1
      have q1 := hEE.keep (m5 k hkk2).1
      have hk1 : keys.getD k ByteArray.empty = keys[k] := by simp [hkk]
      have hk2 : keys2.getD k ByteArray.empty = keys2[k] := by simp [hkk2]
      rw [hk1] at q0
      rw [hk2] at q1
      obtain ⟨a, a0, a1, a2, a3, a4, a5, hva⟩ := h5 k hkl
      obtain ⟨b, b0, b1, b2, b3, b4, b5, hvb⟩ := g5 k hkl2
      replace a0 := hEE.keep a0; replace a1 := hEE.keep a1; replace a2 := hEE.keep a2; replace a3 := hEE.keep a3; replace a4 := hEE.keep a4; replace a5 := hEE.keep a5; replace b0 := hEE.keep b0; replace b1 := hEE.keep b1; replace b2 := hEE.keep b2; replace b3 := hEE.keep b3; replace b4 := hEE.keep b4; replace b5 := hEE.keep b5
      have hva' := Lib.hid hva
      have hvb' := Lib.hid hvb
      have hi1 : (k : Int) < (keys.length : Int) := by omega
      have hi2 : (k : Int) < (l.length : Int) := by omega
      have hi3 : (k : Int) < (keys2.length : Int) := by omega
      have hi4 : (k : Int) < (l2.length : Int) := by omega
      have hi5 : (k : Int) < (N : Int) := by omega
      have hkm : (k : Int) + 1 ≤ 9223372036854775807 := by omega
      clear k5 m5 k4 m4 h4 h5 g4 g5 hk1 hk2 hva hvb
      have hz : ∀ (h : k < (keys.zip l).length) (h2 : k < (keys2.zip l2).length), eqKv (keys.zip l)[k] (keys2.zip l2)[k] = (keys[k] == keys2[k] && V.eqP (l[k]).clean (l2[k]).clean) := fun h h2 => by simp [eqKv]
      have hz' := Lib.hid hz
      clear hz
      by_cases hke : keys[k] = keys2[k]
      · have hkt : ((keys[k]).toList == (keys2[k]).toList) = true := by rw [hke]; simp
        have hke' := Lib.hid hke
        clear hke
        go_wp2_with fail
        refine wp_region_script [0, 1, 2, 3, 4, 5, 6, 7, 8, 9, 10, 11, 12, 13, 14, 15, 16, 17, 18, 19, 20, 21, 23, 24] [] (fun w' => w' = wr.drew) [(.read, 0), (.read, 1), (.read, 2), (.read, 3), (.read, 4), (.read, 5), (.read, 6), (.read, 7), (.read, 8), (.read, 9), (.read, 10), (.read, 11), (.read, 12), (.read, 13), (.read, 14), (.read, 15), (.read, 16), (.read, 17), (.read, 18), (.read, 19), (.read, 20), (.read, 21), (.one, 22), (.pure, 23), (.pure, 24)] (by kernel_rfl) (by kernel_rfl) ?_
        iterate 22 (first | (apply scr_r; (· rfl); (· (first | rfl | (simp [Region.wanted, yielded, go_sem]; done) | (simp [Region.wanted, yielded, go_sem, *]; done))); (· (go_simp; try rfl)); (· (simp [go_sem]; try rfl))) | (apply scr_r0; (· rfl); (· (first | rfl | (simp [Region.wanted, yielded, go_sem]; done) | (simp [Region.wanted, yielded, go_sem, *]; done))); (· (simp [go_sem]; try rfl))))
        refine scr_oneG rfl (by simp [Region.wanted, yielded, go_sem]) (fun K hK => ?_)
        go_simp
        refine equalValues_c (cs := a.list) (ds := b.list) (hva'.out.mv (hEE.drew.mv _)) (hvb'.out.mv (hEE.drew.mv _)) _ ?_
        obtain ⟨bb, hbb⟩ : ∃ bb, V.eqP (l[k]).clean (l2[k]).clean = bb := ⟨_, rfl⟩
        rw [hbb]
        intro w3 hE3
        refine hK _ _ (fun h => by simp at h) ?_
        clear hK
        have hbb' := Lib.hid hbb
        clear hbb
        cases bb
        all_goals
          (first | (apply scr_pG; (· rfl); (· (first | rfl | (simp [Region.wanted, yielded, go_sem]; done) | (simp [Region.wanted, yielded, go_sem, *]; done))); (· (intro w'; go_simp; try rfl)); (· (simp [go_sem]; try rfl))) | (apply scr_p0; (· rfl); (· (first | rfl | (simp [Region.wanted, yielded, go_sem]; done) | (simp [Region.wanted, yielded, go_sem, *]; done))); (· (simp [go_sem]; try rfl))))
          (first | (apply scr_pG; (· rfl); (· (first | rfl | (simp [Region.wanted, yielded, go_sem]; done) | (simp [Region.wanted, yielded, go_sem, *]; done))); (· (intro w'; go_simp; try rfl)); (· (simp [go_sem]; try rfl))) | (apply scr_p0; (· rfl); (· (first | rfl | (simp [Region.wanted, yielded, go_sem]; done) | (simp [Region.wanted, yielded, go_sem, *]; done))); (· (simp [go_sem]; try rfl))))
          refine scr_end ?_
          simp only [Exit.then]
          go_wp2_with fail
        · refine hR'.out.bool ?_ _ (hEE.drew.trans hE3)
          have : pairB eqKv (keys.zip l) (keys2.zip l2) = false := by
            rw [Bool.eq_false_iff]
            intro h
            have := (pairB_iff hlen'.out).1 h k (by rw [hN'.out]; exact hlt) (by rw [hM'.out]; exact hlt)
            rw [hz'.out, hbb'.out] at this
            simp at this
          simp [eqKeys, listB, this]
        · go_roundw
          case rel =>
            refine ⟨k + 1, by omega, by go_num, hE.drew.trans hE3, Lib.hid fun j h h2 hj => ?_⟩
            by_cases e : j = k
            · subst e; rw [hz'.out, hbb'.out, hke'.out]; simp
            · exact hall.out j h h2 (by omega)
          case measure => simp [intOf]; omega
      · have hkt : ((keys[k]).toList == (keys2[k]).toList) = false := beq_eq_false_iff_ne.2 fun h => hke (toList_inj h)
        have hke' := Lib.hid hke
        clear hke
        go_wp2_with fail
        refine wp_region_script [0, 1, 2, 3, 4, 5, 6, 7, 8, 9, 10, 11, 12, 13, 14, 15, 16, 17, 18, 19, 20, 21, 23, 24] [] (fun w' => w' = wr.drew) [(.read, 0), (.read, 1), (.read, 2), (.read, 3), (.read, 4), (.read, 5), (.read, 6), (.read, 7), (.read, 8), (.read, 9), (.read, 10), (.read, 11), (.read, 12), (.read, 13), (.read, 14), (.read, 15), (.read, 16), (.read, 17), (.read, 18), (.read, 19), (.read, 20), (.read, 21), (.one, 22), (.pure, 23), (.pure, 24)] (by kernel_rfl) (by kernel_rfl) ?_
        iterate 22 (first | (apply scr_r; (· rfl); (· (first | rfl | (simp [Region.wanted, yielded, go_sem]; done) | (simp [Region.wanted, yielded, go_sem, *]; done))); (· (go_simp; try rfl)); (· (simp [go_sem]; try rfl))) | (apply scr_r0; (· rfl); (· (first | rfl | (simp [Region.wanted, yielded, go_sem]; done) | (simp [Region.wanted, yielded, go_sem, *]; done))); (· (simp [go_sem]; try rfl))))
        refine scr_one0 rfl (by simp [Region.wanted, yielded, go_sem]) (fun h => by simp at h) (by simp [go_sem]; rfl) ?_
        (first | (apply scr_pG; (· rfl); (· (first | rfl | (simp [Region.wanted, yielded, go_sem]; done) | (simp [Region.wanted, yielded, go_sem, *]; done))); (· (intro w'; go_simp; try rfl)); (· (simp [go_sem]; try rfl))) | (apply scr_p0; (· rfl); (· (first | rfl | (simp [Region.wanted, yielded, go_sem]; done) | (simp [Region.wanted, yielded, go_sem, *]; done))); (· (simp [go_sem]; try rfl))))
        (first | (apply scr_pG; (· rfl); (· (first | rfl | (simp [Region.wanted, yielded, go_sem]; done) | (simp [Region.wanted, yielded, go_sem, *]; done))); (· (intro w'; go_simp; try rfl)); (· (simp [go_sem]; try rfl))) | (apply scr_p0; (· rfl); (· (first | rfl | (simp [Region.wanted, yielded, go_sem]; done) | (simp [Region.wanted, yielded, go_sem, *]; done))); (· (simp [go_sem]; try rfl))))
        refine scr_end ?_
        simp only [Exit.then]
        go_wp2_with fail
        refine hR'.out.bool ?_ _ hEE.drew
        have : pairB eqKv (keys.zip l) (keys2.zip l2) = false := by
          rw [Bool.eq_false_iff]
          intro h
          have := (pairB_iff hlen'.out).1 h k (by rw [hN'.out]; exact hlt) (by rw [hM'.out]; exact hlt)
          rw [hz'.out] at this
          simp [hke'.out] at this
        simp [eqKeys, listB, this]
    · have hp : pairB eqKv (keys.zip l) (keys2.zip l2) = true := (pairB_iff hlen'.out).2 fun j h h2 => hall.out j h h2 (by rw [hN'.out] at h; omega)
      have hp' := Lib.hid hp
      have hi5 : ¬ (k : Int) < (N : Int) := by omega
      clear hp
      go_wp2_with fail
      exact hR'.out.bool (by simp [eqKeys, listB, hp'.out, hlen'.out]) _ hEE
end Go.Proofs.Ytmihdlbcjiaibaa

namespace Go.Proofs.Ytmihdlbcjiaibaa
open Go.RowKit

def rankOf (k : Int) : Int := if k = 1 ∨ k = 2 ∨ k = 3 then k else 0
def eqEl (a b : EL) : Bool := if rankOf a.kind = rankOf b.kind then (if rankOf a.kind = 1 then eqKeys a b else if rankOf a.kind = 2 then V.eqP a.v.clean b.v.clean else if rankOf a.kind = 3 then a.n == b.n else a.s == b.s) else false

set_option maxRecDepth 100000 in
set_option maxHeartbeats 2000000 in
theorem elemRank_c {w : World} {kind n : Int} {s : ByteArray} {vk vl x0 x1 x2 x3 x4 x5 : Value} (R : Ending → World → Prop) (hR : Ends R w (.int .i64 (rankOf kind))) :
    Calls Try.prog 108 #[.agg #[.int .i64 kind, .string s, vk, vl, x0, x1, x2, x3, x4, x5, .int .i64 n]] w R := by
  have hR' := Lib.hid hR
  clear hR
  have hk : kind = 1 ∨ kind = 2 ∨ kind = 3 ∨ ((kind == 1) = false ∧ (kind == 2) = false ∧ (kind == 3) = false) := by
    by_cases h1 : kind = 1 <;> by_cases h2 : kind = 2 <;> by_cases h3 : kind = 3 <;> simp [h1, h2, h3]
  rcases hk with rfl | rfl | rfl | ⟨q1, q2, q3⟩
  all_goals
    go_enter Try.func108, Try.ntmps108
    go_wp2_with fail
  · exact hR'.out.int (by simp [rankOf]) _ (.alloc _ _)
  · exact hR'.out.int (by simp [rankOf]) _ (.alloc _ _)
  · exact hR'.out.int (by simp [rankOf]) _ (.alloc _ _)
  · exact hR'.out.int (by simp at q1 q2 q3; simp [rankOf, q1, q2, q3]) _ (.alloc _ _)

set_option maxRecDepth 100000 in
set_option maxHeartbeats 4000000 in
set_option pp.maxSteps 1000000 in
set_option pp.deepTerms true in
theorem equalElems_c {w : World} {X Y : List Nat} {cs ds : List Value} {a b : EL} (ha : kEl.is w X cs a) (hb : kEl.is w Y ds b) (R : Ending → World → Prop) (hR : Ends R w (.bool (eqEl a b))) :
    Calls Try.prog 93 #[.agg cs.toArray, .agg ds.toArray] w R := by
  have ha' := Lib.hid ha
  have hb' := Lib.hid hb
  obtain ⟨kind, s, keys, l, v, n⟩ := a
  obtain ⟨kind2, s2, keys2, l2, v2, n2⟩ := b
  obtain ⟨vk, vl, vs, rfl, -, -, -, hks, hl, hv⟩ := ha
  obtain ⟨vk2, vl2, vs2, rfl, -, -, -, hks2, hl2, hv2⟩ := hb
  dsimp only at hks hl hv hks2 hl2 hv2 hR ⊢
  obtain ⟨x, rfl⟩ := hv.shape
  obtain ⟨y, rfl⟩ := hv2.shape
  obtain ⟨ko, kc, kb, koff, rfl, k2, k3, -, -⟩ := id hks.ex
  obtain ⟨o, c, b, off, rfl, c2, c3, -, -⟩ := id hl.ex
  obtain ⟨ko2, kc2, kb2, koff2, rfl, j2, j3, -, -⟩ := id hks2.ex
  obtain ⟨o2, d, b2, off2, rfl, d2, d3, -, -⟩ := id hl2.ex
  have hv' := Lib.hid hv
  have hv2' := Lib.hid hv2
  have hR' := Lib.hid hR
  clear hR hks hl hv hks2 hl2 hv2
  simp only [Cells6.list, List.cons_append, List.nil_append] at ha' hb' ⊢
  go_enter Try.func93, Try.ntmps93
  go_wp2_with fail
  refine abs2 (G := Code.wp _ _ _ _) ?_
  intro w1 hE1 hb1 hb2 hs1
  have e0 : w1.cell? ⟨w.heap.size, 0, none⟩ = some (.int .i64 kind) := cells_of hb1 0; have e1 : w1.cell? ⟨w.heap.size, 1, none⟩ = some (.string s) := cells_of hb1 1; have e2 : w1.cell? ⟨w.heap.size, 2, none⟩ = some (.slice ko keys.length kc) := cells_of hb1 2; have e3 : w1.cell? ⟨w.heap.size, 3, none⟩ = some (.slice o l.length c) := cells_of hb1 3; have e4 : w1.cell? ⟨w.heap.size, 4, none⟩ = some (.int .i64 x.kind) := cells_of hb1 4; have e5 : w1.cell? ⟨w.heap.size, 5, none⟩ = some (.int .i64 x.n) := cells_of hb1 5; have e6 : w1.cell? ⟨w.heap.size, 6, none⟩ = some (.float .f64 x.f) := cells_of hb1 6; have e7 : w1.cell? ⟨w.heap.size, 7, none⟩ = some (.string x.s) := cells_of hb1 7; have e8 : w1.cell? ⟨w.heap.size, 8, none⟩ = some (.slice x.ko x.kn x.kc) := cells_of hb1 8; have e9 : w1.cell? ⟨w.heap.size, 9, none⟩ = some (.slice x.o x.m x.c) := cells_of hb1 9; have e10 : w1.cell? ⟨w.heap.size, 10, none⟩ = some (.int .i64 n) := cells_of hb1 10
  have f0 : w1.cell? ⟨w.heap.size + 1, 0, none⟩ = some (.int .i64 kind2) := cells_of hb2 0; have f1 : w1.cell? ⟨w.heap.size + 1, 1, none⟩ = some (.string s2) := cells_of hb2 1; have f2 : w1.cell? ⟨w.heap.size + 1, 2, none⟩ = some (.slice ko2 keys2.length kc2) := cells_of hb2 2; have f3 : w1.cell? ⟨w.heap.size + 1, 3, none⟩ = some (.slice o2 l2.length d) := cells_of hb2 3; have f4 : w1.cell? ⟨w.heap.size + 1, 4, none⟩ = some (.int .i64 y.kind) := cells_of hb2 4; have f5 : w1.cell? ⟨w.heap.size + 1, 5, none⟩ = some (.int .i64 y.n) := cells_of hb2 5; have f6 : w1.cell? ⟨w.heap.size + 1, 6, none⟩ = some (.float .f64 y.f) := cells_of hb2 6; have f7 : w1.cell? ⟨w.heap.size + 1, 7, none⟩ = some (.string y.s) := cells_of hb2 7; have f8 : w1.cell? ⟨w.heap.size + 1, 8, none⟩ = some (.slice y.ko y.kn y.kc) := cells_of hb2 8; have f9 : w1.cell? ⟨w.heap.size + 1, 9, none⟩ = some (.slice y.o y.m y.c) := cells_of hb2 9; have f10 : w1.cell? ⟨w.heap.size + 1, 10, none⟩ = some (.int .i64 n2) := cells_of hb2 10
  clear hb1 hb2 hs1
  have hC : Ext w1 w1.drew := (Ext.refl _).drew
  refine wp_region_script [0, 2, 4] [1] (fun w' => Ext w1 w') [(.read, 0), (.read, 2), (.one, 1), (.one, 3), (.pure, 4)] (by kernel_rfl) (by kernel_rfl) ?_
  (apply scr_read'; (· rfl); (· rfl); (· first | exact hC | exact (Ext.refl _).drew); (· (intro w' hw'; have e0_ := hw'.keep e0; have e1_ := hw'.keep e1; have e2_ := hw'.keep e2; have e3_ := hw'.keep e3; have e4_ := hw'.keep e4; have e5_ := hw'.keep e5; have e6_ := hw'.keep e6; have e7_ := hw'.keep e7; have e8_ := hw'.keep e8; have e9_ := hw'.keep e9; have e10_ := hw'.keep e10; go_simp; try rfl)); (· (simp [go_sem]; try rfl)))
  (apply scr_read'; (· rfl); (· rfl); (· first | exact hC | exact (Ext.refl _).drew); (· (intro w' hw'; have f0_ := hw'.keep f0; have f1_ := hw'.keep f1; have f2_ := hw'.keep f2; have f3_ := hw'.keep f3; have f4_ := hw'.keep f4; have f5_ := hw'.keep f5; have f6_ := hw'.keep f6; have f7_ := hw'.keep f7; have f8_ := hw'.keep f8; have f9_ := hw'.keep f9; have f10_ := hw'.keep f10; go_simp; try rfl)); (· (simp [go_sem]; try rfl)))
  refine scr_one rfl rfl (fun K hK => ?_)
  go_simp
  refine elemRank_c _ ?_
  intro w2 hE2
  refine hK _ _ (fun _ => hC.trans hE2) ?_
  clear hK
  refine scr_one rfl rfl (fun K hK => ?_)
  go_simp
  refine elemRank_c _ ?_
  intro w3 hE3
  refine hK _ _ (fun h => by simp at h) ?_
  clear hK
  have hE4 : Ext w1 w3 := hC.trans (hE2.trans hE3)
  replace e0 := hE4.keep e0; replace e1 := hE4.keep e1; replace e2 := hE4.keep e2; replace e3 := hE4.keep e3; replace e4 := hE4.keep e4; replace e5 := hE4.keep e5; replace e6 := hE4.keep e6; replace e7 := hE4.keep e7; replace e8 := hE4.keep e8; replace e9 := hE4.keep e9; replace e10 := hE4.keep e10; replace f0 := hE4.keep f0; replace f1 := hE4.keep f1; replace f2 := hE4.keep f2; replace f3 := hE4.keep f3; replace f4 := hE4.keep f4; replace f5 := hE4.keep f5; replace f6 := hE4.keep f6; replace f7 := hE4.keep f7; replace f8 := hE4.keep f8; replace f9 := hE4.keep f9; replace f10 := hE4.keep f10
  have hA := hE1.trans hE4
  clear hE4 hE1 hE2 hE3 hC
  by_cases hrk : rankOf kind = rankOf kind2
  rotate_left
  · have hrb : (rankOf kind != rankOf kind2) = true := by rw [bne_iff_ne]; exact hrk
    have hrk' := Lib.hid hrk
    clear hrk
    (apply scr_pure'; (· rfl); (· rfl); (· (intro w'; go_simp; try rfl)); (· (simp [go_sem]; try rfl)))
    refine scr_end ?_
    simp only [Exit.then]
    go_wp2_with fail
    exact hR'.out.bool (by simp [eqEl, hrk'.out]) _ hA
  have hrb : (rankOf kind != rankOf kind2) = false := by simpa using hrk
  have hrk' := Lib.hid hrk
  clear hrk
  (apply scr_pure'; (· rfl); (· rfl); (· (intro w'; go_simp; try rfl)); (· (simp [go_sem]; try rfl)))
  refine scr_end ?_
  simp only [Exit.then]
  go_wp2_with fail
  refine elemRank_c _ ?_
  intro w4 hE4
  replace e0 := hE4.keep e0; replace e1 := hE4.keep e1; replace e2 := hE4.keep e2; replace e3 := hE4.keep e3; replace e4 := hE4.keep e4; replace e5 := hE4.keep e5; replace e6 := hE4.keep e6; replace e7 := hE4.keep e7; replace e8 := hE4.keep e8; replace e9 := hE4.keep e9; replace e10 := hE4.keep e10; replace f0 := hE4.keep f0; replace f1 := hE4.keep f1; replace f2 := hE4.keep f2; replace f3 := hE4.keep f3; replace f4 := hE4.keep f4; replace f5 := hE4.keep f5; replace f6 := hE4.keep f6; replace f7 := hE4.keep f7; replace f8 := hE4.keep f8; replace f9 := hE4.keep f9; replace f10 := hE4.keep f10
  replace hA := hA.trans hE4
  clear hE4
  dsimp only
  have hk : rankOf kind = 1 ∨ rankOf kind = 2 ∨ rankOf kind = 3 ∨ ((rankOf kind == 1) = false ∧ (rankOf kind == 2) = false ∧ (rankOf kind == 3) = false) := by
    by_cases h1 : rankOf kind = 1 <;> by_cases h2 : rankOf kind = 2 <;> by_cases h3 : rankOf kind = 3 <;> simp [h1, h2, h3]
  rcases hk with hk | hk | hk | ⟨q1, q2, q3⟩
  · have hk' := Lib.hid hk
    rw [hk]
    clear hk hrb
    go_wp2_with fail
    refine equalKeys_c (kEl.mv ha'.out (hA.mv _)) (kEl.mv hb'.out (hA.mv _)) _ ?_
    intro w5 hE5
    dsimp only
    go_wp2_with fail
    exact hR'.out.bool (by rw [eqEl, if_pos hrk'.out, if_pos hk'.out]) _ (hA.trans hE5)
  · have hk' := Lib.hid hk
    rw [hk]
    clear hk hrb
    go_wp2_with fail
    refine equalValues_c (cs := x.list) (ds := y.list) (hv'.out.mv (hA.mv _)) (hv2'.out.mv (hA.mv _)) _ ?_
    intro w5 hE5
    dsimp only
    go_wp2_with fail
    exact hR'.out.bool (by rw [eqEl, if_pos hrk'.out, if_neg (by rw [hk'.out]; decide), if_pos hk'.out]) _ (hA.trans hE5)
  · have hk' := Lib.hid hk
    rw [hk]
    clear hk hrb
    go_wp2_with fail
    exact hR'.out.bool (by rw [eqEl, if_pos hrk'.out, if_neg (by rw [hk'.out]; decide), if_neg (by rw [hk'.out]; decide), if_pos hk'.out]) _ hA
  · clear hrb
    go_wp2_with fail
    exact hR'.out.bool (by simp at q1 q2 q3; rw [eqEl, if_pos hrk'.out, if_neg q1, if_neg q2, if_neg q3]; exact beq_bytes _ _) _ hA

set_option maxRecDepth 100000 in
set_option maxHeartbeats 4000000 in
set_option pp.maxSteps 1000000 in
set_option pp.deepTerms true in
theorem hasPrefix_c {w : World} {X Y : List Nat} {va vb : Value} {p q : List EL} (ha : IsSl kEl 168 w X va p) (hb : IsSl kEl 168 w Y vb q) (hlen : p.length = q.length) (R : Ending → World → Prop) (hR : Ends R w (.bool (pairB eqEl p q))) :
    Calls Try.prog 72 #[va, vb] w R := by
  obtain ⟨o, c, b, off, rfl, l2, l3, l4, l5⟩ := id ha.ex
  obtain ⟨o2, c2, b2, off2, rfl, m2, m3, m4, m5⟩ := id hb.ex
  have l4' := Lib.hid l4
  have l5' := Lib.hid l5
  have m4' := Lib.hid m4
  have m5' := Lib.hid m5
  have hR' := Lib.hid hR
  have hll : ¬ (p.length : Int) < (q.length : Int) := by omega
  have hlen' := Lib.hid hlen
  clear hR ha hb l4 l5 m4 m5 hlen
  go_enter Try.func72, Try.ntmps72
  go_wp2_with fail
  go_loopw [13] (fun i wr => ∃ k : Nat, k ≤ q.length ∧ i = .int .i64 k ∧ Ext w wr ∧ Hid (∀ j (h : j < p.length) (h2 : j < q.length), j < k → eqEl p[j] q[j] = true)) (fun i _ => q.length - (intOf i).toNat)
  case atStart => exact ⟨0, Nat.zero_le _, rfl, Ext.refl _, Lib.hid fun j _ _ hj => by omega⟩
  case round =>
    obtain ⟨k, hk, rfl, hEr, hall⟩ := hrel
    rename World => wr
    by_cases hlt2 : k < q.length
    · have hlt : k < p.length := by have := hlen'.out; omega
      obtain ⟨cs, hc, hcs⟩ := l5'.out k hlt
      obtain ⟨ds, hd, hds⟩ := m5'.out k hlt2
      obtain ⟨rfl, -⟩ := l4'.out (by omega)
      obtain ⟨rfl, -⟩ := m4'.out (by omega)
      obtain ⟨x0, x1, x2, x3, x4, x5, x6, x7, x8, x9, x10, rfl⟩ := kEl_eleven hcs
      obtain ⟨y0, y1, y2, y3, y4, y5, y6, y7, y8, y9, y10, rfl⟩ := kEl_eleven hds
      have q0 := hEr.keep (hc 0 (by decide))
      have q1 := hEr.keep (hc 1 (by decide))
      have q2 := hEr.keep (hc 2 (by decide))
      have q3 := hEr.keep (hc 3 (by decide))
      have q4 := hEr.keep (hc 4 (by decide))
      have q5 := hEr.keep (hc 5 (by decide))
      have q6 := hEr.keep (hc 6 (by decide))
      have q7 := hEr.keep (hc 7 (by decide))
      have q8 := hEr.keep (hc 8 (by decide))
      have q9 := hEr.keep (hc 9 (by decide))
      have q10 := hEr.keep (hc 10 (by decide))
      have r0 := hEr.keep (hd 0 (by decide))
      have r1 := hEr.keep (hd 1 (by decide))
      have r2 := hEr.keep (hd 2 (by decide))
      have r3 := hEr.keep (hd 3 (by decide))
      have r4 := hEr.keep (hd 4 (by decide))
      have r5 := hEr.keep (hd 5 (by decide))
      have r6 := hEr.keep (hd 6 (by decide))
      have r7 := hEr.keep (hd 7 (by decide))
      have r8 := hEr.keep (hd 8 (by decide))
      have r9 := hEr.keep (hd 9 (by decide))
      have r10 := hEr.keep (hd 10 (by decide))
      simp only [show kEl.size = 11 from rfl, Nat.add_zero] at q0 q1 q2 q3 q4 q5 q6 q7 q8 q9 q10 r0 r1 r2 r3 r4 r5 r6 r7 r8 r9 r10
      have hv' := Lib.hid hcs
      have hu' := Lib.hid hds
      have hi1 : (k : Int) < (p.length : Int) := by omega
      have hi2 : (k : Int) < (q.length : Int) := by omega
      have hkm : (k : Int) + 1 ≤ 9223372036854775807 := by omega
      clear hc hd hcs hds
      go_wp2_with fail
      refine wp_region_script [0, 1, 2, 3, 4, 5, 6, 7, 9] [] (fun w' => w' = wr.drew) [(.read, 0), (.read, 1), (.read, 2), (.read, 3), (.read, 4), (.read, 5), (.read, 6), (.read, 7), (.one, 8), (.pure, 9)] (by kernel_rfl) (by kernel_rfl) ?_
      iterate 8 (first | (apply scr_r; (· rfl); (· (first | rfl | (simp [Region.wanted, yielded, go_sem]; done) | (simp [Region.wanted, yielded, go_sem, *]; done))); (· (go_simp; try rfl)); (· (simp [go_sem]; try rfl))) | (apply scr_r0; (· rfl); (· (first | rfl | (simp [Region.wanted, yielded, go_sem]; done) | (simp [Region.wanted, yielded, go_sem, *]; done))); (· (simp [go_sem]; try rfl))))
      refine scr_one rfl rfl (fun K hK => ?_)
      go_simp
      refine equalElems_c (cs := [x0, x1, x2, x3, x4, x5, x6, x7, x8, x9, x10]) (ds := [y0, y1, y2, y3, y4, y5, y6, y7, y8, y9, y10]) (kEl.mv hv'.out (hEr.drew.mv _)) (kEl.mv hu'.out (hEr.drew.mv _)) _ ?_
      obtain ⟨bb, hbb⟩ : ∃ bb, eqEl p[k] q[k] = bb := ⟨_, rfl⟩
      rw [hbb]
      intro w3 hE3
      refine hK _ _ (fun h => by simp at h) ?_
      clear hK
      have hbb' := Lib.hid hbb
      clear hbb
      cases bb
      all_goals
        (apply scr_pure'; (· rfl); (· rfl); (· (intro w'; go_simp; try rfl)); (· (simp [go_sem]; try rfl)))
        refine scr_end ?_
        simp only [Exit.then]
        go_wp2_with fail
      · refine hR'.out.bool ?_ _ (hEr.drew.trans hE3)
        rw [Bool.eq_false_iff]
        intro h
        have := (pairB_iff hlen'.out).1 h k hlt hlt2
        rw [hbb'.out] at this
        cases this
      · go_roundw
        case rel =>
          refine ⟨k + 1, by omega, by go_num, hEr.drew.trans hE3, Lib.hid fun j h h2 hj => ?_⟩
          by_cases e : j = k
          · subst e; exact hbb'.out
          · exact hall.out j h h2 (by omega)
        case measure => simp [intOf]; omega
    · have hp : pairB eqEl p q = true := (pairB_iff hlen'.out).2 fun j h h2 => hall.out j h h2 (by omega)
      have hp' := Lib.hid hp
      clear hp
      go_wp2_with fail
      exact hR'.out.bool hp'.out _ hEr

set_option maxRecDepth 100000 in
set_option maxHeartbeats 1000000 in
theorem specEqualPaths_c {w : World} {X Y : List Nat} {va vb : Value} {p q : List EL} (ha : IsSl kEl 168 w X va p) (hb : IsSl kEl 168 w Y vb q) (R : Ending → World → Prop) (hR : Ends R w (.bool (listB eqEl p q))) :
    Calls Try.prog 38 #[va, vb] w R := by
  obtain ⟨_, _, _, _, rfl, l2, l3, -⟩ := id ha.ex
  obtain ⟨_, _, _, _, rfl, m2, m3, -⟩ := id hb.ex
  have ha' := Lib.hid ha
  have hb' := Lib.hid hb
  have hR' := Lib.hid hR
  clear hR ha hb
  by_cases hlen : p.length = q.length
  rotate_left
  · have hl' : ((p.length : Int) == (q.length : Int)) = false := by rw [beq_eq_false_iff_ne]; omega
    have hlen' := Lib.hid hlen
    clear hlen
    go_enter Try.func38, Try.ntmps38
    go_wp2_with fail
    exact hR'.out.bool (by simp [listB, hlen'.out]) _ (Ext.refl _)
  have hl' : ((p.length : Int) == (q.length : Int)) = true := by simpa using congrArg Int.ofNat hlen
  have hlen' := Lib.hid hlen
  clear hlen
  go_enter Try.func38, Try.ntmps38
  go_wp2_with fail
  refine hasPrefix_c ha'.out hb'.out hlen'.out _ ?_
  intro w1 hE1
  dsimp only
  go_wp2_with fail
  exact hR'.out.bool (by simp [listB, hlen'.out]) _ hE1

/-- plain law: what the package says of two elements is what the reference says -/
theorem eqE_toE (a b : EL) : eqE (toE a) (toE b) = eqEl a b := by
  have hkey : listB eqFd (a.keys.zip (V.plainL a.l)) (b.keys.zip (V.plainL b.l)) = eqKeys a b := by
    have e1 : a.keys.zip (V.plainL a.l) = (a.keys.zip a.l).map fun p => (p.1, p.2.plain) := by rw [V.plainL_eq, zip_map_right]
    have e2 : b.keys.zip (V.plainL b.l) = (b.keys.zip b.l).map fun p => (p.1, p.2.plain) := by rw [V.plainL_eq, zip_map_right]
    rw [e1, e2, eqKeys, listB, listB, List.length_map, List.length_map]
    congr 1
    generalize a.keys.zip a.l = P
    generalize b.keys.zip b.l = Q
    induction P generalizing Q with
    | nil => simp [pairB]
    | cons p P ih =>
      cases Q with
      | nil => simp [pairB]
      | cons q Q => simp only [List.map_cons, pairB, ih, eqFd, eqKv, eqT_plain]
  unfold toE eqEl rankOf
  by_cases a1 : a.kind = 1
  · by_cases b1 : b.kind = 1
    · simp only [a1, b1, if_pos, true_or]; exact hkey
    · by_cases b2 : b.kind = 2
      · simp [a1, b2, eqE]
      · by_cases b3 : b.kind = 3 <;> simp [a1, b1, b2, b3, eqE]
  · by_cases a2 : a.kind = 2
    · by_cases b2 : b.kind = 2
      · simp [a2, b2, eqE, eqT_plain]
      · by_cases b1 : b.kind = 1
        · simp [a2, b1, eqE]
        · by_cases b3 : b.kind = 3 <;> simp [a2, b1, b2, b3, eqE]
    · by_cases a3 : a.kind = 3
      · by_cases b3 : b.kind = 3
        · simp [a3, b3, eqE]
        · by_cases b1 : b.kind = 1
          · simp [a3, b1, eqE]
          · by_cases b2 : b.kind = 2 <;> simp [a3, b1, b2, b3, eqE]
      · by_cases b1 : b.kind = 1
        · simp [a1, a2, a3, b1, eqE]
        · by_cases b2 : b.kind = 2
          · simp [a1, a2, a3, b2, eqE]
          · by_cases b3 : b.kind = 3 <;> simp [a1, a2, a3, b1, b2, b3, eqE]

theorem eqPath_toE (p q : List EL) : listB eqE (p.map toE) (q.map toE) = listB eqEl p q := by
  rw [listB, listB, List.length_map, List.length_map]
  congr 1
  induction p generalizing q with
  | nil => simp [pairB]
  | cons a p ih =>
    cases q with
    | nil => simp [pairB]
    | cons b q => simp only [List.map_cons, pairB, ih, eqE_toE]
end Go.Proofs.Ytmihdlbcjiaibaa
