/- spec.comparePlain and spec.CompareValues: the walk. -/
import Derived.Test.YtamcgcncghabhaaCmpV
namespace Go.Proofs.Ytamcgcncghabhaa
open Go.RowKit
set_option linter.unusedSimpArgs false

theorem rkK_cases (k : Int) : rkK k = 0 ∨ rkK k = 1 ∨ rkK k = 2 ∨ rkK k = 3 ∨ rkK k = 4 ∨ rkK k = 5 := by
  simp only [rkK]
  (repeat' split) <;> simp

theorem cmpP_rank {k n k2 n2 : Int} {f f2 : Nat} {s s2 : ByteArray} {ks ks2 : List ByteArray} {l l2 : List V} (h : cmpI (rkK k) (rkK k2) ≠ 0) :
    V.cmpP (.mk k n f s ks l) (.mk k2 n2 f2 s2 ks2 l2) = cmpI (rkK k) (rkK k2) := by simp only [V.cmpP]; rw [if_pos h]
theorem cmpP_same {k n k2 n2 : Int} {f f2 : Nat} {s s2 : ByteArray} {ks ks2 : List ByteArray} {l l2 : List V} (h : cmpI (rkK k) (rkK k2) = 0) :
    V.cmpP (.mk k n f s ks l) (.mk k2 n2 f2 s2 ks2 l2) = if rkK k = 0 then (if k = 2 ∧ k2 = 2 then cmpI n n2 else cmpF (asF k n f) (asF k2 n2 f2))
    else if rkK k = 1 then cmpS s s2 else if rkK k = 2 then cmpI n n2 else if rkK k = 3 then V.cmpPL l l2 else if rkK k = 4 then V.cmpPM ks l ks2 l2 else 0 := by simp only [V.cmpP]; rw [if_neg (by simp [h])]

set_option maxRecDepth 100000 in
set_option pp.maxSteps 1000000 in
set_option pp.deepTerms true in
set_option maxHeartbeats 8000000 in
theorem comparePlain_c (v : V) : CpC v := by
  induction v using V.ind with
  | h kind n f s keys l ih =>
  intro w X Y cs ds u hv hu htv htu R hR
  obtain ⟨kind2, n2, f2, s2, keys2, l2⟩ := u
  have hv' := Lib.hid hv
  have hu' := Lib.hid hu
  obtain ⟨ko, kc, o, c, rfl, ⟨-, -, -, hsz⟩, -, hl⟩ := hv.inv
  obtain ⟨ko2, kc2, o2, c2, rfl, -, -, hl2⟩ := hu.inv
  have hR' := Lib.hid hR
  have ih' := Lib.hid ih
  have hl' := Lib.hid hl
  have hl2' := Lib.hid hl2
  have htv' := Lib.hid htv
  have htu' := Lib.hid htu
  have hsz' := Lib.hid hsz
  clear hR ih hl hl2 hv hu htv htu hsz
  go_enter Try.func42, Try.ntmps42
  go_wp2_with fail
  refine abs2 (G := Code.wp _ _ _ _) ?_
  intro w1 hE1 hb1 hb2 hs1
  have a0 : w1.cell? ⟨w.heap.size, 0, none⟩ = some (.int .i64 kind) := cells_of hb1 0; have a1 : w1.cell? ⟨w.heap.size, 1, none⟩ = some (.int .i64 n) := cells_of hb1 1; have a2 : w1.cell? ⟨w.heap.size, 2, none⟩ = some (.float .f64 f) := cells_of hb1 2; have a3 : w1.cell? ⟨w.heap.size, 3, none⟩ = some (.string s) := cells_of hb1 3; have a4 : w1.cell? ⟨w.heap.size, 4, none⟩ = some (.slice ko keys.length kc) := cells_of hb1 4; have a5 : w1.cell? ⟨w.heap.size, 5, none⟩ = some (.slice o l.length c) := cells_of hb1 5
  have b0 : w1.cell? ⟨w.heap.size + 1, 0, none⟩ = some (.int .i64 kind2) := cells_of hb2 0; have b1 : w1.cell? ⟨w.heap.size + 1, 1, none⟩ = some (.int .i64 n2) := cells_of hb2 1; have b2 : w1.cell? ⟨w.heap.size + 1, 2, none⟩ = some (.float .f64 f2) := cells_of hb2 2; have b3 : w1.cell? ⟨w.heap.size + 1, 3, none⟩ = some (.string s2) := cells_of hb2 3; have b4 : w1.cell? ⟨w.heap.size + 1, 4, none⟩ = some (.slice ko2 keys2.length kc2) := cells_of hb2 4; have b5 : w1.cell? ⟨w.heap.size + 1, 5, none⟩ = some (.slice o2 l2.length c2) := cells_of hb2 5
  clear hb1 hb2 hs1
  have hC : Ext w1 w1.drew := (Ext.refl _).drew
  refine wp_region_script [0, 2, 5] [1] (fun w' => Ext w1 w') [(.read, 0), (.read, 2), (.one, 1), (.one, 3), (.one, 4), (.pure, 5)] (by kernel_rfl) (by kernel_rfl) ?_
  (apply scr_read'; (· rfl); (· rfl); (· first | exact hC | exact (Ext.refl _).drew); (· (intro w' hw'; have a0_ := hw'.keep a0; have a1_ := hw'.keep a1; have a2_ := hw'.keep a2; have a3_ := hw'.keep a3; have a4_ := hw'.keep a4; have a5_ := hw'.keep a5; go_simp; try rfl)); (· (simp [go_sem]; try rfl)))
  (apply scr_read'; (· rfl); (· rfl); (· first | exact hC | exact (Ext.refl _).drew); (· (intro w' hw'; have b0_ := hw'.keep b0; have b1_ := hw'.keep b1; have b2_ := hw'.keep b2; have b3_ := hw'.keep b3; have b4_ := hw'.keep b4; have b5_ := hw'.keep b5; go_simp; try rfl)); (· (simp [go_sem]; try rfl)))
  refine scr_one rfl rfl (fun K hK => ?_)
  go_simp
  refine kindRank_c _ ?_
  intro w2 hE2
  refine hK _ _ (fun _ => hC.trans hE2) ?_
  clear hK
  refine scr_one rfl rfl (fun K hK => ?_)
  go_simp
  refine kindRank_c _ ?_
  intro w3 hE3
  refine hK _ _ (fun h => by simp at h) ?_
  clear hK
  refine scr_one rfl rfl (fun K hK => ?_)
  go_simp
  refine specCompareInts_c _ ?_
  obtain ⟨z, hz⟩ : ∃ z, cmpI (rkK kind) (rkK kind2) = z := ⟨_, rfl⟩
  rw [hz]
  intro w4 hE4
  refine hK _ _ (fun h => by simp at h) ?_
  clear hK
  have hE14 := hC.trans (hE2.trans (hE3.trans hE4))
  replace a0 := hE14.keep a0; replace a1 := hE14.keep a1; replace a2 := hE14.keep a2; replace a3 := hE14.keep a3; replace a4 := hE14.keep a4; replace a5 := hE14.keep a5; replace b0 := hE14.keep b0; replace b1 := hE14.keep b1; replace b2 := hE14.keep b2; replace b3 := hE14.keep b3; replace b4 := hE14.keep b4; replace b5 := hE14.keep b5
  replace hE1 := hE1.trans hE14
  clear hC hE2 hE3 hE4 hE14
  have hz' := Lib.hid hz
  clear hz
  (apply scr_pure'; (· rfl); (· rfl); (· (intro w'; go_simp; try rfl)); (· (simp [go_sem]; try rfl)))
  refine scr_end ?_
  simp only [Exit.then]
  by_cases hz0 : z = 0
  · have hzb : (z != 0) = false := by simpa using hz0
    have hq := Lib.hid (cmpP_same (n := n) (n2 := n2) (f := f) (f2 := f2) (s := s) (s2 := s2) (ks := keys) (ks2 := keys2) (l := l) (l2 := l2) (hz'.out.trans hz0))
    clear hz0
    go_wp2_with fail
    refine kindRank_c _ ?_
    intro w5 hE5
    replace a0 := hE5.keep a0; replace a1 := hE5.keep a1; replace a2 := hE5.keep a2; replace a3 := hE5.keep a3; replace a4 := hE5.keep a4; replace a5 := hE5.keep a5; replace b0 := hE5.keep b0; replace b1 := hE5.keep b1; replace b2 := hE5.keep b2; replace b3 := hE5.keep b3; replace b4 := hE5.keep b4; replace b5 := hE5.keep b5
    replace hE1 := hE1.trans hE5
    clear hE5
    rcases rkK_cases kind with h | h | h | h | h | h
    · rw [h]
      have hq2 := hq.out
      rw [h, if_pos rfl] at hq2
      have hq' := Lib.hid hq2
      clear hq2 hq h
      dsimp only
      by_cases e1 : kind = 2
      · subst e1
        by_cases e2 : kind2 = 2
        · subst e2
          go_wp2_with fail
          refine specCompareInts_c _ ?_
          intro w6 hE6
          dsimp only
          go_wp2_with fail
          exact hR'.out.int (by rw [hq'.out]; simp) _ (hE1.trans hE6)
        · have e2b : (kind2 == 2) = false := by simpa using e2
          go_wp2_with fail
          have hC : Ext w5 w5.drew := (Ext.refl _).drew
          refine wp_region_script [0, 2, 5] [1] (fun w' => Ext w5 w') [(.read, 0), (.read, 2), (.one, 1), (.one, 3), (.one, 4), (.pure, 5)] (by kernel_rfl) (by kernel_rfl) ?_
          (apply scr_read'; (· rfl); (· rfl); (· first | exact hC | exact (Ext.refl _).drew); (· (intro w' hw'; have a0_ := hw'.keep a0; have a1_ := hw'.keep a1; have a2_ := hw'.keep a2; have a3_ := hw'.keep a3; have a4_ := hw'.keep a4; have a5_ := hw'.keep a5; go_simp; try rfl)); (· (simp [go_sem]; try rfl)))
          (apply scr_read'; (· rfl); (· rfl); (· first | exact hC | exact (Ext.refl _).drew); (· (intro w' hw'; have b0_ := hw'.keep b0; have b1_ := hw'.keep b1; have b2_ := hw'.keep b2; have b3_ := hw'.keep b3; have b4_ := hw'.keep b4; have b5_ := hw'.keep b5; go_simp; try rfl)); (· (simp [go_sem]; try rfl)))
          refine scr_one rfl rfl (fun K hK => ?_)
          go_simp
          refine asFloat_s _ ?_
          intro w6 hE6
          refine hK _ _ (fun _ => hC.trans hE6) ?_
          clear hK
          refine scr_one rfl rfl (fun K hK => ?_)
          go_simp
          refine asFloat_s _ ?_
          intro w7 hE7
          refine hK _ _ (fun h => by simp at h) ?_
          clear hK
          refine scr_one rfl rfl (fun K hK => ?_)
          go_simp
          refine specCompareFloats_c _ ?_
          intro w8 hE8
          refine hK _ _ (fun h => by simp at h) ?_
          clear hK
          (apply scr_pure'; (· rfl); (· rfl); (· (intro w'; go_simp; try rfl)); (· (simp [go_sem]; try rfl)))
          refine scr_end ?_
          simp only [Exit.then]
          go_wp2_with fail
          exact hR'.out.int (by rw [hq'.out, if_neg (by simp [e2])]) _ (hE1.trans (hC.trans (hE6.trans (hE7.trans hE8))))
      · have e1b : (kind == 2) = false := by simpa using e1
        go_wp2_with fail
        have hC : Ext w5 w5.drew := (Ext.refl _).drew
        refine wp_region_script [0, 2, 5] [1] (fun w' => Ext w5 w') [(.read, 0), (.read, 2), (.one, 1), (.one, 3), (.one, 4), (.pure, 5)] (by kernel_rfl) (by kernel_rfl) ?_
        (apply scr_read'; (· rfl); (· rfl); (· first | exact hC | exact (Ext.refl _).drew); (· (intro w' hw'; have a0_ := hw'.keep a0; have a1_ := hw'.keep a1; have a2_ := hw'.keep a2; have a3_ := hw'.keep a3; have a4_ := hw'.keep a4; have a5_ := hw'.keep a5; go_simp; try rfl)); (· (simp [go_sem]; try rfl)))
        (apply scr_read'; (· rfl); (· rfl); (· first | exact hC | exact (Ext.refl _).drew); (· (intro w' hw'; have b0_ := hw'.keep b0; have b1_ := hw'.keep b1; have b2_ := hw'.keep b2; have b3_ := hw'.keep b3; have b4_ := hw'.keep b4; have b5_ := hw'.keep b5; go_simp; try rfl)); (· (simp [go_sem]; try rfl)))
        refine scr_one rfl rfl (fun K hK => ?_)
        go_simp
        refine asFloat_s _ ?_
        intro w6 hE6
        refine hK _ _ (fun _ => hC.trans hE6) ?_
        clear hK
        refine scr_one rfl rfl (fun K hK => ?_)
        go_simp
        refine asFloat_s _ ?_
        intro w7 hE7
        refine hK _ _ (fun h => by simp at h) ?_
        clear hK
        refine scr_one rfl rfl (fun K hK => ?_)
        go_simp
        refine specCompareFloats_c _ ?_
        intro w8 hE8
        refine hK _ _ (fun h => by simp at h) ?_
        clear hK
        (apply scr_pure'; (· rfl); (· rfl); (· (intro w'; go_simp; try rfl)); (· (simp [go_sem]; try rfl)))
        refine scr_end ?_
        simp only [Exit.then]
        go_wp2_with fail
        exact hR'.out.int (by rw [hq'.out, if_neg (by simp [e1])]) _ (hE1.trans (hC.trans (hE6.trans (hE7.trans hE8))))
    · rw [h]
      have hq2 := hq.out
      rw [h, if_neg (by decide), if_pos rfl] at hq2
      have hq' := Lib.hid hq2
      clear hq2 hq h
      dsimp only
      go_wp2_with fail
      refine specCompareStrings_c hsz'.out _ ?_
      intro w6 hE6
      dsimp only
      go_wp2_with fail
      exact hR'.out.int hq'.out _ (hE1.trans hE6)
    · rw [h]
      have hq2 := hq.out
      rw [h, if_neg (by decide), if_neg (by decide), if_pos rfl] at hq2
      have hq' := Lib.hid hq2
      clear hq2 hq h
      dsimp only
      go_wp2_with fail
      refine specCompareInts_c _ ?_
      intro w6 hE6
      dsimp only
      go_wp2_with fail
      exact hR'.out.int hq'.out _ (hE1.trans hE6)
    · rw [h]
      have hq2 := hq.out
      rw [h, if_neg (by decide), if_neg (by decide), if_neg (by decide), if_pos rfl] at hq2
      have hq' := Lib.hid hq2
      clear hq2 hq h
      dsimp only
      go_wp2_with fail
      refine comparePlainLists_c ih'.out (hl'.out.mv (hE1.mv X)) (hl2'.out.mv (hE1.mv Y)) htv'.out.2 htu'.out.2 _ ?_
      intro w6 hE6
      dsimp only
      go_wp2_with fail
      exact hR'.out.int hq'.out _ (hE1.trans hE6)
    · rw [h]
      have hq2 := hq.out
      rw [h, if_neg (by decide), if_neg (by decide), if_neg (by decide), if_neg (by decide), if_pos rfl] at hq2
      have hq' := Lib.hid hq2
      clear hq2 hq h
      dsimp only
      go_wp2_with fail
      refine comparePlainMaps_c (X := X) (Y := Y) (cs := [_, _, _, _, _, _]) (ds := [_, _, _, _, _, _]) ih'.out (hv'.out.mv (hE1.mv X)) (hu'.out.mv (hE1.mv Y)) htv'.out htu'.out _ ?_
      intro w6 hE6
      dsimp only
      go_wp2_with fail
      exact hR'.out.int hq'.out _ (hE1.trans hE6)
    · rw [h]
      have hq2 := hq.out
      rw [h, if_neg (by decide), if_neg (by decide), if_neg (by decide), if_neg (by decide), if_neg (by decide)] at hq2
      have hq' := Lib.hid hq2
      clear hq2 hq h
      dsimp only
      go_wp2_with fail
      exact hR'.out.int hq'.out _ hE1
  · have hzb : (z != 0) = true := by simpa using hz0
    have hq := cmpP_rank (n := n) (n2 := n2) (f := f) (f2 := f2) (s := s) (s2 := s2) (ks := keys) (ks2 := keys2) (l := l) (l2 := l2) (by rw [hz'.out]; exact hz0)
    rw [hz'.out] at hq
    have hq' := Lib.hid hq
    clear hz0 hq
    go_wp2_with fail
    exact hR'.out.int hq'.out _ hE1

set_option maxRecDepth 100000 in
set_option maxHeartbeats 2000000 in
set_option pp.maxSteps 1000000 in
set_option pp.deepTerms true in
theorem specCompareValues_c {w : World} {X Y : List Nat} {cs ds : List Value} {a b : V} (ha : IsV w X cs a) (hb : IsV w Y ds b) (R : Ending → World → Prop) (hR : Ends R w (.int .i64 (V.cmpP a.clean b.clean))) :
    Calls Try.prog 14 #[.agg cs.toArray, .agg ds.toArray] w R := by
  obtain ⟨x, rfl⟩ := ha.shape
  obtain ⟨y, rfl⟩ := hb.shape
  have ha' := Lib.hid (ha.mv ((Mv.refl _ _).less (Z := []) (by simp)))
  have hb' := Lib.hid (hb.mv ((Mv.refl _ _).less (Z := []) (by simp)))
  have hR' := Lib.hid hR
  clear hR ha hb
  simp only [Cells6.list]
  go_enter Try.func14, Try.ntmps14
  go_wp2_with fail
  refine abs2 (G := Code.wp _ _ _ _) ?_
  intro w1 hE1 hb1 hb2 hs1
  have e0 : w1.cell? ⟨w.heap.size, 0, none⟩ = some (.int .i64 x.kind) := cells_of hb1 0; have e1 : w1.cell? ⟨w.heap.size, 1, none⟩ = some (.int .i64 x.n) := cells_of hb1 1; have e2 : w1.cell? ⟨w.heap.size, 2, none⟩ = some (.float .f64 x.f) := cells_of hb1 2; have e3 : w1.cell? ⟨w.heap.size, 3, none⟩ = some (.string x.s) := cells_of hb1 3; have e4 : w1.cell? ⟨w.heap.size, 4, none⟩ = some (.slice x.ko x.kn x.kc) := cells_of hb1 4; have e5 : w1.cell? ⟨w.heap.size, 5, none⟩ = some (.slice x.o x.m x.c) := cells_of hb1 5
  have f0 : w1.cell? ⟨w.heap.size + 1, 0, none⟩ = some (.int .i64 y.kind) := cells_of hb2 0; have f1 : w1.cell? ⟨w.heap.size + 1, 1, none⟩ = some (.int .i64 y.n) := cells_of hb2 1; have f2 : w1.cell? ⟨w.heap.size + 1, 2, none⟩ = some (.float .f64 y.f) := cells_of hb2 2; have f3 : w1.cell? ⟨w.heap.size + 1, 3, none⟩ = some (.string y.s) := cells_of hb2 3; have f4 : w1.cell? ⟨w.heap.size + 1, 4, none⟩ = some (.slice y.ko y.kn y.kc) := cells_of hb2 4; have f5 : w1.cell? ⟨w.heap.size + 1, 5, none⟩ = some (.slice y.o y.m y.c) := cells_of hb2 5
  clear hb1 hb2 hs1
  have hC : Ext w1 w1.drew := (Ext.refl _).drew
  refine wp_region_script [0, 2, 5] [1] (fun w' => Ext w1 w') [(.read, 0), (.read, 2), (.one, 1), (.one, 3), (.one, 4), (.pure, 5)] (by kernel_rfl) (by kernel_rfl) ?_
  (apply scr_read'; (· rfl); (· rfl); (· first | exact hC | exact (Ext.refl _).drew); (· (intro w' hw'; have e0_ := hw'.keep e0; have e1_ := hw'.keep e1; have e2_ := hw'.keep e2; have e3_ := hw'.keep e3; have e4_ := hw'.keep e4; have e5_ := hw'.keep e5; go_simp; try rfl)); (· (simp [go_sem]; try rfl)))
  (apply scr_read'; (· rfl); (· rfl); (· first | exact hC | exact (Ext.refl _).drew); (· (intro w' hw'; have f0_ := hw'.keep f0; have f1_ := hw'.keep f1; have f2_ := hw'.keep f2; have f3_ := hw'.keep f3; have f4_ := hw'.keep f4; have f5_ := hw'.keep f5; go_simp; try rfl)); (· (simp [go_sem]; try rfl)))
  refine scr_one rfl rfl (fun K hK => ?_)
  go_simp
  refine clean_all a _ [] x.list (ha'.out.mv ((hE1.trans hC).mv _)) (Old.nil _) _ ?_
  intro w2 cs2 hE2 h2
  obtain ⟨x2, rfl⟩ := h2.shape
  have h2' := Lib.hid h2
  clear h2
  refine hK _ _ (fun _ => hC.trans hE2) ?_
  clear hK
  refine scr_one rfl rfl (fun K hK => ?_)
  go_simp
  refine clean_all b _ [] y.list (hb'.out.mv ((hE1.trans (hC.trans hE2)).mv _)) (Old.nil _) _ ?_
  intro w3 cs3 hE3 h3
  obtain ⟨y2, rfl⟩ := h3.shape
  have h3' := Lib.hid h3
  clear h3
  refine hK _ _ (fun h => by simp at h) ?_
  clear hK
  refine scr_one rfl rfl (fun K hK => ?_)
  go_simp
  refine comparePlain_c a.clean _ [] [] x2.list y2.list b.clean (h2'.out.mv (hE3.mv _)) h3'.out (clean_tidy a) (clean_tidy b) _ ?_
  intro w4 hE4
  refine hK _ _ (fun h => by simp at h) ?_
  clear hK
  (apply scr_pure'; (· rfl); (· rfl); (· (intro w'; go_simp; try rfl)); (· (simp [go_sem]; try rfl)))
  refine scr_end ?_
  simp only [Exit.then]
  go_wp2_with fail
  exact hR'.out _ (hE1.trans (hC.trans (hE2.trans (hE3.trans hE4))))
end Go.Proofs.Ytamcgcncghabhaa
