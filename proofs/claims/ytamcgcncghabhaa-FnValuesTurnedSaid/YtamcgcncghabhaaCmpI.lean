/- value.Compare, value.Less, impl.CompareValues, impl.LessValues, impl.EqualValues. (printed by gen_cmpi.py) -/
import Derived.Test.YtamcgcncghabhaaCmpW
import Derived.Test.YtamcgcncghabhaaPaths
namespace Go.Proofs.Ytamcgcncghabhaa
open Go.RowKit
set_option linter.unusedSimpArgs false

theorem cmpT_plain (a b : V) : cmpT a.plain b.plain = V.cmpP a.clean b.clean := by rw [cmpT, back_plain, back_plain]
theorem IsVal.one {w : World} {X : List Nat} {v : Value} {t : T} (h : IsVal w X v t) : v.oneCell' = true := by
  obtain ⟨p, x, rfl, _⟩ := h.ex
  rfl

set_option maxRecDepth 100000 in
set_option maxHeartbeats 1000000 in
theorem valueCompare_c {w : World} {X Y : List Nat} {a b : T} {va vb : Value} (ha : IsVal w X va a) (hb : IsVal w Y vb b) (R : Ending → World → Prop) (hR : Ends R w (.int .i64 (cmpT a b))) :
    Calls Try.prog 40 #[va, vb] w R := by
  obtain ⟨pa, xa, rfl, -⟩ := id ha.ex
  obtain ⟨pb, xb, rfl, -⟩ := id hb.ex
  have ha' := Lib.hid ha
  have hb' := Lib.hid hb
  have hR' := Lib.hid hR
  clear hR ha hb
  go_enter Try.func40, Try.ntmps40
  go_wp2_with fail
  refine compare_c b _ X Y a _ _ _ (ha'.out.mv ((Ext.alloc _ _).mv _)) (hb'.out.mv ((Ext.alloc _ _).mv _)) ⟨_, rfl⟩ _ ?_
  intro w2 hE2
  dsimp only
  go_wp2_with fail
  exact hR'.out _ ((Ext.alloc _ _).trans hE2)
set_option maxRecDepth 100000 in
set_option maxHeartbeats 1000000 in
theorem valueLess_c {w : World} {X Y : List Nat} {a b : T} {va vb : Value} (ha : IsVal w X va a) (hb : IsVal w Y vb b) (R : Ending → World → Prop) (hR : Ends R w (.bool (cmpT a b == -1))) :
    Calls Try.prog 58 #[va, vb] w R := by
  obtain ⟨pa, xa, rfl, -⟩ := id ha.ex
  obtain ⟨pb, xb, rfl, -⟩ := id hb.ex
  have ha' := Lib.hid ha
  have hb' := Lib.hid hb
  obtain ⟨v, hv⟩ : ∃ v, cmpT a b = v := ⟨_, rfl⟩
  rw [hv] at hR
  have hR' := Lib.hid hR
  clear hR ha hb
  go_enter Try.func58, Try.ntmps58
  go_wp2_with fail
  refine valueCompare_c ha'.out hb'.out _ ?_
  rw [hv]
  clear hv
  intro w2 hE2
  dsimp only
  go_wp2_with fail
  exact hR'.out _ hE2

set_option maxRecDepth 100000 in
set_option maxHeartbeats 2000000 in
set_option pp.maxSteps 1000000 in
set_option pp.deepTerms true in
theorem implCompareValues_c {w : World} {X Y : List Nat} {cs ds : List Value} {a b : V} (ha : IsV w X cs a) (hb : IsV w Y ds b) (R : Ending → World → Prop) (hR : Ends R w (.int .i64 (V.cmpP a.clean b.clean))) :
    Calls Try.prog 13 #[.agg cs.toArray, .agg ds.toArray] w R := by
  obtain ⟨x, rfl⟩ := ha.shape
  obtain ⟨y, rfl⟩ := hb.shape
  have ha' := Lib.hid (ha.mv ((Mv.refl _ _).less (Z := []) (by simp)))
  have hb' := Lib.hid (hb.mv ((Mv.refl _ _).less (Z := []) (by simp)))
  obtain ⟨v, hv⟩ : ∃ v, V.cmpP a.clean b.clean = v := ⟨_, rfl⟩
  rw [hv] at hR
  have hR' := Lib.hid hR
  have hv' := Lib.hid hv
  clear hR ha hb hv
  simp only [Cells6.list]
  go_enter Try.func13, Try.ntmps13
  go_wp2_with fail
  refine abs2 (G := Code.wp _ _ _ _) ?_
  intro w1 hE1 hb1 hb2 hs1
  have e0 : w1.cell? ⟨w.heap.size, 0, none⟩ = some (.int .i64 x.kind) := cells_of hb1 0; have e1 : w1.cell? ⟨w.heap.size, 1, none⟩ = some (.int .i64 x.n) := cells_of hb1 1; have e2 : w1.cell? ⟨w.heap.size, 2, none⟩ = some (.float .f64 x.f) := cells_of hb1 2; have e3 : w1.cell? ⟨w.heap.size, 3, none⟩ = some (.string x.s) := cells_of hb1 3; have e4 : w1.cell? ⟨w.heap.size, 4, none⟩ = some (.slice x.ko x.kn x.kc) := cells_of hb1 4; have e5 : w1.cell? ⟨w.heap.size, 5, none⟩ = some (.slice x.o x.m x.c) := cells_of hb1 5
  have f0 : w1.cell? ⟨w.heap.size + 1, 0, none⟩ = some (.int .i64 y.kind) := cells_of hb2 0; have f1 : w1.cell? ⟨w.heap.size + 1, 1, none⟩ = some (.int .i64 y.n) := cells_of hb2 1; have f2 : w1.cell? ⟨w.heap.size + 1, 2, none⟩ = some (.float .f64 y.f) := cells_of hb2 2; have f3 : w1.cell? ⟨w.heap.size + 1, 3, none⟩ = some (.string y.s) := cells_of hb2 3; have f4 : w1.cell? ⟨w.heap.size + 1, 4, none⟩ = some (.slice y.ko y.kn y.kc) := cells_of hb2 4; have f5 : w1.cell? ⟨w.heap.size + 1, 5, none⟩ = some (.slice y.o y.m y.c) := cells_of hb2 5
  clear hb1 hb2 hs1
  have hC : Ext w1 w1.drew := (Ext.refl _).drew
  refine wp_region_script [0, 2, 5] [1] (fun w' => Ext w1 w') [(.read, 0), (.read, 2), (.one, 1), (.one, 3), (.one, 4), (.pure, 5)] (by kernel_rfl) (by kernel_rfl) ?_
  (apply scr_read'; (· rfl); (· rfl); (· first | exact hC | exact (Ext.refl _).drew); (· (intro w' hw'; have e0_ := hw'.keep e0; have e1_ := hw'.keep e1; have e2_ := hw'.keep e2; have e3_ := hw'.keep e3; have e4_ := hw'.keep e4; have e5_ := hw'.keep e5; go_simp; try rfl)); (· (simp [go_sem]; try rfl)))
  (apply scr_read'; (· rfl); (· rfl); (· first | exact hC | exact (Ext.refl _).drew); (· (intro w' hw'; have f0_ := hw'.keep f0; have f1_ := hw'.keep f1; have f2_ := hw'.keep f2; have f3_ := hw'.keep f3; have f4_ := hw'.keep f4; have f5_ := hw'.keep f5; go_simp; try rfl)); (· (simp [go_sem]; try rfl)))
  refine scr_one rfl rfl (fun K hK => ?_)
  go_simp
  refine toValue_c (X := []) (cs := x.list) (ha'.out.mv ((hE1.trans hC).mv _)) (Old.nil _) _ ?_
  intro w2 y1 hE2 h2
  have hone2 := h2.one
  have h2' := Lib.hid h2
  clear h2
  refine hK _ _ (fun _ => hC.trans hE2) ?_
  clear hK
  refine scr_one rfl rfl (fun K hK => ?_)
  go_simp
  refine toValue_c (X := []) (cs := y.list) (hb'.out.mv ((hE1.trans (hC.trans hE2)).mv _)) (Old.nil _) _ ?_
  intro w3 y2 hE3 h3
  have h3' := Lib.hid h3
  clear h3
  refine hK _ _ (fun h => by simp at h) ?_
  clear hK
  refine scr_one rfl rfl (fun K hK => ?_)
  go_simp
  refine valueCompare_c (h2'.out.mv (hE3.mv _)) h3'.out _ ?_
  rw [cmpT_plain, hv'.out]
  intro w4 hE4
  refine hK _ _ (fun h => by simp at h) ?_
  clear hK
  (apply scr_pure'; (· rfl); (· rfl); (· (intro w'; go_simp; try rfl)); (· (simp [go_sem]; try rfl)))
  refine scr_end ?_
  simp only [Exit.then]
  go_wp2_with fail
  exact hR'.out _ (hE1.trans (hC.trans (hE2.trans (hE3.trans hE4))))


set_option maxRecDepth 100000 in
set_option maxHeartbeats 2000000 in
set_option pp.maxSteps 1000000 in
set_option pp.deepTerms true in
theorem implLessValues_c {w : World} {X Y : List Nat} {cs ds : List Value} {a b : V} (ha : IsV w X cs a) (hb : IsV w Y ds b) (R : Ending → World → Prop) (hR : Ends R w (.bool (V.cmpP a.clean b.clean == -1))) :
    Calls Try.prog 27 #[.agg cs.toArray, .agg ds.toArray] w R := by
  obtain ⟨x, rfl⟩ := ha.shape
  obtain ⟨y, rfl⟩ := hb.shape
  have ha' := Lib.hid (ha.mv ((Mv.refl _ _).less (Z := []) (by simp)))
  have hb' := Lib.hid (hb.mv ((Mv.refl _ _).less (Z := []) (by simp)))
  obtain ⟨v, hv⟩ : ∃ v, (V.cmpP a.clean b.clean == -1) = v := ⟨_, rfl⟩
  rw [hv] at hR
  have hR' := Lib.hid hR
  have hv' := Lib.hid hv
  clear hR ha hb hv
  simp only [Cells6.list]
  go_enter Try.func27, Try.ntmps27
  go_wp2_with fail
  refine abs2 (G := Code.wp _ _ _ _) ?_
  intro w1 hE1 hb1 hb2 hs1
  have e0 : w1.cell? ⟨w.heap.size, 0, none⟩ = some (.int .i64 x.kind) := cells_of hb1 0; have e1 : w1.cell? ⟨w.heap.size, 1, none⟩ = some (.int .i64 x.n) := cells_of hb1 1; have e2 : w1.cell? ⟨w.heap.size, 2, none⟩ = some (.float .f64 x.f) := cells_of hb1 2; have e3 : w1.cell? ⟨w.heap.size, 3, none⟩ = some (.string x.s) := cells_of hb1 3; have e4 : w1.cell? ⟨w.heap.size, 4, none⟩ = some (.slice x.ko x.kn x.kc) := cells_of hb1 4; have e5 : w1.cell? ⟨w.heap.size, 5, none⟩ = some (.slice x.o x.m x.c) := cells_of hb1 5
  have f0 : w1.cell? ⟨w.heap.size + 1, 0, none⟩ = some (.int .i64 y.kind) := cells_of hb2 0; have f1 : w1.cell? ⟨w.heap.size + 1, 1, none⟩ = some (.int .i64 y.n) := cells_of hb2 1; have f2 : w1.cell? ⟨w.heap.size + 1, 2, none⟩ = some (.float .f64 y.f) := cells_of hb2 2; have f3 : w1.cell? ⟨w.heap.size + 1, 3, none⟩ = some (.string y.s) := cells_of hb2 3; have f4 : w1.cell? ⟨w.heap.size + 1, 4, none⟩ = some (.slice y.ko y.kn y.kc) := cells_of hb2 4; have f5 : w1.cell? ⟨w.heap.size + 1, 5, none⟩ = some (.slice y.o y.m y.c) := cells_of hb2 5
  clear hb1 hb2 hs1
  have hC : Ext w1 w1.drew := (Ext.refl _).drew
  refine wp_region_script [0, 2, 5] [1] (fun w' => Ext w1 w') [(.read, 0), (.read, 2), (.one, 1), (.one, 3), (.one, 4), (.pure, 5)] (by kernel_rfl) (by kernel_rfl) ?_
  (apply scr_read'; (· rfl); (· rfl); (· first | exact hC | exact (Ext.refl _).drew); (· (intro w' hw'; have e0_ := hw'.keep e0; have e1_ := hw'.keep e1; have e2_ := hw'.keep e2; have e3_ := hw'.keep e3; have e4_ := hw'.keep e4; have e5_ := hw'.keep e5; go_simp; try rfl)); (· (simp [go_sem]; try rfl)))
  (apply scr_read'; (· rfl); (· rfl); (· first | exact hC | exact (Ext.refl _).drew); (· (intro w' hw'; have f0_ := hw'.keep f0; have f1_ := hw'.keep f1; have f2_ := hw'.keep f2; have f3_ := hw'.keep f3; have f4_ := hw'.keep f4; have f5_ := hw'.keep f5; go_simp; try rfl)); (· (simp [go_sem]; try rfl)))
  refine scr_one rfl rfl (fun K hK => ?_)
  go_simp
  refine toValue_c (X := []) (cs := x.list) (ha'.out.mv ((hE1.trans hC).mv _)) (Old.nil _) _ ?_
  intro w2 y1 hE2 h2
  have hone2 := h2.one
  have h2' := Lib.hid h2
  clear h2
  refine hK _ _ (fun _ => hC.trans hE2) ?_
  clear hK
  refine scr_one rfl rfl (fun K hK => ?_)
  go_simp
  refine toValue_c (X := []) (cs := y.list) (hb'.out.mv ((hE1.trans (hC.trans hE2)).mv _)) (Old.nil _) _ ?_
  intro w3 y2 hE3 h3
  have h3' := Lib.hid h3
  clear h3
  refine hK _ _ (fun h => by simp at h) ?_
  clear hK
  refine scr_one rfl rfl (fun K hK => ?_)
  go_simp
  refine valueLess_c (h2'.out.mv (hE3.mv _)) h3'.out _ ?_
  rw [cmpT_plain, hv'.out]
  intro w4 hE4
  refine hK _ _ (fun h => by simp at h) ?_
  clear hK
  (apply scr_pure'; (· rfl); (· rfl); (· (intro w'; go_simp; try rfl)); (· (simp [go_sem]; try rfl)))
  refine scr_end ?_
  simp only [Exit.then]
  go_wp2_with fail
  exact hR'.out _ (hE1.trans (hC.trans (hE2.trans (hE3.trans hE4))))


set_option maxRecDepth 100000 in
set_option maxHeartbeats 2000000 in
set_option pp.maxSteps 1000000 in
set_option pp.deepTerms true in
theorem implEqualValues_c {w : World} {X Y : List Nat} {cs ds : List Value} {a b : V} (ha : IsV w X cs a) (hb : IsV w Y ds b) (R : Ending → World → Prop) (hR : Ends R w (.bool (V.eqP a.clean b.clean))) :
    Calls Try.prog 28 #[.agg cs.toArray, .agg ds.toArray] w R := by
  obtain ⟨x, rfl⟩ := ha.shape
  obtain ⟨y, rfl⟩ := hb.shape
  have ha' := Lib.hid (ha.mv ((Mv.refl _ _).less (Z := []) (by simp)))
  have hb' := Lib.hid (hb.mv ((Mv.refl _ _).less (Z := []) (by simp)))
  obtain ⟨v, hv⟩ : ∃ v, V.eqP a.clean b.clean = v := ⟨_, rfl⟩
  rw [hv] at hR
  have hR' := Lib.hid hR
  have hv' := Lib.hid hv
  clear hR ha hb hv
  simp only [Cells6.list]
  go_enter Try.func28, Try.ntmps28
  go_wp2_with fail
  refine abs2 (G := Code.wp _ _ _ _) ?_
  intro w1 hE1 hb1 hb2 hs1
  have e0 : w1.cell? ⟨w.heap.size, 0, none⟩ = some (.int .i64 x.kind) := cells_of hb1 0; have e1 : w1.cell? ⟨w.heap.size, 1, none⟩ = some (.int .i64 x.n) := cells_of hb1 1; have e2 : w1.cell? ⟨w.heap.size, 2, none⟩ = some (.float .f64 x.f) := cells_of hb1 2; have e3 : w1.cell? ⟨w.heap.size, 3, none⟩ = some (.string x.s) := cells_of hb1 3; have e4 : w1.cell? ⟨w.heap.size, 4, none⟩ = some (.slice x.ko x.kn x.kc) := cells_of hb1 4; have e5 : w1.cell? ⟨w.heap.size, 5, none⟩ = some (.slice x.o x.m x.c) := cells_of hb1 5
  have f0 : w1.cell? ⟨w.heap.size + 1, 0, none⟩ = some (.int .i64 y.kind) := cells_of hb2 0; have f1 : w1.cell? ⟨w.heap.size + 1, 1, none⟩ = some (.int .i64 y.n) := cells_of hb2 1; have f2 : w1.cell? ⟨w.heap.size + 1, 2, none⟩ = some (.float .f64 y.f) := cells_of hb2 2; have f3 : w1.cell? ⟨w.heap.size + 1, 3, none⟩ = some (.string y.s) := cells_of hb2 3; have f4 : w1.cell? ⟨w.heap.size + 1, 4, none⟩ = some (.slice y.ko y.kn y.kc) := cells_of hb2 4; have f5 : w1.cell? ⟨w.heap.size + 1, 5, none⟩ = some (.slice y.o y.m y.c) := cells_of hb2 5
  clear hb1 hb2 hs1
  have hC : Ext w1 w1.drew := (Ext.refl _).drew
  refine wp_region_script [0, 2, 5] [1] (fun w' => Ext w1 w') [(.read, 0), (.read, 2), (.one, 1), (.one, 3), (.one, 4), (.pure, 5)] (by kernel_rfl) (by kernel_rfl) ?_
  (apply scr_read'; (· rfl); (· rfl); (· first | exact hC | exact (Ext.refl _).drew); (· (intro w' hw'; have e0_ := hw'.keep e0; have e1_ := hw'.keep e1; have e2_ := hw'.keep e2; have e3_ := hw'.keep e3; have e4_ := hw'.keep e4; have e5_ := hw'.keep e5; go_simp; try rfl)); (· (simp [go_sem]; try rfl)))
  (apply scr_read'; (· rfl); (· rfl); (· first | exact hC | exact (Ext.refl _).drew); (· (intro w' hw'; have f0_ := hw'.keep f0; have f1_ := hw'.keep f1; have f2_ := hw'.keep f2; have f3_ := hw'.keep f3; have f4_ := hw'.keep f4; have f5_ := hw'.keep f5; go_simp; try rfl)); (· (simp [go_sem]; try rfl)))
  refine scr_one rfl rfl (fun K hK => ?_)
  go_simp
  refine toValue_c (X := []) (cs := x.list) (ha'.out.mv ((hE1.trans hC).mv _)) (Old.nil _) _ ?_
  intro w2 y1 hE2 h2
  have hone2 := h2.one
  have h2' := Lib.hid h2
  clear h2
  refine hK _ _ (fun _ => hC.trans hE2) ?_
  clear hK
  refine scr_one rfl rfl (fun K hK => ?_)
  go_simp
  refine toValue_c (X := []) (cs := y.list) (hb'.out.mv ((hE1.trans (hC.trans hE2)).mv _)) (Old.nil _) _ ?_
  intro w3 y2 hE3 h3
  have h3' := Lib.hid h3
  clear h3
  refine hK _ _ (fun h => by simp at h) ?_
  clear hK
  refine scr_one rfl rfl (fun K hK => ?_)
  go_simp
  refine valueEquals_c (h2'.out.mv (hE3.mv _)) h3'.out _ ?_
  rw [eqT_plain, hv'.out]
  intro w4 hE4
  refine hK _ _ (fun h => by simp at h) ?_
  clear hK
  (apply scr_pure'; (· rfl); (· rfl); (· (intro w'; go_simp; try rfl)); (· (simp [go_sem]; try rfl)))
  refine scr_end ?_
  simp only [Exit.then]
  go_wp2_with fail
  exact hR'.out _ (hE1.trans (hC.trans (hE2.trans (hE3.trans hE4))))

end Go.Proofs.Ytamcgcncghabhaa
