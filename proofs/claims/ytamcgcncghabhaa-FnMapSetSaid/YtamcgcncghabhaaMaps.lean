/- impl.toMapping, value.MapCompare, impl.CompareMaps. -/
import Derived.Test.YtamcgcncghabhaaKeysC
namespace Go.Proofs.Ytamcgcncghabhaa
open Go.RowKit
set_option linter.unusedSimpArgs false

set_option maxRecDepth 100000 in
set_option maxHeartbeats 1000000 in
theorem asMap_c {w w0 : World} {X : List Nat} {x : Value} {keys : List ByteArray} {l : List T} (hx : IsT w0 X x (.map keys l)) (hm : Mv w0 X w X) (R : Ending → World → Prop) (hR : ∀ w' v, Ext w w' → IsMp w' X v (keys.zip l) → R (.returned v) w') :
    Calls Try.prog 123 #[.agg #[x]] w R := by
  have hone := hx.one
  have hx' := Lib.hid hx
  have hm' := Lib.hid hm
  have hR' := Lib.hid hR
  clear hR hx hm
  go_enter Try.func123, Try.ntmps123
  go_wp2_with fail
  refine abs2 (G := fun wr => Calls _ _ _ wr _) ?_
  intro w1 hE1 hb1 hb2 hs1
  clear hb1 hb2 hs1
  refine asMapUsing_c hx'.out (hm'.out.ext hE1) _ ?_
  intro w2 v hE2 hv
  have hv' := Lib.hid hv
  clear hv
  dsimp only
  go_wp2_with fail
  exact hR'.out _ _ (hE1.trans hE2) hv'.out

set_option maxRecDepth 100000 in
set_option maxHeartbeats 1000000 in
theorem toMapping_c {w : World} {X : List Nat} {cs : List Value} {kind n : Int} {f : Nat} {s : ByteArray} {keys : List ByteArray} {l : List V} (hv : IsV w X cs (.mk kind n f s keys l)) (hX : Old X w) (R : Ending → World → Prop)
    (hR : ∀ w' v, Ext w w' → IsMp w' X v (plainEnts keys l) → R (.returned v) w') : Calls Try.prog 48 #[.agg cs.toArray] w R := by
  have hv' := Lib.hid hv
  obtain ⟨ko, kc, o, c, rfl, -, -, -⟩ := hv.inv
  have hX' := Lib.hid hX
  have hR' := Lib.hid hR
  clear hR hX hv
  go_enter Try.func48, Try.ntmps48
  go_wp2_with fail
  refine abs1 (G := fun wr => Calls _ _ _ wr _) ?_
  intro w1 hE1 hb1 hs1
  clear hb1 hs1
  refine plainMap_of (fun i _ => plain_all _) _ X [_, _, _, _, _, _] (hv'.out.mv (hE1.mv X)) (hX'.out.le hE1.size) _ ?_
  intro w2 r hE2 hr
  have ht := hr.mk_map
  have ht' := Lib.hid ht
  have hX2 := Lib.hid (hX'.out.le (hE1.trans hE2).size)
  clear hr ht
  dsimp only
  go_wp2_with fail
  refine newValue_c ht'.out hX2.out _ ?_
  intro w3 v hE3 hvv
  obtain ⟨p, x, rfl, hh, hp, hx⟩ := hvv.ex
  have c0 := cells_of hh 0
  simp only [List.getElem?_toArray, List.getElem?_cons_zero] at c0
  have hx' := Lib.hid hx
  clear hvv hh hp hx
  dsimp only
  go_wp2_with fail
  refine asMap_c hx'.out (Mv.refl _ _) _ ?_
  intro w4 u hE4 hu
  rw [zip_fst_snd] at hu
  have hu' := Lib.hid hu
  clear hu
  dsimp only
  go_wp2_with fail
  exact hR'.out _ _ (hE1.trans (hE2.trans (hE3.trans hE4))) hu'.out

set_option maxRecDepth 100000 in
set_option maxHeartbeats 1000000 in
theorem mapCompareT_c {w : World} {X Y : List Nat} {v u : Value} {P Q : EntsOfT T} (hv : IsMp w X v P) (hu : IsMp w Y u Q) (R : Ending → World → Prop) (hR : Ends R w (.int .i64 (cmpE cmpT (insAll [] P) (insAll [] Q)))) :
    Calls Try.prog 62 #[v, u] w R := by
  obtain ⟨r1, rfl, h1⟩ := hv.ex
  obtain ⟨r2, rfl, h2⟩ := hu.ex
  have h1' := Lib.hid h1
  have h2' := Lib.hid h2
  have hR' := Lib.hid hR
  clear hR hv hu h1 h2
  go_enter Try.func62, Try.ntmps62
  go_wp2_with fail
  refine abs1 (G := fun wr => Calls _ _ _ wr _) ?_
  intro w1 hE1 hb1 hs1
  clear hb1 hs1
  refine mapCompare_c (fun i h => compare_c _) ⟨_, rfl⟩ ((h1'.out.mv (hE1.mv X)).mv ((Mv.refl _ _).less (by simp))) ((h2'.out.mv (hE1.mv Y)).mv ((Mv.refl _ _).less (by simp))) _ ?_
  intro w2 hE2
  dsimp only
  go_wp2_with fail
  exact hR'.out _ (hE1.trans hE2)

/-- two maps of plain values, sorted -/
theorem sortPlain (keys : List ByteArray) (l : List V) : insAll [] (plainEnts keys l) = (insAll [] (keys.zip l)).map fun p => (p.1, p.2.plain) := by
  rw [plainEnts, insAll_putAll, V.plainL_eq, ← zip_map_right, insAll_map]

set_option maxRecDepth 100000 in
set_option maxHeartbeats 2000000 in
set_option pp.maxSteps 1000000 in
set_option pp.deepTerms true in
theorem implCompareMaps_c {w : World} {X Y : List Nat} {cs ds : List Value} {k n : Int} {f : Nat} {s : ByteArray} {keys : List ByteArray} {l : List V} {k2 n2 : Int} {f2 : Nat} {s2 : ByteArray} {keys2 : List ByteArray} {l2 : List V} (ha : IsV w X cs (.mk k n f s keys l)) (hb : IsV w Y ds (.mk k2 n2 f2 s2 keys2 l2)) (R : Ending → World → Prop)
    (hR : Ends R w (.int .i64 (cmpE rV (insAll [] (keys.zip l)) (insAll [] (keys2.zip l2))))) :
    Calls Try.prog 31 #[.agg cs.toArray, .agg ds.toArray] w R := by
  obtain ⟨x, rfl⟩ := ha.shape
  obtain ⟨y, rfl⟩ := hb.shape
  have ha' := Lib.hid (ha.mv ((Mv.refl _ _).less (Z := []) (by simp)))
  have hb' := Lib.hid (hb.mv ((Mv.refl _ _).less (Z := []) (by simp)))
  obtain ⟨v, hv⟩ : ∃ v, cmpE rV (insAll [] (keys.zip l)) (insAll [] (keys2.zip l2)) = v := ⟨_, rfl⟩
  rw [hv] at hR
  have hR' := Lib.hid hR
  have hv' := Lib.hid hv
  clear hR ha hb hv
  simp only [Cells6.list]
  go_enter Try.func31, Try.ntmps31
  go_wp2_with fail
  refine abs2 (G := Code.wp _ _ _ _) ?_
  intro w1 hE1 hb1 hb2 hs1
  have e0 : w1.cell? ⟨w.heap.size, 0, none⟩ = some (.int .i64 x.kind) := cells_of hb1 0; have e1 : w1.cell? ⟨w.heap.size, 1, none⟩ = some (.int .i64 x.n) := cells_of hb1 1; have e2 : w1.cell? ⟨w.heap.size, 2, none⟩ = some (.float .f64 x.f) := cells_of hb1 2; have e3 : w1.cell? ⟨w.heap.size, 3, none⟩ = some (.string x.s) := cells_of hb1 3; have e4 : w1.cell? ⟨w.heap.size, 4, none⟩ = some (.slice x.ko x.kn x.kc) := cells_of hb1 4; have e5 : w1.cell? ⟨w.heap.size, 5, none⟩ = some (.slice x.o x.m x.c) := cells_of hb1 5
  have f0 : w1.cell? ⟨w.heap.size + 1, 0, none⟩ = some (.int .i64 y.kind) := cells_of hb2 0; have f1 : w1.cell? ⟨w.heap.size + 1, 1, none⟩ = some (.int .i64 y.n) := cells_of hb2 1; have f2 : w1.cell? ⟨w.heap.size + 1, 2, none⟩ = some (.float .f64 y.f) := cells_of hb2 2; have f3 : w1.cell? ⟨w.heap.size + 1, 3, none⟩ = some (.string y.s) := cells_of hb2 3; have f4 : w1.cell? ⟨w.heap.size + 1, 4, none⟩ = some (.slice y.ko y.kn y.kc) := cells_of hb2 4; have f5 : w1.cell? ⟨w.heap.size + 1, 5, none⟩ = some (.slice y.o y.m y.c) := cells_of hb2 5
  clear hb1 hb2 hs1
  have hC : Ext w1 w1.drew := (Ext.refl _).drew
  refine wp_region_script [0, 2, 5] [1] (fun w' => Ext w1 w') [(.read, 0), (.read, 2), (.one, 1), (.one, 3), (.one, 4), (.pure, 5)] (by kernel_rfl) (by kernel_rfl) ?_
  (apply scr_read'; (· rfl); (· rfl); (· first | exact hC | exact (Ext.refl _).drew); (· (intro w' hw'; have e0_ := hw'.keep e0; have e1_ := hw'.keep e1; have e2_ := hw'.keep e2; have e3_ := hw'.keep e3; have e4_ := hw'.keep e4; have e5_ := hw'.keep e5; go_simp; try rfl)); (· (simp [go_sem]; try rfl)))
  (apply scr_read'; (· rfl); (· rfl); (· first | exact hC | exact (Ext.refl _).drew); (· (intro w' hw'; have f0_ := hw'.keep f0; have f1_ := hw'.keep f1; have f2_ := hw'.keep f2; have f3_ := hw'.keep f3; have f4_ := hw'.keep f4; have f5_ := hw'.keep f5; go_simp; try rfl)); (· (simp [go_sem]; try rfl)))
  refine scr_one rfl rfl (fun K hK => ?_)
  go_simp
  refine toMapping_c (X := []) (cs := x.list) (ha'.out.mv ((hE1.trans hC).mv _)) (Old.nil _) _ ?_
  intro w2 y1 hE2 h2
  have h2' := Lib.hid h2
  clear h2
  refine hK _ _ (fun _ => hC.trans hE2) ?_
  clear hK
  refine scr_one rfl rfl (fun K hK => ?_)
  go_simp
  refine toMapping_c (X := []) (cs := y.list) (hb'.out.mv ((hE1.trans (hC.trans hE2)).mv _)) (Old.nil _) _ ?_
  intro w3 y2 hE3 h3
  have h3' := Lib.hid h3
  clear h3
  refine hK _ _ (fun h => by simp at h) ?_
  clear hK
  refine scr_one rfl rfl (fun K hK => ?_)
  go_simp
  refine mapCompareT_c (h2'.out.mv (hE3.mv _)) h3'.out _ ?_
  rw [sortPlain, sortPlain, cmpE_map]
  rw [show (fun x y : V => cmpT x.plain y.plain) = rV from funext fun x => funext fun y => cmpT_plain x y, hv'.out]
  intro w4 hE4
  refine hK _ _ (fun h => by simp at h) ?_
  clear hK
  (apply scr_pure'; (· rfl); (· rfl); (· (intro w'; go_simp; try rfl)); (· (simp [go_sem]; try rfl)))
  refine scr_end ?_
  simp only [Exit.then]
  go_wp2_with fail
  exact hR'.out _ (hE1.trans (hC.trans (hE2.trans (hE3.trans hE4))))
end Go.Proofs.Ytamcgcncghabhaa
