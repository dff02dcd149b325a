/- spec.SameValue, laws.sameValues: the plain forms of two values are identical. -/
import Derived.Test.YtnndacgokehkpaaIdent
import Derived.Test.YtnndacgokehkpaaSlice
namespace Go.Proofs.Ytnndacgokehkpaa
open Go.RowKit

set_option maxRecDepth 100000 in
set_option maxHeartbeats 4000000 in
set_option pp.maxSteps 1000000 in
set_option pp.deepTerms true in
theorem sameValue_c {w : World} {X Y : List Nat} {cs ds : List Value} {v u : V} (hv : IsV w X cs v) (hu : IsV w Y ds u) (R : Ending → World → Prop) (hR : Ends R w (.bool (v.clean.same u.clean))) :
    Calls Try.prog 23 #[.agg cs.toArray, .agg ds.toArray] w R := by
  obtain ⟨x, rfl⟩ := hv.shape
  obtain ⟨y, rfl⟩ := hu.shape
  have hv' := Lib.hid (hv.mv ((Mv.refl _ _).less (Z := []) (by simp)))
  have hu' := Lib.hid (hu.mv ((Mv.refl _ _).less (Z := []) (by simp)))
  have hR' := Lib.hid hR
  clear hv hu hR
  simp only [Cells6.list]
  go_enter Try.func23, Try.ntmps23
  go_wp2_with fail
  refine abs2 (G := Code.wp _ _ _ _) ?_
  intro w1 hE1 hb1 hb2 hs1
  have a0 : w1.cell? ⟨w.heap.size, 0, none⟩ = some (.int .i64 x.kind) := cells_of hb1 0
  have a1 : w1.cell? ⟨w.heap.size, 1, none⟩ = some (.int .i64 x.n) := cells_of hb1 1
  have a2 : w1.cell? ⟨w.heap.size, 2, none⟩ = some (.float .f64 x.f) := cells_of hb1 2
  have a3 : w1.cell? ⟨w.heap.size, 3, none⟩ = some (.string x.s) := cells_of hb1 3
  have a4 : w1.cell? ⟨w.heap.size, 4, none⟩ = some (.slice x.ko x.kn x.kc) := cells_of hb1 4
  have a5 : w1.cell? ⟨w.heap.size, 5, none⟩ = some (.slice x.o x.m x.c) := cells_of hb1 5
  have b0 : w1.cell? ⟨w.heap.size + 1, 0, none⟩ = some (.int .i64 y.kind) := cells_of hb2 0
  have b1 : w1.cell? ⟨w.heap.size + 1, 1, none⟩ = some (.int .i64 y.n) := cells_of hb2 1
  have b2 : w1.cell? ⟨w.heap.size + 1, 2, none⟩ = some (.float .f64 y.f) := cells_of hb2 2
  have b3 : w1.cell? ⟨w.heap.size + 1, 3, none⟩ = some (.string y.s) := cells_of hb2 3
  have b4 : w1.cell? ⟨w.heap.size + 1, 4, none⟩ = some (.slice y.ko y.kn y.kc) := cells_of hb2 4
  have b5 : w1.cell? ⟨w.heap.size + 1, 5, none⟩ = some (.slice y.o y.m y.c) := cells_of hb2 5
  refine wp_region_script [0, 2, 5] [1] (fun w' => Ext w1 w') [(.read, 0), (.read, 2), (.one, 1), (.one, 3), (.one, 4), (.pure, 5)] (by kernel_rfl) (by kernel_rfl) ?_
  (apply scr_read'; (· rfl); (· rfl); (· first | exact hC | exact (Ext.refl _).drew); (· (intro w' hw'; have a0_ := hw'.keep a0; have a1_ := hw'.keep a1; have a2_ := hw'.keep a2; have a3_ := hw'.keep a3; have a4_ := hw'.keep a4; have a5_ := hw'.keep a5; go_simp; try rfl)); (· (simp [go_sem]; try rfl)))
  (apply scr_read'; (· rfl); (· rfl); (· first | exact hC | exact (Ext.refl _).drew); (· (intro w' hw'; have b0_ := hw'.keep b0; have b1_ := hw'.keep b1; have b2_ := hw'.keep b2; have b3_ := hw'.keep b3; have b4_ := hw'.keep b4; have b5_ := hw'.keep b5; go_simp; try rfl)); (· (simp [go_sem]; try rfl)))
  refine scr_one rfl rfl (fun K hK => ?_)
  go_simp
  refine clean_all v _ [] x.list (hv'.out.mv (hE1.drew.mv _)) (Old.nil _) _ ?_
  intro w2 cs hE2 hcs
  obtain ⟨z, rfl⟩ := hcs.shape
  have hcs' := Lib.hid hcs
  clear hcs
  have hw2 := (Ext.refl w1).drew.trans hE2
  refine hK _ _ (fun _ => hw2) ?_
  clear hK
  simp only [Cells6.list]
  refine scr_one rfl rfl (fun K hK => ?_)
  go_simp
  refine clean_all u _ [] y.list (hu'.out.mv ((hE1.trans hw2).mv _)) (Old.nil _) _ ?_
  intro w3 ds hE3 hds
  obtain ⟨t, rfl⟩ := hds.shape
  have hds' := Lib.hid hds
  clear hds
  refine hK _ _ (fun h => by simp at h) ?_
  clear hK
  simp only [Cells6.list]
  refine scr_one rfl rfl (fun K hK => ?_)
  go_simp
  refine identical_c v.clean (hcs'.out.mv (hE3.mv _)) hds'.out _ ?_
  intro w4 hE4
  refine hK _ _ (fun h => by simp at h) ?_
  clear hK
  (apply scr_pure'; (· rfl); (· rfl); (· (intro w'; go_simp; try rfl)); (· (simp [go_sem]; try rfl)))
  refine scr_end ?_
  simp only [Exit.then]
  go_wp2_with fail
  exact hR'.out _ (((hE1.trans hw2).trans hE3).trans hE4)

theorem clean_5' (n : Int) (f : Nat) (s : ByteArray) (keys : List ByteArray) (l : List V) : V.clean (.mk 5 n f s keys l) = .mk 5 0 0 ⟨#[]⟩ [] (V.cleanL l) := by simp [V.clean]
theorem same_list (a b : List V) : (V.clean (.mk 5 0 0 ⟨#[]⟩ [] a)).same (V.clean (.mk 5 0 0 ⟨#[]⟩ [] b)) = V.sameL (V.cleanL a) (V.cleanL b) := by
  rw [clean_5', clean_5']
  simp [V.same]

set_option maxRecDepth 100000 in
set_option maxHeartbeats 1000000 in
theorem listOf_c {w : World} {o : Option Addr} {n c : Nat} (R : Ending → World → Prop) (hR : ∀ w', Ext w w' → R (.returned (.agg #[.int .i64 5, .int .i64 0, .float .f64 0, .string ⟨#[]⟩, .slice none 0 0, .slice o n c])) w') :
    Calls Try.prog 24 #[.slice o n c] w R := by
  have hR' := Lib.hid hR
  clear hR
  go_enter Try.func24, Try.ntmps24
  go_wp2_with fail
  refine bodyPost_ret (by simp [results, Try.results24, go_sem]; try rfl) rfl ?_
  exact hR'.out _ (.alloc _ _)

set_option maxRecDepth 100000 in
set_option maxHeartbeats 1000000 in
theorem sameValues_c {w : World} {X Y : List Nat} {va vb : Value} {a b : List V} (ha : IsVs w X va a) (hb : IsVs w Y vb b) (R : Ending → World → Prop) (hR : Ends R w (.bool (V.sameL (V.cleanL a) (V.cleanL b)))) :
    Calls Try.prog 8 #[va, vb] w R := by
  obtain ⟨o, c, _, _, rfl, -⟩ := id ha.ex
  obtain ⟨o2, c2, _, _, rfl, -⟩ := id hb.ex
  have ha' := Lib.hid ha
  have hb' := Lib.hid hb
  have hR' := Lib.hid hR
  clear ha hb hR
  go_enter Try.func8, Try.ntmps8
  go_wp2_with fail
  refine listOf_c _ ?_
  intro w1 hE1
  dsimp only
  go_wp2_with fail
  refine listOf_c _ ?_
  intro w2 hE2
  dsimp only
  go_wp2_with fail
  refine sameValue_c (cs := [.int .i64 5, .int .i64 0, .float .f64 0, .string ⟨#[]⟩, .slice none 0 0, .slice o a.length c]) (ds := [.int .i64 5, .int .i64 0, .float .f64 0, .string ⟨#[]⟩, .slice none 0 0, .slice o2 b.length c2]) (IsV.of (by decide) (by decide) (by decide) (by decide) (IsStrs.nil _ _) (ha'.out.mv ((hE1.trans hE2).mv _))) (IsV.of (by decide) (by decide) (by decide) (by decide) (IsStrs.nil _ _) (hb'.out.mv ((hE1.trans hE2).mv _))) _ ?_
  rw [same_list]
  intro w3 hE3
  dsimp only
  go_wp2_with fail
  exact hR'.out _ ((hE1.trans hE2).trans hE3)

end Go.Proofs.Ytnndacgokehkpaa
