/- For all values, CompareValues returns what the reference returns: no condition beside the law's own. -/
import Derived.Test.YtamcgcncghabhaaCmpI
import Derived.Test.YtamcgcncghabhaaOrderly
import Derived.Test.YtamcgcncghabhaaFits
import Derived.Test.YtamcgcncghabhaaLaw
namespace Go.Proofs.Ytamcgcncghabhaa
open Go.ChangeShapes Go.WideShapes Go.ChangeAt Go.RowKit

set_option maxRecDepth 100000 in
set_option maxHeartbeats 4000000 in
set_option pp.maxSteps 1000000 in
set_option pp.deepTerms true in
theorem fnCompareValues_law {w : World} {cs ds : List Value} {a b : V} (ha : IsV w [] cs a) (hb : IsV w [] ds b) :
    Calls Try.prog 3 #[.agg cs.toArray, .agg ds.toArray] w fun e w' => e = .returned (.bool true) ∧ Below w.heap.size w w' := by
  suffices h : ∀ R : Ending → World → Prop, Ends R w (.bool true) → Calls Try.prog 3 #[.agg cs.toArray, .agg ds.toArray] w R from h _ (fun w' hE => ⟨rfl, hE⟩)
  intro R hR
  obtain ⟨x, rfl⟩ := ha.shape
  obtain ⟨y, rfl⟩ := hb.shape
  have ha' := Lib.hid ha
  have hb' := Lib.hid hb
  have hR' := Lib.hid hR
  clear hR ha hb
  simp only [Cells6.list]
  go_enter Try.func3, Try.ntmps3
  go_wp2_with fail
  refine abs2 (G := fun wr => Calls _ _ _ wr _) ?_
  intro w1 hE1 hb1 hb2 hs1
  have e0 : w1.cell? ⟨w.heap.size, 0, none⟩ = some (.int .i64 x.kind) := cells_of hb1 0; have e1 : w1.cell? ⟨w.heap.size, 1, none⟩ = some (.int .i64 x.n) := cells_of hb1 1; have e2 : w1.cell? ⟨w.heap.size, 2, none⟩ = some (.float .f64 x.f) := cells_of hb1 2; have e3 : w1.cell? ⟨w.heap.size, 3, none⟩ = some (.string x.s) := cells_of hb1 3; have e4 : w1.cell? ⟨w.heap.size, 4, none⟩ = some (.slice x.ko x.kn x.kc) := cells_of hb1 4; have e5 : w1.cell? ⟨w.heap.size, 5, none⟩ = some (.slice x.o x.m x.c) := cells_of hb1 5
  have f0 : w1.cell? ⟨w.heap.size + 1, 0, none⟩ = some (.int .i64 y.kind) := cells_of hb2 0; have f1 : w1.cell? ⟨w.heap.size + 1, 1, none⟩ = some (.int .i64 y.n) := cells_of hb2 1; have f2 : w1.cell? ⟨w.heap.size + 1, 2, none⟩ = some (.float .f64 y.f) := cells_of hb2 2; have f3 : w1.cell? ⟨w.heap.size + 1, 3, none⟩ = some (.string y.s) := cells_of hb2 3; have f4 : w1.cell? ⟨w.heap.size + 1, 4, none⟩ = some (.slice y.ko y.kn y.kc) := cells_of hb2 4; have f5 : w1.cell? ⟨w.heap.size + 1, 5, none⟩ = some (.slice y.o y.m y.c) := cells_of hb2 5
  clear hb1 hb2 hs1
  refine zzFits5_any (ha'.out.mv (hE1.mv [])) _ ?_
  intro t1 w2 hE2
  replace e0 := hE2.keep e0; replace e1 := hE2.keep e1; replace e2 := hE2.keep e2; replace e3 := hE2.keep e3; replace e4 := hE2.keep e4; replace e5 := hE2.keep e5; replace f0 := hE2.keep f0; replace f1 := hE2.keep f1; replace f2 := hE2.keep f2; replace f3 := hE2.keep f3; replace f4 := hE2.keep f4; replace f5 := hE2.keep f5
  replace hE1 := hE1.trans hE2
  clear hE2
  dsimp only
  cases t1
  · go_wp2_with fail
    exact hR'.out _ hE1
  go_wp2_with fail
  refine zzFits5_any (hb'.out.mv (hE1.mv [])) _ ?_
  intro t2 w3 hE3
  replace e0 := hE3.keep e0; replace e1 := hE3.keep e1; replace e2 := hE3.keep e2; replace e3 := hE3.keep e3; replace e4 := hE3.keep e4; replace e5 := hE3.keep e5; replace f0 := hE3.keep f0; replace f1 := hE3.keep f1; replace f2 := hE3.keep f2; replace f3 := hE3.keep f3; replace f4 := hE3.keep f4; replace f5 := hE3.keep f5
  replace hE1 := hE1.trans hE3
  clear hE3
  dsimp only
  cases t2
  · go_wp2_with fail
    exact hR'.out _ hE1
  go_wp2_with fail
  refine orderly_c a (ha'.out.mv (hE1.mv [])) _ ?_
  generalize a.orderly = t3
  intro w4 hE4
  replace e0 := hE4.keep e0; replace e1 := hE4.keep e1; replace e2 := hE4.keep e2; replace e3 := hE4.keep e3; replace e4 := hE4.keep e4; replace e5 := hE4.keep e5; replace f0 := hE4.keep f0; replace f1 := hE4.keep f1; replace f2 := hE4.keep f2; replace f3 := hE4.keep f3; replace f4 := hE4.keep f4; replace f5 := hE4.keep f5
  replace hE1 := hE1.trans hE4
  clear hE4
  dsimp only
  cases t3
  · go_wp2_with fail
    exact hR'.out _ hE1
  go_wp2_with fail
  refine orderly_c b (hb'.out.mv (hE1.mv [])) _ ?_
  generalize b.orderly = t4
  intro w5 hE5
  replace e0 := hE5.keep e0; replace e1 := hE5.keep e1; replace e2 := hE5.keep e2; replace e3 := hE5.keep e3; replace e4 := hE5.keep e4; replace e5 := hE5.keep e5; replace f0 := hE5.keep f0; replace f1 := hE5.keep f1; replace f2 := hE5.keep f2; replace f3 := hE5.keep f3; replace f4 := hE5.keep f4; replace f5 := hE5.keep f5
  replace hE1 := hE1.trans hE5
  clear hE5
  dsimp only
  cases t4
  · go_wp2_with fail
    exact hR'.out _ hE1
  go_wp2_with fail
  have hC : Ext w5 w5.drew := (Ext.refl _).drew
  refine wp_region_script [0, 1, 3, 4, 6, 7] [2] (fun w' => Ext w5 w') [(.read, 0), (.read, 1), (.read, 3), (.read, 4), (.one, 2), (.one, 5), (.pure, 6), (.pure, 7)] (by kernel_rfl) (by kernel_rfl) ?_
  (apply scr_read'; (· rfl); (· rfl); (· first | exact hC | exact (Ext.refl _).drew); (· (intro w' hw'; have e0_ := hw'.keep e0; have e1_ := hw'.keep e1; have e2_ := hw'.keep e2; have e3_ := hw'.keep e3; have e4_ := hw'.keep e4; have e5_ := hw'.keep e5; go_simp; try rfl)); (· (simp [go_sem]; try rfl)))
  (apply scr_read'; (· rfl); (· rfl); (· first | exact hC | exact (Ext.refl _).drew); (· (intro w' hw'; have f0_ := hw'.keep f0; have f1_ := hw'.keep f1; have f2_ := hw'.keep f2; have f3_ := hw'.keep f3; have f4_ := hw'.keep f4; have f5_ := hw'.keep f5; go_simp; try rfl)); (· (simp [go_sem]; try rfl)))
  (apply scr_read'; (· rfl); (· rfl); (· first | exact hC | exact (Ext.refl _).drew); (· (intro w' hw'; have e0_ := hw'.keep e0; have e1_ := hw'.keep e1; have e2_ := hw'.keep e2; have e3_ := hw'.keep e3; have e4_ := hw'.keep e4; have e5_ := hw'.keep e5; go_simp; try rfl)); (· (simp [go_sem]; try rfl)))
  (apply scr_read'; (· rfl); (· rfl); (· first | exact hC | exact (Ext.refl _).drew); (· (intro w' hw'; have f0_ := hw'.keep f0; have f1_ := hw'.keep f1; have f2_ := hw'.keep f2; have f3_ := hw'.keep f3; have f4_ := hw'.keep f4; have f5_ := hw'.keep f5; go_simp; try rfl)); (· (simp [go_sem]; try rfl)))
  refine scr_one rfl rfl (fun K hK => ?_)
  go_simp
  refine implCompareValues_c (cs := x.list) (ds := y.list) (ha'.out.mv ((hE1.trans hC).mv _)) (hb'.out.mv ((hE1.trans hC).mv _)) _ ?_
  obtain ⟨v, hv⟩ : ∃ v, V.cmpP a.clean b.clean = v := ⟨_, rfl⟩
  rw [hv]
  intro w6 hE6
  refine hK _ _ (fun _ => hC.trans hE6) ?_
  clear hK
  refine scr_one rfl rfl (fun K hK => ?_)
  go_simp
  refine specCompareValues_c (cs := x.list) (ds := y.list) (ha'.out.mv ((hE1.trans (hC.trans hE6)).mv _)) (hb'.out.mv ((hE1.trans (hC.trans hE6)).mv _)) _ ?_
  rw [hv]
  clear hv
  intro w7 hE7
  refine hK _ _ (fun h => by simp at h) ?_
  clear hK
  (apply scr_pure'; (· rfl); (· rfl); (· (intro w'; go_simp; try rfl)); (· (simp [go_sem]; try rfl)))
  (apply scr_pure'; (· rfl); (· rfl); (· (intro w'; go_simp; try rfl)); (· (simp [go_sem]; try rfl)))
  refine scr_end ?_
  simp only [Exit.then]
  go_wp2_with fail
  exact hR'.out.bool (by simp) _ (hE1.trans (hC.trans (hE6.trans hE7)))

set_option maxRecDepth 100000 in
theorem fnCompareValues_walk : LawWalk 3 Try.f3 := by
  intro H enc W base args ds ps hA _ hw hval
  rw [Try.params3] at hA hw hval
  obtain ⟨v0, v1, d0, d1, p0, p1, hargs, rfl, rfl, h0, h1⟩ := trodAll_two hA
  obtain ⟨args⟩ := args
  obtain rfl : args = [v0, v1] := by simpa using hargs
  obtain ⟨cs0, rfl, hcs0⟩ := okWide_struct Try.underlying26 (hval 0 26 v0 rfl rfl)
  obtain ⟨cs1, rfl, hcs1⟩ := okWide_struct Try.underlying26 (hval 1 26 v1 rfl rfl)
  obtain ⟨fuel0, h0⟩ := h0
  obtain ⟨fuel1, h1⟩ := h1
  simp only [DataW.weightsEach, List.all_append, Bool.and_eq_true] at hw
  obtain ⟨a, ha⟩ := read_v fuel0 _ _ h0 hw.1
  obtain ⟨b, hb⟩ := read_v fuel1 _ _ h1 hw.2.1
  exact fnCompareValues_law (cs := cs0.toList) (ds := cs1.toList) ha hb

set_option maxRecDepth 100000 in
theorem fnCompareValues_lifted (os : Os) (started : os.Started) (H : Type) (enc : TypeId × Value → H) :
    ReturnsInHanded {} Try.checked os 3 .any (Rows.fnCompareValuesSpec.pre6 enc Try.prog Try.f3 Rows.fnCompareValuesRow.domain false) (Rows.fnCompareValuesSpec.post enc Try.prog Try.f3 false true false false) :=
  law_lift (s := Rows.fnCompareValuesSpec) started (by kernel_rfl) Try.func3 rfl rfl
    (by rw [Try.params3]; intro t ht; simp at ht; rcases ht with rfl | rfl <;> exact ⟨by kernel_rfl, of_decide_eq_true (by kernel_rfl)⟩)
    (by rw [Try.params3]; intro ds hd; match ds, hd with | [a, b], _ => rfl)
    (ChangeSpec.witness6 (enc := enc) (C := Try.checked) false ⟨#[], #[.agg #[.int .i64 0, .int .i64 0, .float .f64 0, .string ⟨#[]⟩, .slice none 0 0, .slice none 0 0], .agg #[.int .i64 0, .int .i64 0, .float .f64 0, .string ⟨#[]⟩, .slice none 0 0, .slice none 0 0]], []⟩ 8 (by kernel_rfl) (by kernel_rfl) (by kernel_rfl) (by kernel_rfl))
    fnCompareValues_walk

theorem FnCompareValues_holds : Rows.FnCompareValuesSaid :=
  OpenClaim.holds_of_wide 3 Try.f3 rfl rfl rfl rfl rfl rfl rfl ⟨rfl, rfl, rfl, rfl, rfl⟩ rfl rfl rfl rfl rfl (by kernel_rfl) Try.func3 (by kernel_rfl)
    (of_decide_eq_true (by kernel_rfl)) (by unfold Func.isWrapper; first | (rw [if_pos (by decide +kernel)]; kernel_rfl) | (rw [if_neg (by decide +kernel)]; exact ⟨rfl, rfl⟩))
    (fun os started H enc _ => fnCompareValues_lifted os started H enc)

end Go.Proofs.Ytamcgcncghabhaa
