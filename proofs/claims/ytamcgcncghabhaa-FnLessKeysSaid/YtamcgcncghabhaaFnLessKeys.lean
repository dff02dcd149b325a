/- For all lists of fields, the first comes before the second exactly if comparing them gives -1, and behind it exactly if that gives 1; no condition beside the law's own. -/
import Derived.Test.YtamcgcncghabhaaKeysD
import Derived.Test.YtamcgcncghabhaaTameS
import Derived.Test.YtamcgcncghabhaaLaw
namespace Go.Proofs.Ytamcgcncghabhaa
open Go.RowKit Go.Deep Go.ChangeShapes Go.WideShapes Go.ChangeAt

section
variable {H : Type} {enc : TypeId × Value → H} {w : World} {base : Nat} {spare : Nat → Bool} {held : Bool}
theorem eleven_of {cs : List Value} (h : cs.length = 11) : ∃ c0 c1 c2 c3 c4 c5 c6 c7 c8 c9 c10, cs = [c0, c1, c2, c3, c4, c5, c6, c7, c8, c9, c10] := by
  match cs, h with
  | [c0, c1, c2, c3, c4, c5, c6, c7, c8, c9, c10], _ => exact ⟨_, _, _, _, _, _, _, _, _, _, _, rfl⟩
theorem read_el {fuel : Nat} {cs : List Value} {x : DataW H × List MemPlace} (h : DataW.trod enc Try.prog w base spare held fuel 31 cs = some x)
    (hw : (x.1.weights Try.prog 31).all (· ≤ reachBytes) = true) : ∃ e, kEl.is w [] cs e := by
  obtain ⟨hlen, n, hn, hf⟩ := read_fields Try.underlying31 h hw
  have q : Try.prog.cellsOf 31 = 11 := by kernel_rfl
  have q0 : Try.prog.cellsOf 3 = 1 := by kernel_rfl
  have q1 : Try.prog.cellsOf 9 = 1 := by kernel_rfl
  have q2 : Try.prog.cellsOf 23 = 1 := by kernel_rfl
  have q3 : Try.prog.cellsOf 24 = 1 := by kernel_rfl
  have q4 : Try.prog.cellsOf 26 = 6 := by kernel_rfl
  rw [q] at hlen
  obtain ⟨c0, c1, c2, c3, c4, c5, c6, c7, c8, c9, c10, rfl⟩ := eleven_of hlen
  have e0 := hf 0
  have e1 := hf 1
  have e2 := hf 2
  have e3 := hf 3
  have e4 := hf 4
  have e5 := hf 5
  simp only [List.getElem?_toArray, List.getElem?_cons_zero, List.getElem?_cons_succ, Option.some.injEq, forall_eq', q0, q1, q2, q3, q4, List.drop_zero, List.drop_succ_cons, List.take_succ_cons, List.take_zero] at e0 e1 e2 e3 e4 e5
  obtain ⟨y0, t0, w0⟩ := e0
  obtain ⟨y1, t1, w1⟩ := e1
  obtain ⟨y2, t2, w2⟩ := e2
  obtain ⟨y3, t3, w3⟩ := e3
  obtain ⟨y4, t4, w4⟩ := e4
  obtain ⟨y5, t5, w5⟩ := e5
  obtain ⟨k0, h0, -, wf0⟩ := DataW.trod_int Try.underlying3 t0
  obtain ⟨s1, h1, hs1⟩ := read_str t1 w1
  obtain ⟨v2, ss, h2, hss⟩ := read_strs t2 w2
  obtain ⟨v3, vs, h3, hvs⟩ := read_vs t3 w3
  obtain ⟨v, hv⟩ := read_v n _ _ t4 w4
  obtain ⟨k5, h5, -, wf5⟩ := DataW.trod_int Try.underlying3 t5
  simp only [List.cons.injEq, and_true] at h0 h1 h2 h3 h5
  subst h0 h1 h2 h3 h5
  exact ⟨⟨k0, s1, ss, vs, v, k5⟩, _, _, [c4, c5, c6, c7, c8, c9], rfl, wf0, wf5, hs1, hss, hvs, hv⟩
end

set_option maxRecDepth 100000 in
set_option maxHeartbeats 4000000 in
set_option pp.maxSteps 1000000 in
set_option pp.deepTerms true in
theorem fnLessKeys_law {w : World} {cs ds : List Value} {a b : EL} (ha : kEl.is w [] cs a) (hb : kEl.is w [] ds b) :
    Calls Try.prog 4 #[.agg cs.toArray, .agg ds.toArray] w fun e w' => e = .returned (.bool true) ∧ Below w.heap.size w w' := by
  suffices h : ∀ R : Ending → World → Prop, Ends R w (.bool true) → Calls Try.prog 4 #[.agg cs.toArray, .agg ds.toArray] w R from h _ (fun w' hE => ⟨rfl, hE⟩)
  intro R hR
  have ha' := Lib.hid ha
  have hb' := Lib.hid hb
  obtain ⟨vk, vl, vs, rfl, -, -, -, hks, hl, hv⟩ := ha
  obtain ⟨vk2, vl2, vs2, rfl, -, -, -, hks2, hl2, hv2⟩ := hb
  obtain ⟨x, rfl⟩ := hv.shape
  obtain ⟨y, rfl⟩ := hv2.shape
  have hl' := Lib.hid hl
  have hl2' := Lib.hid hl2
  obtain ⟨o, c, -, -, rfl, -⟩ := hl.ex
  obtain ⟨o2, c2, -, -, rfl, -⟩ := hl2.ex
  obtain ⟨ko, kc, -, -, rfl, -⟩ := hks.ex
  obtain ⟨ko2, kc2, -, -, rfl, -⟩ := hks2.ex
  have hR' := Lib.hid hR
  clear hR hks hl hv hks2 hl2 hv2
  simp only [Cells6.list, List.cons_append, List.nil_append] at ha' hb' ⊢
  go_enter Try.func4, Try.ntmps4
  go_wp2_with fail
  refine abs2 (G := fun wr => Calls _ _ _ wr _) ?_
  intro w1 hE1 hb1 hb2 hs1
  have e0 : w1.cell? ⟨w.heap.size, 0, none⟩ = some (.int .i64 a.kind) := cells_of hb1 0; have e1 : w1.cell? ⟨w.heap.size, 1, none⟩ = some (.string a.s) := cells_of hb1 1; have e2 : w1.cell? ⟨w.heap.size, 2, none⟩ = some (.slice ko a.keys.length kc) := cells_of hb1 2; have e3 : w1.cell? ⟨w.heap.size, 3, none⟩ = some (.slice o a.l.length c) := cells_of hb1 3; have e4 : w1.cell? ⟨w.heap.size, 4, none⟩ = some (.int .i64 x.kind) := cells_of hb1 4; have e5 : w1.cell? ⟨w.heap.size, 5, none⟩ = some (.int .i64 x.n) := cells_of hb1 5; have e6 : w1.cell? ⟨w.heap.size, 6, none⟩ = some (.float .f64 x.f) := cells_of hb1 6; have e7 : w1.cell? ⟨w.heap.size, 7, none⟩ = some (.string x.s) := cells_of hb1 7; have e8 : w1.cell? ⟨w.heap.size, 8, none⟩ = some (.slice x.ko x.kn x.kc) := cells_of hb1 8; have e9 : w1.cell? ⟨w.heap.size, 9, none⟩ = some (.slice x.o x.m x.c) := cells_of hb1 9; have e10 : w1.cell? ⟨w.heap.size, 10, none⟩ = some (.int .i64 a.n) := cells_of hb1 10
  have f0 : w1.cell? ⟨w.heap.size + 1, 0, none⟩ = some (.int .i64 b.kind) := cells_of hb2 0; have f1 : w1.cell? ⟨w.heap.size + 1, 1, none⟩ = some (.string b.s) := cells_of hb2 1; have f2 : w1.cell? ⟨w.heap.size + 1, 2, none⟩ = some (.slice ko2 b.keys.length kc2) := cells_of hb2 2; have f3 : w1.cell? ⟨w.heap.size + 1, 3, none⟩ = some (.slice o2 b.l.length c2) := cells_of hb2 3; have f4 : w1.cell? ⟨w.heap.size + 1, 4, none⟩ = some (.int .i64 y.kind) := cells_of hb2 4; have f5 : w1.cell? ⟨w.heap.size + 1, 5, none⟩ = some (.int .i64 y.n) := cells_of hb2 5; have f6 : w1.cell? ⟨w.heap.size + 1, 6, none⟩ = some (.float .f64 y.f) := cells_of hb2 6; have f7 : w1.cell? ⟨w.heap.size + 1, 7, none⟩ = some (.string y.s) := cells_of hb2 7; have f8 : w1.cell? ⟨w.heap.size + 1, 8, none⟩ = some (.slice y.ko y.kn y.kc) := cells_of hb2 8; have f9 : w1.cell? ⟨w.heap.size + 1, 9, none⟩ = some (.slice y.o y.m y.c) := cells_of hb2 9; have f10 : w1.cell? ⟨w.heap.size + 1, 10, none⟩ = some (.int .i64 b.n) := cells_of hb2 10
  clear hb1 hb2 hs1
  refine zzFits13_any (kEl.mv ha'.out (hE1.mv _)) _ ?_
  intro t1 w2 hE2
  replace e0 := hE2.keep e0; replace e1 := hE2.keep e1; replace e2 := hE2.keep e2; replace e3 := hE2.keep e3; replace e4 := hE2.keep e4; replace e5 := hE2.keep e5; replace e6 := hE2.keep e6; replace e7 := hE2.keep e7; replace e8 := hE2.keep e8; replace e9 := hE2.keep e9; replace e10 := hE2.keep e10; replace f0 := hE2.keep f0; replace f1 := hE2.keep f1; replace f2 := hE2.keep f2; replace f3 := hE2.keep f3; replace f4 := hE2.keep f4; replace f5 := hE2.keep f5; replace f6 := hE2.keep f6; replace f7 := hE2.keep f7; replace f8 := hE2.keep f8; replace f9 := hE2.keep f9; replace f10 := hE2.keep f10
  replace hE1 := hE1.trans hE2
  clear hE2
  dsimp only
  cases t1
  · go_wp2_with fail
    exact hR'.out _ hE1
  go_wp2_with fail
  refine zzFits13_any (kEl.mv hb'.out (hE1.mv _)) _ ?_
  intro t2 w3 hE3
  replace e0 := hE3.keep e0; replace e1 := hE3.keep e1; replace e2 := hE3.keep e2; replace e3 := hE3.keep e3; replace e4 := hE3.keep e4; replace e5 := hE3.keep e5; replace e6 := hE3.keep e6; replace e7 := hE3.keep e7; replace e8 := hE3.keep e8; replace e9 := hE3.keep e9; replace e10 := hE3.keep e10; replace f0 := hE3.keep f0; replace f1 := hE3.keep f1; replace f2 := hE3.keep f2; replace f3 := hE3.keep f3; replace f4 := hE3.keep f4; replace f5 := hE3.keep f5; replace f6 := hE3.keep f6; replace f7 := hE3.keep f7; replace f8 := hE3.keep f8; replace f9 := hE3.keep f9; replace f10 := hE3.keep f10
  replace hE1 := hE1.trans hE3
  clear hE3
  dsimp only
  cases t2
  · go_wp2_with fail
    exact hR'.out _ hE1
  go_wp2_with fail
  refine orderlyValues_c (hl'.out.mv (hE1.mv _)) _ ?_
  generalize V.orderlyL a.l = t3
  intro w4 hE4
  replace e0 := hE4.keep e0; replace e1 := hE4.keep e1; replace e2 := hE4.keep e2; replace e3 := hE4.keep e3; replace e4 := hE4.keep e4; replace e5 := hE4.keep e5; replace e6 := hE4.keep e6; replace e7 := hE4.keep e7; replace e8 := hE4.keep e8; replace e9 := hE4.keep e9; replace e10 := hE4.keep e10; replace f0 := hE4.keep f0; replace f1 := hE4.keep f1; replace f2 := hE4.keep f2; replace f3 := hE4.keep f3; replace f4 := hE4.keep f4; replace f5 := hE4.keep f5; replace f6 := hE4.keep f6; replace f7 := hE4.keep f7; replace f8 := hE4.keep f8; replace f9 := hE4.keep f9; replace f10 := hE4.keep f10
  replace hE1 := hE1.trans hE4
  clear hE4
  dsimp only
  cases t3
  · go_wp2_with fail
    exact hR'.out _ hE1
  go_wp2_with fail
  refine orderlyValues_c (hl2'.out.mv (hE1.mv _)) _ ?_
  generalize V.orderlyL b.l = t4
  intro w5 hE5
  replace e0 := hE5.keep e0; replace e1 := hE5.keep e1; replace e2 := hE5.keep e2; replace e3 := hE5.keep e3; replace e4 := hE5.keep e4; replace e5 := hE5.keep e5; replace e6 := hE5.keep e6; replace e7 := hE5.keep e7; replace e8 := hE5.keep e8; replace e9 := hE5.keep e9; replace e10 := hE5.keep e10; replace f0 := hE5.keep f0; replace f1 := hE5.keep f1; replace f2 := hE5.keep f2; replace f3 := hE5.keep f3; replace f4 := hE5.keep f4; replace f5 := hE5.keep f5; replace f6 := hE5.keep f6; replace f7 := hE5.keep f7; replace f8 := hE5.keep f8; replace f9 := hE5.keep f9; replace f10 := hE5.keep f10
  replace hE1 := hE1.trans hE5
  clear hE5
  dsimp only
  cases t4
  · go_wp2_with fail
    exact hR'.out _ hE1
  go_wp2_with fail
  refine specCompareKeys_c (kEl.mv ha'.out (hE1.mv _)) (kEl.mv hb'.out (hE1.mv _)) _ ?_
  have hneg := cmpE_neg rV_neg (a.keys.zip a.l) (b.keys.zip b.l)
  have hcs := cmpE_rng rV_rng (a.keys.zip a.l) (b.keys.zip b.l)
  obtain ⟨z, hz⟩ : ∃ z, cmpE rV (a.keys.zip a.l) (b.keys.zip b.l) = z := ⟨_, rfl⟩
  rw [hz] at hneg hcs ⊢
  have hz' := Lib.hid hz
  have hneg' := Lib.hid hneg
  have hcs' := Lib.hid hcs
  clear hz hneg hcs
  intro w6 hE6
  replace e0 := hE6.keep e0; replace e1 := hE6.keep e1; replace e2 := hE6.keep e2; replace e3 := hE6.keep e3; replace e4 := hE6.keep e4; replace e5 := hE6.keep e5; replace e6 := hE6.keep e6; replace e7 := hE6.keep e7; replace e8 := hE6.keep e8; replace e9 := hE6.keep e9; replace e10 := hE6.keep e10; replace f0 := hE6.keep f0; replace f1 := hE6.keep f1; replace f2 := hE6.keep f2; replace f3 := hE6.keep f3; replace f4 := hE6.keep f4; replace f5 := hE6.keep f5; replace f6 := hE6.keep f6; replace f7 := hE6.keep f7; replace f8 := hE6.keep f8; replace f9 := hE6.keep f9; replace f10 := hE6.keep f10
  replace hE1 := hE1.trans hE6
  clear hE6
  dsimp only
  go_wp2_with fail
  refine implLessKeys_c (kEl.mv ha'.out (hE1.mv _)) (kEl.mv hb'.out (hE1.mv _)) _ ?_
  rw [hz'.out]
  intro w7 hE7
  replace e0 := hE7.keep e0; replace e1 := hE7.keep e1; replace e2 := hE7.keep e2; replace e3 := hE7.keep e3; replace e4 := hE7.keep e4; replace e5 := hE7.keep e5; replace e6 := hE7.keep e6; replace e7 := hE7.keep e7; replace e8 := hE7.keep e8; replace e9 := hE7.keep e9; replace e10 := hE7.keep e10; replace f0 := hE7.keep f0; replace f1 := hE7.keep f1; replace f2 := hE7.keep f2; replace f3 := hE7.keep f3; replace f4 := hE7.keep f4; replace f5 := hE7.keep f5; replace f6 := hE7.keep f6; replace f7 := hE7.keep f7; replace f8 := hE7.keep f8; replace f9 := hE7.keep f9; replace f10 := hE7.keep f10
  replace hE1 := hE1.trans hE7
  clear hE7
  have hcs := hcs'.out
  clear hcs'
  dsimp only
  rcases hcs with rfl | rfl | rfl
  all_goals
    go_wp2_with fail
    refine implLessKeys_c (kEl.mv hb'.out (hE1.mv _)) (kEl.mv ha'.out (hE1.mv _)) _ ?_
    rw [hneg'.out]
    intro w8 hE8
    dsimp only
    go_wp2_with fail
    exact hR'.out.bool (by simp) _ (hE1.trans hE8)

set_option maxRecDepth 100000 in
theorem fnLessKeys_walk : LawWalk 4 Try.f4 := by
  intro H enc W base args ds ps hA _ hw hval
  rw [Try.params4] at hA hw hval
  obtain ⟨v0, v1, d0, d1, p0, p1, hargs, rfl, rfl, h0, h1⟩ := trodAll_two hA
  obtain ⟨args⟩ := args
  obtain rfl : args = [v0, v1] := by simpa using hargs
  obtain ⟨cs0, rfl, hcs0⟩ := okWide_struct Try.underlying31 (hval 0 31 v0 rfl rfl)
  obtain ⟨cs1, rfl, hcs1⟩ := okWide_struct Try.underlying31 (hval 1 31 v1 rfl rfl)
  obtain ⟨fuel0, h0⟩ := h0
  obtain ⟨fuel1, h1⟩ := h1
  simp only [DataW.weightsEach, List.all_append, Bool.and_eq_true] at hw
  obtain ⟨a, ha⟩ := read_el h0 hw.1
  obtain ⟨b, hb⟩ := read_el h1 hw.2.1
  exact fnLessKeys_law (cs := cs0.toList) (ds := cs1.toList) ha hb

set_option maxRecDepth 100000 in
theorem fnLessKeys_lifted (os : Os) (started : os.Started) (H : Type) (enc : TypeId × Value → H) :
    ReturnsInHanded {} Try.checked os 4 .any (Rows.fnLessKeysSpec.pre6 enc Try.prog Try.f4 Rows.fnLessKeysRow.domain false) (Rows.fnLessKeysSpec.post enc Try.prog Try.f4 false true false false) :=
  law_lift (s := Rows.fnLessKeysSpec) started (by kernel_rfl) Try.func4 rfl rfl
    (by rw [Try.params4]; intro t ht; simp at ht; rcases ht with rfl | rfl <;> exact ⟨by kernel_rfl, of_decide_eq_true (by kernel_rfl)⟩)
    (by rw [Try.params4]; intro ds hd; match ds, hd with | [a, b], _ => rfl)
    (ChangeSpec.witness6 (enc := enc) (C := Try.checked) false ⟨#[], #[.agg #[.int .i64 0, .string ⟨#[]⟩, .slice none 0 0, .slice none 0 0, .int .i64 0, .int .i64 0, .float .f64 0, .string ⟨#[]⟩, .slice none 0 0, .slice none 0 0, .int .i64 0], .agg #[.int .i64 0, .string ⟨#[]⟩, .slice none 0 0, .slice none 0 0, .int .i64 0, .int .i64 0, .float .f64 0, .string ⟨#[]⟩, .slice none 0 0, .slice none 0 0, .int .i64 0]], []⟩ 8 (by kernel_rfl) (by kernel_rfl) (by kernel_rfl) (by kernel_rfl))
    fnLessKeys_walk

theorem FnLessKeys_holds : Rows.FnLessKeysSaid :=
  OpenClaim.holds_of_wide 4 Try.f4 rfl rfl rfl rfl rfl rfl rfl ⟨rfl, rfl, rfl, rfl, rfl⟩ rfl rfl rfl rfl rfl (by kernel_rfl) Try.func4 (by kernel_rfl)
    (of_decide_eq_true (by kernel_rfl)) (by unfold Func.isWrapper; first | (rw [if_pos (by decide +kernel)]; kernel_rfl) | (rw [if_neg (by decide +kernel)]; exact ⟨rfl, rfl⟩))
    (fun os started H enc _ => fnLessKeys_lifted os started H enc)

end Go.Proofs.Ytamcgcncghabhaa
