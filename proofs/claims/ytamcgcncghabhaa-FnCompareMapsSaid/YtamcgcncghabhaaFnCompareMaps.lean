/- For all maps, CompareMaps returns what the reference returns, and EqualMaps says whether that is 0: no condition beside the law's own. -/
import Derived.Test.YtamcgcncghabhaaMapsF
import Derived.Test.YtamcgcncghabhaaTameS
import Derived.Test.YtamcgcncghabhaaOrderly
import Derived.Test.YtamcgcncghabhaaFits
import Derived.Test.YtamcgcncghabhaaLaw
namespace Go.Proofs.Ytamcgcncghabhaa
open Go.ChangeShapes Go.WideShapes Go.ChangeAt Go.RowKit

theorem maps_same (keys keys2 : List ByteArray) (l l2 : List V) : cmpE rV (insAll [] (keys.zip l)) (insAll [] (keys2.zip l2)) = V.cmpP (V.clean (.mk 6 0 0 ⟨#[]⟩ keys l)) (V.clean (.mk 6 0 0 ⟨#[]⟩ keys2 l2)) := by
  rw [clean_6, clean_6, cmpP_same' (by decide), if_neg (by decide), if_neg (by decide), if_neg (by decide), if_neg (by decide), if_pos (by decide), cmpPM_eq, V.cleanL_eq, V.cleanL_eq, ← zip_map_right, ← zip_map_right, ← insAll_map, ← insAll_map, cmpE_map]
  rfl
theorem maps_eq0 {keys keys2 : List ByteArray} {l l2 : List V} (h : V.orderlyL l = true) (h2 : V.orderlyL l2 = true) :
    V.eqP (V.clean (.mk 6 0 0 ⟨#[]⟩ keys l)) (V.clean (.mk 6 0 0 ⟨#[]⟩ keys2 l2)) = (V.cmpP (V.clean (.mk 6 0 0 ⟨#[]⟩ keys l)) (V.clean (.mk 6 0 0 ⟨#[]⟩ keys2 l2)) == 0) := by
  rw [Bool.eq_iff_iff, beq_iff_eq]
  exact cmpP_eq (clean_cl _) (clean_cl _) (orderly_clean _ (by simpa [V.orderly] using h)) (orderly_clean _ (by simpa [V.orderly] using h2))

set_option maxRecDepth 100000 in
set_option maxHeartbeats 4000000 in
set_option pp.maxSteps 1000000 in
set_option pp.deepTerms true in
theorem fnCompareMaps_law {w : World} {cs ds : List Value} {a b : V} (ha : IsV w [] cs a) (hb : IsV w [] ds b) :
    Calls Try.prog 9 #[.agg cs.toArray, .agg ds.toArray] w fun e w' => e = .returned (.bool true) ∧ Below w.heap.size w w' := by
  suffices h : ∀ R : Ending → World → Prop, Ends R w (.bool true) → Calls Try.prog 9 #[.agg cs.toArray, .agg ds.toArray] w R from h _ (fun w' hE => ⟨rfl, hE⟩)
  intro R hR
  obtain ⟨x, rfl⟩ := ha.shape
  obtain ⟨y, rfl⟩ := hb.shape
  obtain ⟨ka, na, fa, sa, keys, l⟩ := a
  obtain ⟨kb, nb, fb, sb, keys2, l2⟩ := b
  have hla : IsVs w [] (.slice x.o x.m x.c) l := by
    obtain ⟨_, _, o, c, e, -, -, hl⟩ := ha.inv
    simp only [Cells6.list, List.cons.injEq, Value.slice.injEq, and_true] at e
    obtain ⟨-, -, -, -, -, e1, e2, e3⟩ := e
    rw [e1, e2, e3]
    exact hl
  have hlb : IsVs w [] (.slice y.o y.m y.c) l2 := by
    obtain ⟨_, _, o, c, e, -, -, hl⟩ := hb.inv
    simp only [Cells6.list, List.cons.injEq, Value.slice.injEq, and_true] at e
    obtain ⟨-, -, -, -, -, e1, e2, e3⟩ := e
    rw [e1, e2, e3]
    exact hl
  have hla' := Lib.hid hla
  have hlb' := Lib.hid hlb
  have ha' := Lib.hid ha
  have hb' := Lib.hid hb
  have hR' := Lib.hid hR
  clear hR ha hb hla hlb
  simp only [Cells6.list]
  go_enter Try.func9, Try.ntmps9
  go_wp2_with fail
  refine abs2 (G := fun wr => Calls _ _ _ wr _) ?_
  intro w1 hE1 hb1 hb2 hs1
  have e0 : w1.cell? ⟨w.heap.size, 0, none⟩ = some (.int .i64 x.kind) := cells_of hb1 0; have e1 : w1.cell? ⟨w.heap.size, 1, none⟩ = some (.int .i64 x.n) := cells_of hb1 1; have e2 : w1.cell? ⟨w.heap.size, 2, none⟩ = some (.float .f64 x.f) := cells_of hb1 2; have e3 : w1.cell? ⟨w.heap.size, 3, none⟩ = some (.string x.s) := cells_of hb1 3; have e4 : w1.cell? ⟨w.heap.size, 4, none⟩ = some (.slice x.ko x.kn x.kc) := cells_of hb1 4; have e5 : w1.cell? ⟨w.heap.size, 5, none⟩ = some (.slice x.o x.m x.c) := cells_of hb1 5
  have f0 : w1.cell? ⟨w.heap.size + 1, 0, none⟩ = some (.int .i64 y.kind) := cells_of hb2 0; have f1 : w1.cell? ⟨w.heap.size + 1, 1, none⟩ = some (.int .i64 y.n) := cells_of hb2 1; have f2 : w1.cell? ⟨w.heap.size + 1, 2, none⟩ = some (.float .f64 y.f) := cells_of hb2 2; have f3 : w1.cell? ⟨w.heap.size + 1, 3, none⟩ = some (.string y.s) := cells_of hb2 3; have f4 : w1.cell? ⟨w.heap.size + 1, 4, none⟩ = some (.slice y.ko y.kn y.kc) := cells_of hb2 4; have f5 : w1.cell? ⟨w.heap.size + 1, 5, none⟩ = some (.slice y.o y.m y.c) := cells_of hb2 5
  clear hb1 hb2 hs1
  refine zzFits5_any (ha'.out.mv (hE1.mv [])) _ ?_
  intro t1 w2 hE2
  replace e0 := hE2.keep e0; replace e1 := hE2.keep e1; replace e2 := hE2.keep e2; replace e3 := hE2.keep e3; replace e4 := hE2.keep e4; replace e5 := hE2.keep e5; replace f0 := hE2.keep f0; replace f1 := hE2.keep f1; replace f2 := hE2.keep f2; replace f3 := hE2.keep f3; replace f4 := hE2.keep f4; replace f5 := hE2.keep f5
  replace hE1 := hE1.trans hE2
  clear hE2
  dsimp only
  cases t1
  · go_wp2_with fail
    exact hR'.out _ hE1
  go_wp2_with fail
  refine zzFits5_any (hb'.out.mv (hE1.mv [])) _ ?_
  intro t2 w3 hE3
  replace e0 := hE3.keep e0; replace e1 := hE3.keep e1; replace e2 := hE3.keep e2; replace e3 := hE3.keep e3; replace e4 := hE3.keep e4; replace e5 := hE3.keep e5; replace f0 := hE3.keep f0; replace f1 := hE3.keep f1; replace f2 := hE3.keep f2; replace f3 := hE3.keep f3; replace f4 := hE3.keep f4; replace f5 := hE3.keep f5
  replace hE1 := hE1.trans hE3
  clear hE3
  dsimp only
  cases t2
  · go_wp2_with fail
    exact hR'.out _ hE1
  go_wp2_with fail
  refine orderlyValues_c (hla'.out.mv (hE1.mv [])) _ ?_
  obtain ⟨t3, ht3⟩ : ∃ t, V.orderlyL l = t := ⟨_, rfl⟩
  rw [ht3]
  have ht3' := Lib.hid ht3
  clear ht3
  intro w4 hE4
  replace e0 := hE4.keep e0; replace e1 := hE4.keep e1; replace e2 := hE4.keep e2; replace e3 := hE4.keep e3; replace e4 := hE4.keep e4; replace e5 := hE4.keep e5; replace f0 := hE4.keep f0; replace f1 := hE4.keep f1; replace f2 := hE4.keep f2; replace f3 := hE4.keep f3; replace f4 := hE4.keep f4; replace f5 := hE4.keep f5
  replace hE1 := hE1.trans hE4
  clear hE4
  dsimp only
  cases t3
  · go_wp2_with fail
    exact hR'.out _ hE1
  go_wp2_with fail
  refine orderlyValues_c (hlb'.out.mv (hE1.mv [])) _ ?_
  obtain ⟨t4, ht4⟩ : ∃ t, V.orderlyL l2 = t := ⟨_, rfl⟩
  rw [ht4]
  have ht4' := Lib.hid ht4
  clear ht4
  intro w5 hE5
  replace e0 := hE5.keep e0; replace e1 := hE5.keep e1; replace e2 := hE5.keep e2; replace e3 := hE5.keep e3; replace e4 := hE5.keep e4; replace e5 := hE5.keep e5; replace f0 := hE5.keep f0; replace f1 := hE5.keep f1; replace f2 := hE5.keep f2; replace f3 := hE5.keep f3; replace f4 := hE5.keep f4; replace f5 := hE5.keep f5
  replace hE1 := hE1.trans hE5
  clear hE5
  dsimp only
  cases t4
  · go_wp2_with fail
    exact hR'.out _ hE1
  have hms := maps_same keys keys2 l l2
  have hm0 := maps_eq0 (keys := keys) (keys2 := keys2) ht3'.out ht4'.out
  obtain ⟨z, hz⟩ : ∃ z, V.cmpP (V.clean (.mk 6 0 0 ⟨#[]⟩ keys l)) (V.clean (.mk 6 0 0 ⟨#[]⟩ keys2 l2)) = z := ⟨_, rfl⟩
  rw [hz] at hms hm0
  have hms' := Lib.hid hms
  have hm0' := Lib.hid hm0
  have hz' := Lib.hid hz
  clear hms hm0 hz ht3' ht4'
  go_wp2_with fail
  refine specCompareMaps_c (cs := x.list) (ds := y.list) (ha'.out.mv (hE1.mv _)) (hb'.out.mv (hE1.mv _)) _ ?_
  rw [hz'.out]
  intro w6 hE6
  replace e0 := hE6.keep e0; replace e1 := hE6.keep e1; replace e2 := hE6.keep e2; replace e3 := hE6.keep e3; replace e4 := hE6.keep e4; replace e5 := hE6.keep e5; replace f0 := hE6.keep f0; replace f1 := hE6.keep f1; replace f2 := hE6.keep f2; replace f3 := hE6.keep f3; replace f4 := hE6.keep f4; replace f5 := hE6.keep f5
  replace hE1 := hE1.trans hE6
  clear hE6
  dsimp only
  go_wp2_with fail
  refine implCompareMaps_c (cs := x.list) (ds := y.list) (ha'.out.mv (hE1.mv _)) (hb'.out.mv (hE1.mv _)) _ ?_
  rw [hms'.out]
  intro w7 hE7
  replace e0 := hE7.keep e0; replace e1 := hE7.keep e1; replace e2 := hE7.keep e2; replace e3 := hE7.keep e3; replace e4 := hE7.keep e4; replace e5 := hE7.keep e5; replace f0 := hE7.keep f0; replace f1 := hE7.keep f1; replace f2 := hE7.keep f2; replace f3 := hE7.keep f3; replace f4 := hE7.keep f4; replace f5 := hE7.keep f5
  replace hE1 := hE1.trans hE7
  clear hE7
  dsimp only
  go_wp2_with fail
  refine implEqualMaps_c (cs := x.list) (ds := y.list) (ha'.out.mv (hE1.mv _)) (hb'.out.mv (hE1.mv _)) _ ?_
  rw [hm0'.out]
  intro w8 hE8
  dsimp only
  go_wp2_with fail
  exact hR'.out.bool (by simp) _ (hE1.trans hE8)

set_option maxRecDepth 100000 in
theorem fnCompareMaps_walk : LawWalk 9 Try.f9 := by
  intro H enc W base args ds ps hA _ hw hval
  rw [Try.params9] at hA hw hval
  obtain ⟨v0, v1, d0, d1, p0, p1, hargs, rfl, rfl, h0, h1⟩ := trodAll_two hA
  obtain ⟨args⟩ := args
  obtain rfl : args = [v0, v1] := by simpa using hargs
  obtain ⟨cs0, rfl, hcs0⟩ := okWide_struct Try.underlying26 (hval 0 26 v0 rfl rfl)
  obtain ⟨cs1, rfl, hcs1⟩ := okWide_struct Try.underlying26 (hval 1 26 v1 rfl rfl)
  obtain ⟨fuel0, h0⟩ := h0
  obtain ⟨fuel1, h1⟩ := h1
  simp only [DataW.weightsEach, List.all_append, Bool.and_eq_true] at hw
  obtain ⟨a, ha⟩ := read_v fuel0 _ _ h0 hw.1
  obtain ⟨b, hb⟩ := read_v fuel1 _ _ h1 hw.2.1
  exact fnCompareMaps_law (cs := cs0.toList) (ds := cs1.toList) ha hb

set_option maxRecDepth 100000 in
theorem fnCompareMaps_lifted (os : Os) (started : os.Started) (H : Type) (enc : TypeId × Value → H) :
    ReturnsInHanded {} Try.checked os 9 .any (Rows.fnCompareMapsSpec.pre6 enc Try.prog Try.f9 Rows.fnCompareMapsRow.domain false) (Rows.fnCompareMapsSpec.post enc Try.prog Try.f9 false true false false) :=
  law_lift (s := Rows.fnCompareMapsSpec) started (by kernel_rfl) Try.func9 rfl rfl
    (by rw [Try.params9]; intro t ht; simp at ht; rcases ht with rfl | rfl <;> exact ⟨by kernel_rfl, of_decide_eq_true (by kernel_rfl)⟩)
    (by rw [Try.params9]; intro ds hd; match ds, hd with | [a, b], _ => rfl)
    (ChangeSpec.witness6 (enc := enc) (C := Try.checked) false ⟨#[], #[.agg #[.int .i64 0, .int .i64 0, .float .f64 0, .string ⟨#[]⟩, .slice none 0 0, .slice none 0 0], .agg #[.int .i64 0, .int .i64 0, .float .f64 0, .string ⟨#[]⟩, .slice none 0 0, .slice none 0 0]], []⟩ 8 (by kernel_rfl) (by kernel_rfl) (by kernel_rfl) (by kernel_rfl))
    fnCompareMaps_walk

theorem FnCompareMaps_holds : Rows.FnCompareMapsSaid :=
  OpenClaim.holds_of_wide 9 Try.f9 rfl rfl rfl rfl rfl rfl rfl ⟨rfl, rfl, rfl, rfl, rfl⟩ rfl rfl rfl rfl rfl (by kernel_rfl) Try.func9 (by kernel_rfl)
    (of_decide_eq_true (by kernel_rfl)) (by unfold Func.isWrapper; first | (rw [if_pos (by decide +kernel)]; kernel_rfl) | (rw [if_neg (by decide +kernel)]; exact ⟨rfl, rfl⟩))
    (fun os started H enc _ => fnCompareMaps_lifted os started H enc)

end Go.Proofs.Ytamcgcncghabhaa
