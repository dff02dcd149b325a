/- spec.Field (that it answers) and spec.Zip (how long its answer is). -/
import Derived.Test.YtnndacgokehkpaaZipS
import Derived.Test.YtnndacgokehkpaaClean
import Derived.Test.YtnndacgokehkpaaField
namespace Go.Proofs.Ytnndacgokehkpaa
open Go.RowKit
set_option linter.unusedSimpArgs false

set_option maxRecDepth 100000 in
set_option maxHeartbeats 1000000 in
theorem field_any {w : World} {X : List Nat} {cs : List Value} {n : Int} {f : Nat} {s : ByteArray} {es : EntsOfT V} (hv : IsV w X cs (.mk 6 n f s (es.map (·.1)) (es.map (·.2)))) (key : ByteArray) (hsort : Rising (es.map (·.1)))
    (R : Ending → World → Prop) (hR : ∀ w' (z : Cells6) b, Ext w w' → R (.returned (.tuple #[.agg z.list.toArray, .bool b])) w') :
    Calls Try.prog 22 #[.agg cs.toArray, .string key] w R := by
  have hlen : (es.map (·.1)).length = (es.map (·.2)).length := by simp
  obtain ⟨keys, hkeys⟩ : ∃ keys, es.map (·.1) = keys := ⟨_, rfl⟩
  obtain ⟨l, hll⟩ : ∃ l, es.map (·.2) = l := ⟨_, rfl⟩
  rw [hkeys, hll] at hv hlen
  rw [hkeys] at hsort
  obtain ⟨i, hi⟩ : ∃ i, lowB key keys = i := ⟨_, rfl⟩
  obtain ⟨b, hb⟩ : ∃ b, hasB key keys = b := ⟨_, rfl⟩
  have hil : b = true → i < l.length := fun e => by
    have := hasB_lt (hb.trans e)
    omega
  have hv' := Lib.hid hv
  obtain ⟨ko, kc, o, c, rfl, hwf, hks, hl⟩ := hv.inv
  obtain ⟨_, _, bb, off, e, h2, h3, h4, h5⟩ := hl.ex
  cases e
  have hR' := Lib.hid hR
  have hsort' := Lib.hid hsort
  have hi' := Lib.hid hi
  have hb' := Lib.hid hb
  have hil' := Lib.hid hil
  have h4' := Lib.hid h4
  have h5' := Lib.hid h5
  clear hR hv hwf hks hl hsort hi hb hil hlen hkeys hll h2 h3 h4 h5
  go_enter Try.func22, Try.ntmps22
  go_wp2_with fail
  refine abs2 (G := fun wr => Calls _ _ _ wr _) ?_
  intro w1 hE1 hb1 hb2 hs1
  have e0 : w1.cell? ⟨w.heap.size, 0, none⟩ = some (.int .i64 6) := cells_of hb1 0; have e1 : w1.cell? ⟨w.heap.size, 1, none⟩ = some (.int .i64 n) := cells_of hb1 1; have e2 : w1.cell? ⟨w.heap.size, 2, none⟩ = some (.float .f64 f) := cells_of hb1 2; have e3 : w1.cell? ⟨w.heap.size, 3, none⟩ = some (.string s) := cells_of hb1 3; have e4 : w1.cell? ⟨w.heap.size, 4, none⟩ = some (.slice ko keys.length kc) := cells_of hb1 4; have e5 : w1.cell? ⟨w.heap.size, 5, none⟩ = some (.slice o l.length c) := cells_of hb1 5
  have hb2' := Lib.hid hb2
  have hs1' := Lib.hid hs1
  clear hb1 hb2 hs1
  refine fieldIndex_c (cs := [_, _, _, _, _, _]) (hv'.out.mv (hE1.mv X)) key hsort'.out _ ?_
  rw [hi'.out, hb'.out]
  intro w2 hE2
  replace e0 := hE2.keep e0; replace e1 := hE2.keep e1; replace e2 := hE2.keep e2; replace e3 := hE2.keep e3; replace e4 := hE2.keep e4; replace e5 := hE2.keep e5
  have hb3 := Lib.hid ((hE2.below.block _ (Array.getElem?_eq_some_iff.1 hb2'.out).1).trans hb2'.out)
  replace hE1 := hE1.trans hE2
  clear hE2
  dsimp only
  cases b
  · go_wp2_with (refine wpL_storeRow (cells := #[Value.int .i64 0, .int .i64 0, .float .f64 0, .string ⟨#[]⟩, .slice none 0 0, .slice none 0 0]) rfl _ _ _ rfl Try.size26 rfl rfl hb3.out rfl (by simp [Value.oneCell']) ?_; intro w5 hh5 hg5)
    go_simp
    have z0 : w5.cell? ⟨w.heap.size + 1, 0, none⟩ = some (.int .i64 0) := cells_of hh5 0
    have z1 : w5.cell? ⟨w.heap.size + 1, 1, none⟩ = some (.int .i64 0) := cells_of hh5 1
    have z2 : w5.cell? ⟨w.heap.size + 1, 2, none⟩ = some (.float .f64 0) := cells_of hh5 2
    have z3 : w5.cell? ⟨w.heap.size + 1, 3, none⟩ = some (.string ⟨#[]⟩) := cells_of hh5 3
    have z4 : w5.cell? ⟨w.heap.size + 1, 4, none⟩ = some (.slice none 0 0) := cells_of hh5 4
    have z5 : w5.cell? ⟨w.heap.size + 1, 5, none⟩ = some (.slice none 0 0) := cells_of hh5 5
    refine bodyPost_ret (by simp [results, Try.results22, go_sem, z0, z1, z2, z3, z4, z5]; try rfl) rfl ?_
    exact hR'.out w5 { kind := 0, n := 0, f := 0, s := ⟨#[]⟩, ko := none, kn := 0, kc := 0, o := none, m := 0, c := 0 } false (hE1.grown hg5 (fun j hj => by cases hj; omega))
  · have hlt := hil'.out rfl
    obtain ⟨rfl, hbX⟩ := h4'.out (by omega)
    obtain ⟨x, c0, c1, c2, c3, c4, c5, -⟩ := h5'.out i hlt
    have q0 := (hE1.mv X |>.cell hbX c0).1
    have q1 := (hE1.mv X |>.cell hbX c1).1
    have q2 := (hE1.mv X |>.cell hbX c2).1
    have q3 := (hE1.mv X |>.cell hbX c3).1
    have q4 := (hE1.mv X |>.cell hbX c4).1
    have q5 := (hE1.mv X |>.cell hbX c5).1
    clear c0 c1 c2 c3 c4 c5
    go_wp2_with (refine wpL_storeRow (cells := #[Value.int .i64 x.kind, .int .i64 x.n, .float .f64 x.f, .string x.s, .slice x.ko x.kn x.kc, .slice x.o x.m x.c]) rfl _ _ _ rfl Try.size26 rfl rfl hb3.out rfl (by simp [Value.oneCell']) ?_; intro w5 hh5 hg5)
    go_simp
    have z0 : w5.cell? ⟨w.heap.size + 1, 0, none⟩ = some (.int .i64 x.kind) := cells_of hh5 0
    have z1 : w5.cell? ⟨w.heap.size + 1, 1, none⟩ = some (.int .i64 x.n) := cells_of hh5 1
    have z2 : w5.cell? ⟨w.heap.size + 1, 2, none⟩ = some (.float .f64 x.f) := cells_of hh5 2
    have z3 : w5.cell? ⟨w.heap.size + 1, 3, none⟩ = some (.string x.s) := cells_of hh5 3
    have z4 : w5.cell? ⟨w.heap.size + 1, 4, none⟩ = some (.slice x.ko x.kn x.kc) := cells_of hh5 4
    have z5 : w5.cell? ⟨w.heap.size + 1, 5, none⟩ = some (.slice x.o x.m x.c) := cells_of hh5 5
    refine bodyPost_ret (by simp [results, Try.results22, go_sem, z0, z1, z2, z3, z4, z5]; try rfl) rfl ?_
    exact hR'.out w5 x true (hE1.grown hg5 (fun j hj => by cases hj; omega))

/-- six cells of a value -/
abbrev Cells6.arr (x : Cells6) : Array Value := #[.int .i64 x.kind, .int .i64 x.n, .float .f64 x.f, .string x.s, .slice x.ko x.kn x.kc, .slice x.o x.m x.c]

/-- three cells, whatever they hold -/
def kW : Kind Unit where
  size := 3
  is := fun _ _ cs _ => cs.length = 3 ∧ ∀ u ∈ cs, u.oneCell' = true
  mv := fun h _ => h
  len := fun h => h.1
  one := fun h => h.2

set_option maxRecDepth 100000 in
set_option maxHeartbeats 8000000 in
set_option pp.maxSteps 1000000 in
set_option pp.deepTerms true in
theorem specZip_c {w : World} {X Y : List Nat} {cs ds : List Value} {k n : Int} {f : Nat} {s : ByteArray} {keys : List ByteArray} {l : List V} {k2 n2 : Int} {f2 : Nat} {s2 : ByteArray} {keys2 : List ByteArray} {l2 : List V} (ha : IsV w X cs (.mk k n f s keys l)) (hb : IsV w Y ds (.mk k2 n2 f2 s2 keys2 l2))
    (hbd : (l.length + l2.length + 1) * 88 ≤ 140737488351232) (R : Ending → World → Prop)
    (hR : ∀ w' o c, Ext w w' → R (.returned (.slice o (insAll (insAll [] (keys.zip (V.cleanL l))) (insAll [] (keys2.zip (V.cleanL l2)))).length c)) w') :
    Calls Try.prog 7 #[.agg cs.toArray, .agg ds.toArray] w R := by
  obtain ⟨x, rfl⟩ := ha.shape
  obtain ⟨y, rfl⟩ := hb.shape
  have hPl : (insAll [] (keys.zip (V.cleanL l))).length ≤ l.length := by
    have := insAll_length (keys.zip (V.cleanL l)) []
    simp only [List.length_nil, List.length_zip, cleanL_length] at this
    omega
  have hQl : (insAll [] (keys2.zip (V.cleanL l2))).length ≤ l2.length := by
    have := insAll_length (keys2.zip (V.cleanL l2)) []
    simp only [List.length_nil, List.length_zip, cleanL_length] at this
    omega
  have hPr : Rising ((insAll [] (keys.zip (V.cleanL l))).map (·.1)) := insAll_rising _ trivial
  have hQr : Rising ((insAll [] (keys2.zip (V.cleanL l2))).map (·.1)) := insAll_rising _ trivial
  have hcP : ∀ (w : World) (X : List Nat) (cs : List Value), IsV w X cs (.mk k n f s keys l) → Old X w → ∀ R : Ending → World → Prop, (∀ w' cs', Ext w w' → IsV w' X cs' (.mk 6 0 0 ⟨#[]⟩ ((insAll [] (keys.zip (V.cleanL l))).map (·.1)) ((insAll [] (keys.zip (V.cleanL l))).map (·.2))) → R (.returned (.agg cs'.toArray)) w') → Calls Try.prog 20 #[.agg cs.toArray] w R :=
    fun w X cs h1 h2 R h3 => cleanMap_of (fun i _ => clean_all _) h1 h2 R h3
  have hcQ : ∀ (w : World) (X : List Nat) (cs : List Value), IsV w X cs (.mk k2 n2 f2 s2 keys2 l2) → Old X w → ∀ R : Ending → World → Prop, (∀ w' cs', Ext w w' → IsV w' X cs' (.mk 6 0 0 ⟨#[]⟩ ((insAll [] (keys2.zip (V.cleanL l2))).map (·.1)) ((insAll [] (keys2.zip (V.cleanL l2))).map (·.2))) → R (.returned (.agg cs'.toArray)) w') → Calls Try.prog 20 #[.agg cs.toArray] w R :=
    fun w X cs h1 h2 R h3 => cleanMap_of (fun i _ => clean_all _) h1 h2 R h3
  obtain ⟨P, hP⟩ : ∃ P, insAll [] (keys.zip (V.cleanL l)) = P := ⟨_, rfl⟩
  obtain ⟨Q, hQ⟩ : ∃ Q, insAll [] (keys2.zip (V.cleanL l2)) = Q := ⟨_, rfl⟩
  rw [hP] at hR hPl hPr hcP
  rw [hQ] at hR hQl hQr hcQ
  have hPQ : (P.length + Q.length + 1) * 88 ≤ 140737488351232 := Nat.le_trans (Nat.mul_le_mul_right 88 (by omega)) hbd
  have hPr' := Lib.hid hPr
  have hQr' := Lib.hid hQr
  have hPQ' := Lib.hid hPQ
  have hcP' := Lib.hid hcP
  have hcQ' := Lib.hid hcQ
  have ha' := Lib.hid (ha.mv ((Mv.refl _ _).less (Z := []) (by simp)))
  have hb' := Lib.hid (hb.mv ((Mv.refl _ _).less (Z := []) (by simp)))
  have hR' := Lib.hid hR
  clear hR ha hb hbd hPl hQl hP hQ hPQ hPr hQr hcP hcQ
  simp only [Cells6.list]
  go_enter Try.func7, Try.ntmps7
  go_wp2_with fail
  refine abs2 (G := fun wr => Code.wp _ _ _ _ wr) ?_
  intro w1 hE1 hb1 hb2 hs1
  have e0 : w1.cell? ⟨w.heap.size, 0, none⟩ = some (.int .i64 x.kind) := cells_of hb1 0; have e1 : w1.cell? ⟨w.heap.size, 1, none⟩ = some (.int .i64 x.n) := cells_of hb1 1; have e2 : w1.cell? ⟨w.heap.size, 2, none⟩ = some (.float .f64 x.f) := cells_of hb1 2; have e3 : w1.cell? ⟨w.heap.size, 3, none⟩ = some (.string x.s) := cells_of hb1 3; have e4 : w1.cell? ⟨w.heap.size, 4, none⟩ = some (.slice x.ko x.kn x.kc) := cells_of hb1 4; have e5 : w1.cell? ⟨w.heap.size, 5, none⟩ = some (.slice x.o x.m x.c) := cells_of hb1 5
  have f0 : w1.cell? ⟨w.heap.size + 1, 0, none⟩ = some (.int .i64 y.kind) := cells_of hb2 0; have f1 : w1.cell? ⟨w.heap.size + 1, 1, none⟩ = some (.int .i64 y.n) := cells_of hb2 1; have f2 : w1.cell? ⟨w.heap.size + 1, 2, none⟩ = some (.float .f64 y.f) := cells_of hb2 2; have f3 : w1.cell? ⟨w.heap.size + 1, 3, none⟩ = some (.string y.s) := cells_of hb2 3; have f4 : w1.cell? ⟨w.heap.size + 1, 4, none⟩ = some (.slice y.ko y.kn y.kc) := cells_of hb2 4; have f5 : w1.cell? ⟨w.heap.size + 1, 5, none⟩ = some (.slice y.o y.m y.c) := cells_of hb2 5
  have hb1' := Lib.hid hb1
  have hb2' := Lib.hid hb2
  have hO1 := Lib.hid (show Old [w.heap.size, w.heap.size + 1] w1 from .cons (by omega) (.cons (by omega) (Old.nil _)))
  clear hb1 hb2 hs1
  have hC : Ext w1 w1.drew := (Ext.refl _).drew
  refine wp_region_script [0, 2] [1] (fun w' => Ext w1 w') [(.read, 0), (.read, 2), (.one, 1), (.one, 3), (.one, 4), (.one, 5)] (by kernel_rfl) (by kernel_rfl) ?_
  (apply scr_read'; (· rfl); (· rfl); (· first | exact hC | exact (Ext.refl _).drew); (· (intro w' hw'; have e0_ := hw'.keep e0; have e1_ := hw'.keep e1; have e2_ := hw'.keep e2; have e3_ := hw'.keep e3; have e4_ := hw'.keep e4; have e5_ := hw'.keep e5; go_simp; try rfl)); (· (simp [go_sem]; try rfl)))
  (apply scr_read'; (· rfl); (· rfl); (· first | exact hC | exact (Ext.refl _).drew); (· (intro w' hw'; have f0_ := hw'.keep f0; have f1_ := hw'.keep f1; have f2_ := hw'.keep f2; have f3_ := hw'.keep f3; have f4_ := hw'.keep f4; have f5_ := hw'.keep f5; go_simp; try rfl)); (· (simp [go_sem]; try rfl)))
  refine scr_one rfl rfl (fun K hK => ?_)
  go_simp
  refine hcP'.out _ [w.heap.size, w.heap.size + 1] x.list (ha'.out.mv ((((hE1.trans hC).mv _).more (by omega : w.heap.size ≤ w.heap.size + 1)).more (Nat.le_refl _))) (hO1.out.le hC.size) _ ?_
  intro w2 cs2 hE2 h2
  obtain ⟨m, rfl⟩ := h2.shape
  replace hE2 := hC.trans hE2
  have h2' := Lib.hid h2
  clear h2
  refine hK _ _ (fun _ => hE2) ?_
  clear hK
  simp only [Cells6.list]
  refine scr_one rfl rfl (fun K hK => ?_)
  go_simp
  refine hcQ'.out _ [w.heap.size, w.heap.size + 1] y.list (hb'.out.mv ((((hE1.trans hE2).mv _).more (by omega : w.heap.size ≤ w.heap.size + 1)).more (Nat.le_refl _))) (hO1.out.le hE2.size) _ ?_
  intro w3 cs3 hE3 h3
  have hiv := h3.inv
  simp only [List.length_map] at hiv
  obtain ⟨qko, qkc, qo, qc, rfl, -, hks3, hl3⟩ := hiv
  have h2' := Lib.hid (h2'.out.mv (hE3.mv _))
  have h3v := Lib.hid (show IsV w3 [w.heap.size, w.heap.size + 1] [.int .i64 6, .int .i64 0, .float .f64 0, .string ⟨#[]⟩, .slice qko Q.length qkc, .slice qo Q.length qc] _ from h3)
  have hks' := Lib.hid hks3
  have hl' := Lib.hid hl3
  replace hE3 := hE2.trans hE3
  clear h3 hE2 hks3 hl3
  refine hK _ _ (fun h => by simp at h) ?_
  clear hK
  try simp only [Cells6.list]
  have hx3 := (hE3.below.block _ (hO1.out _ (by simp : w.heap.size ∈ _))).trans hb1'.out
  have hy3 := (hE3.below.block _ (hO1.out _ (by simp : w.heap.size + 1 ∈ _))).trans hb2'.out
  refine scr_one rfl rfl (fun K hK => ?_)
  refine wp_storeRow (cells := m.arr) 26 _ _ rfl Try.size26 (by go_simp) (by go_simp) hx3 rfl (by simp [Value.oneCell']) ?_
  intro w4 hx4 hg4
  have hy4 := (hg4.block _ (Array.getElem?_eq_some_iff.1 hy3).1 (by simp)).trans hy3
  refine hK _ _ (fun h => by simp at h) ?_
  clear hK
  refine scr_one rfl rfl (fun K hK => ?_)
  refine wp_storeRow (cells := #[.int .i64 6, .int .i64 0, .float .f64 0, .string ⟨#[]⟩, .slice qko Q.length qkc, .slice qo Q.length qc]) 26 _ _ rfl Try.size26 (by go_simp) (by go_simp) hy4 rfl (by simp [Value.oneCell']) ?_
  intro w5 hy5 hg5
  have hx5 := (hg5.block _ (Array.getElem?_eq_some_iff.1 hx4).1 (by simp)).trans hx4
  refine hK _ _ (fun h => by simp at h) ?_
  clear hK
  have hm35 : Mv w3 [w.heap.size, w.heap.size + 1] w5 [w.heap.size, w.heap.size + 1] := ((Mv.refl _ _).grown hg4 (by simp)).grown hg5 (by simp)
  have hE5 : Ext w w5 := ((hE1.trans hE3).grown hg4 (by simp)).grown hg5 (by simp)
  have h2' := Lib.hid (h2'.out.mv hm35)
  have h3v := Lib.hid (h3v.out.mv hm35)
  have hks' := Lib.hid (hks'.out.mv hm35)
  have hl' := Lib.hid (hl'.out.mv hm35)
  have hO5 := Lib.hid ((hO1.out.le hE3.size).le hm35.size)
  have e0 : w5.cell? ⟨w.heap.size, 0, none⟩ = some (.int .i64 m.kind) := cells_of hx5 0; have e1 : w5.cell? ⟨w.heap.size, 1, none⟩ = some (.int .i64 m.n) := cells_of hx5 1; have e2 : w5.cell? ⟨w.heap.size, 2, none⟩ = some (.float .f64 m.f) := cells_of hx5 2; have e3 : w5.cell? ⟨w.heap.size, 3, none⟩ = some (.string m.s) := cells_of hx5 3; have e4 : w5.cell? ⟨w.heap.size, 4, none⟩ = some (.slice m.ko m.kn m.kc) := cells_of hx5 4; have e5 : w5.cell? ⟨w.heap.size, 5, none⟩ = some (.slice m.o m.m m.c) := cells_of hx5 5
  have hx5' := Lib.hid hx5
  have hy5' := Lib.hid hy5
  have hE5' := Lib.hid hE5
  clear hx3 hy3 hx4 hy4 hx5 hy5 hm35 hg4 hg5 hE5 hE3 hE1 hC hO1 f0 f1 f2 f3 f4 f5
  refine scr_end ?_
  simp only [Exit.inBlock, Exit.then]
  go_upto_region 3 with fail
  refine abs1 (G := fun wr => Code.wp _ _ _ _ wr) ?_
  intro w6 hE6 hb6 hs6
  have hsB : w.heap.size + 2 ≤ w5.heap.size := by have := hO5.out (w.heap.size + 1) (by simp); omega
  have hm6 : Mv w5 [w.heap.size, w.heap.size + 1] w6 (w5.heap.size :: [w.heap.size, w.heap.size + 1]) := (hE6.mv _).more (Nat.le_refl _)
  have h2' := Lib.hid (h2'.out.mv hm6)
  have h3v := Lib.hid (h3v.out.mv hm6)
  have hks' := Lib.hid (hks'.out.mv hm6)
  have hl' := Lib.hid (hl'.out.mv hm6)
  have hx6 := Lib.hid ((hE6.below.block _ (Array.getElem?_eq_some_iff.1 hx5'.out).1).trans hx5'.out)
  have hy6 := Lib.hid ((hE6.below.block _ (Array.getElem?_eq_some_iff.1 hy5'.out).1).trans hy5'.out)
  have hO6 := Lib.hid (show Old (w5.heap.size :: [w.heap.size, w.heap.size + 1]) w6 from .cons (by omega) (hO5.out.le hE6.size))
  have hE6' := Lib.hid (hE5'.out.trans hE6)
  have f0 : w6.cell? ⟨w.heap.size + 1, 0, none⟩ = some (.int .i64 6) := cells_of hy6.out 0; have f1 : w6.cell? ⟨w.heap.size + 1, 1, none⟩ = some (.int .i64 0) := cells_of hy6.out 1; have f2 : w6.cell? ⟨w.heap.size + 1, 2, none⟩ = some (.float .f64 0) := cells_of hy6.out 2; have f3 : w6.cell? ⟨w.heap.size + 1, 3, none⟩ = some (.string ⟨#[]⟩) := cells_of hy6.out 3; have f4 : w6.cell? ⟨w.heap.size + 1, 4, none⟩ = some (.slice qko Q.length qkc) := cells_of hy6.out 4; have f5 : w6.cell? ⟨w.heap.size + 1, 5, none⟩ = some (.slice qo Q.length qc) := cells_of hy6.out 5
  obtain ⟨B, hB⟩ : ∃ B, w5.heap.size = B := ⟨_, rfl⟩
  rw [hB] at hb6 h2' h3v hks' hl' hO6 hsB ⊢
  have hsB' := Lib.hid hsB
  clear hB hm6 hE6 hs6 hsB hO5 hx5' hy5' hE5' e0 e1 e2 e3 e4 e5
  go_wp2_with fail
  go_loopw [24] (fun i wr => ∃ (k : Nat) (z : Cells6), k ≤ Q.length ∧ i = .int .i64 k ∧ Hid (Mut w6 [B] wr) ∧ wr.heap[B]? = some (.cells z.arr 26 (0, 0)) ∧
      Hid (IsV wr (B :: [w.heap.size, w.heap.size + 1]) z.list (.mk 6 0 0 ⟨#[]⟩ ((insAll P (Q.take k)).map (·.1)) ((insAll P (Q.take k)).map (·.2)))))
    (fun i _ => Q.length - (intOf i).toNat)
  case atStart => exact ⟨0, m, Nat.zero_le _, rfl, Lib.hid ((Ext.refl _).mut _), hb6, by rw [List.take_zero]; exact h2'⟩
  case round =>
    obtain ⟨k, z, hk, rfl, hM, hz, hzv⟩ := hrel
    have hy7 := Lib.hid ((hM.out.block (w.heap.size + 1) (hO6.out _ (by simp)) (by have := hsB'.out; simp; omega)).trans hy6.out)
    have g0 : wr.cell? ⟨w.heap.size + 1, 0, none⟩ = some (.int .i64 6) := cells_of hy7.out 0; have g1 : wr.cell? ⟨w.heap.size + 1, 1, none⟩ = some (.int .i64 0) := cells_of hy7.out 1; have g2 : wr.cell? ⟨w.heap.size + 1, 2, none⟩ = some (.float .f64 0) := cells_of hy7.out 2; have g3 : wr.cell? ⟨w.heap.size + 1, 3, none⟩ = some (.string ⟨#[]⟩) := cells_of hy7.out 3; have g4 : wr.cell? ⟨w.heap.size + 1, 4, none⟩ = some (.slice qko Q.length qkc) := cells_of hy7.out 4; have g5 : wr.cell? ⟨w.heap.size + 1, 5, none⟩ = some (.slice qo Q.length qc) := cells_of hy7.out 5
    have z0 : wr.cell? ⟨B, 0, none⟩ = some (.int .i64 z.kind) := cells_of hz 0; have z1 : wr.cell? ⟨B, 1, none⟩ = some (.int .i64 z.n) := cells_of hz 1; have z2 : wr.cell? ⟨B, 2, none⟩ = some (.float .f64 z.f) := cells_of hz 2; have z3 : wr.cell? ⟨B, 3, none⟩ = some (.string z.s) := cells_of hz 3; have z4 : wr.cell? ⟨B, 4, none⟩ = some (.slice z.ko z.kn z.kc) := cells_of hz 4; have z5 : wr.cell? ⟨B, 5, none⟩ = some (.slice z.o z.m z.c) := cells_of hz 5
    have hz' := Lib.hid hz
    clear hb6 f0 f1 f2 f3 f4 f5 hz
    by_cases hlt : k < Q.length
    · obtain ⟨_, _, kb, koff, e, -, -, k4, k5⟩ := (hks'.out.mv (hM.out.mv (X := B :: [w.heap.size, w.heap.size + 1]) (by simp))).ex
      simp only [Value.slice.injEq, List.length_map] at e
      obtain ⟨rfl, -, rfl⟩ := e
      obtain ⟨rfl, -⟩ := k4 (by simpa using by omega)
      obtain ⟨d0, hksz⟩ := k5 k (by simpa using hlt)
      have hkd : (Q.map (·.1)).getD k ByteArray.empty = (Q[k]).1 := by simp [List.getD, hlt]
      rw [hkd] at d0 hksz
      obtain ⟨_, _, vb2, voff, e, -, -, v4, v5⟩ := (hl'.out.mv (hM.out.mv (X := B :: [w.heap.size, w.heap.size + 1]) (by simp))).ex
      simp only [Value.slice.injEq, List.length_map] at e
      obtain ⟨rfl, -, rfl⟩ := e
      obtain ⟨rfl, -⟩ := v4 (by simpa using by omega)
      obtain ⟨u, q0, q1, q2, q3, q4, q5, hu⟩ := v5 k (by simpa using hlt)
      rw [List.getElem_map] at hu
      have hu' := Lib.hid hu
      have hks2 := Lib.hid hksz
      clear hu k4 k5 v4 v5 hkd hksz
      go_wp2_with fail
      have hqb : Q.length ≤ 140737488351232 := Nat.le_trans (Nat.le_trans (by omega : Q.length ≤ P.length + Q.length + 1) (Nat.le_mul_of_pos_right _ (by decide))) hPQ'.out
      have hCd : Ext wr wr.drew := (Ext.refl _).drew
      have hlk : (insAll P (Q.take k)).length + 1 ≤ P.length + Q.length + 1 := by
        have := insAll_length (Q.take k) P
        rw [List.length_take] at this
        omega
      have hlk' := Lib.hid (Nat.le_trans (Nat.mul_le_mul_right 88 hlk) hPQ'.out)
      have hlt' := Lib.hid hlt
      have hts := Lib.hid (show insK (Q[k]).1 (Q[k]).2 (insAll P (Q.take k)) = insAll P (Q.take (k + 1)) by rw [List.take_succ_eq_append_getElem hlt, insAll_snoc]; rfl)
      clear hlk
      refine wp_region_script [0, 1, 2, 3, 4, 5, 6] [] (fun w' => Ext wr w') [(.read, 0), (.pure, 1), (.pure, 2), (.read, 3), (.pure, 4), (.pure, 5), (.read, 6), (.one, 7), (.one, 8)] (by kernel_rfl) (by kernel_rfl) ?_
      (apply scr_read'; (· rfl); (· rfl); (· first | exact hC | exact (Ext.refl _).drew); (· (intro w' hw'; have z0_ := hw'.keep z0; have z1_ := hw'.keep z1; have z2_ := hw'.keep z2; have z3_ := hw'.keep z3; have z4_ := hw'.keep z4; have z5_ := hw'.keep z5; go_simp; try rfl)); (· (simp [go_sem]; try rfl)))
      (apply scr_pure'; (· rfl); (· rfl); (· (intro w'; go_simp; try rfl)); (· (simp [go_sem]; try rfl)))
      (apply scr_pure'; (· rfl); (· rfl); (· (intro w'; go_simp; try rfl)); (· (simp [go_sem]; try rfl)))
      (apply scr_read'; (· rfl); (· rfl); (· first | exact hC | exact (Ext.refl _).drew); (· (intro w' hw'; have g4_ := hw'.keep g4; have g5_ := hw'.keep g5; go_simp; try rfl)); (· (simp [go_sem]; try rfl)))
      (apply scr_pure'; (· rfl); (· rfl); (· (intro w'; go_simp; try rfl)); (· (simp [go_sem]; try rfl)))
      (apply scr_pure'; (· rfl); (· rfl); (· (intro w'; go_simp; try rfl)); (· (simp [go_sem]; try rfl)))
      (apply scr_read'; (· rfl); (· rfl); (· first | exact hC | exact (Ext.refl _).drew); (· (intro w' hw'; have q0_ := hw'.keep q0; have q1_ := hw'.keep q1; have q2_ := hw'.keep q2; have q3_ := hw'.keep q3; have q4_ := hw'.keep q4; have q5_ := hw'.keep q5; go_simp; try rfl)); (· (simp [go_sem]; try rfl)))
      refine scr_one rfl rfl (fun K hK => ?_)
      go_simp
      refine withField_c (cs := z.list) (csv := u.list) (es := insAll P (Q.take k)) (hzv.out.mv (hCd.mv _)) (Q[k]).1 hks2.out (u := (Q[k]).2) (hu'.out.mv (hCd.mv _)) (insAll_rising _ hPr'.out) hlk'.out ((hO6.out.le hM.out.size).le hCd.size) _ ?_
      intro w8 cs8 hE8 h8
      obtain ⟨z2, rfl⟩ := h8.shape
      rw [hts.out] at h8
      have h8' := Lib.hid h8
      have hb8 := ((hCd.trans hE8).below.block B (Array.getElem?_eq_some_iff.1 hz'.out).1).trans hz'.out
      clear h8
      refine hK _ _ (fun h => by simp at h) ?_
      clear hK
      simp only [Cells6.list]
      refine scr_one rfl rfl (fun K hK => ?_)
      refine wp_storeRow (cells := z2.arr) 26 _ _ rfl Try.size26 (by go_simp) (by go_simp) hb8 rfl (by simp [Value.oneCell']) ?_
      intro w9 hb9 hg9
      refine hK _ _ (fun h => by simp at h) ?_
      clear hK
      refine scr_end ?_
      simp only [Exit.inBlock, Exit.then]
      go_wp2_with fail
      go_roundw
      case rel => exact ⟨k + 1, z2, hlt'.out, by go_num, Lib.hid ((hM.out.trans ((hCd.trans hE8).mut _)).trans (grown_mut hg9 (by simp))), hb9, Lib.hid (h8'.out.mv ((Mv.refl _ _).grown hg9 (by simp)))⟩
      case measure => simp [intOf]; omega
    · have ek : Q.take k = Q := List.take_of_length_le (by omega)
      rw [ek] at hzv
      have hEl : (insAll P Q).length ≤ P.length + Q.length := insAll_length Q P
      obtain ⟨E, hEE⟩ : ∃ E, insAll P Q = E := ⟨_, rfl⟩
      rw [hEE] at hzv hEl hR'
      have hiv := hzv.out.inv
      simp only [List.length_map] at hiv
      obtain ⟨ko, kc, vo, vc, ez, -, hkE, -⟩ := hiv
      simp only [Cells6.list, List.cons.injEq, Value.slice.injEq, and_true] at ez
      obtain ⟨-, -, -, -, ⟨ez1, ez2, ez3⟩, -⟩ := ez
      have zz : wr.cell? ⟨B, 4, none⟩ = some (.slice ko E.length kc) := by rw [z4, ez1, ez2, ez3]
      have hEb : (E.length + 1) * 88 ≤ 140737488351232 := Nat.le_trans (Nat.mul_le_mul_right 88 (by omega)) hPQ'.out
      have hEn : E.length ≤ 140737488351232 := Nat.le_trans (Nat.le_trans (Nat.le_succ _) (Nat.le_mul_of_pos_right _ (by decide))) hEb
      have hEb' := Lib.hid hEb
      have hkE' := Lib.hid hkE
      have hx7 := Lib.hid ((hM.out.block w.heap.size (hO6.out _ (by simp)) (by have := hsB'.out; simp; omega)).trans hx6.out)
      have e0 : wr.cell? ⟨w.heap.size, 0, none⟩ = some (.int .i64 m.kind) := cells_of hx7.out 0; have e1 : wr.cell? ⟨w.heap.size, 1, none⟩ = some (.int .i64 m.n) := cells_of hx7.out 1; have e2 : wr.cell? ⟨w.heap.size, 2, none⟩ = some (.float .f64 m.f) := cells_of hx7.out 2; have e3 : wr.cell? ⟨w.heap.size, 3, none⟩ = some (.string m.s) := cells_of hx7.out 3; have e4 : wr.cell? ⟨w.heap.size, 4, none⟩ = some (.slice m.ko m.kn m.kc) := cells_of hx7.out 4; have e5 : wr.cell? ⟨w.heap.size, 5, none⟩ = some (.slice m.o m.m m.c) := cells_of hx7.out 5
      have h2w := Lib.hid (h2'.out.mv (hM.out.mv (X := (B :: [w.heap.size, w.heap.size + 1])) (by simp)))
      have h3w := Lib.hid (h3v.out.mv (hM.out.mv (X := (B :: [w.heap.size, w.heap.size + 1])) (by simp)))
      have hEw := Lib.hid (hE6'.out.mutated hM.out (fun b hb => by rw [List.mem_singleton] at hb; have := hsB'.out; omega))
      clear z0 z1 z2 z3 z4 z5 ez1 ez2 ez3 hkE hEl hEb ek hEE hM hzv hz' hy7 hx7
      go_wp2_with fail
      go_loopw [8, 41] (fun v i wr2 => ∃ j : Nat, j ≤ E.length ∧ i = .int .i64 j ∧ Ext wr wr2 ∧ (∀ g, v.ownBlock = some g → wr.heap.size ≤ g) ∧ Row kW 31 wr2 [] v (List.replicate j ())) (fun _ i _ => E.length - (intOf i).toNat)
      case atStart => exact ⟨0, Nat.zero_le _, rfl, Ext.refl _, fun g h => by simp [Value.ownBlock] at h, Row.nil _ _ _ _⟩
      case round =>
        obtain ⟨j, hj, rfl, hE, hgv, hrow⟩ := hrel
        replace e0 := hE.keep e0; replace e1 := hE.keep e1; replace e2 := hE.keep e2; replace e3 := hE.keep e3; replace e4 := hE.keep e4; replace e5 := hE.keep e5; replace g0 := hE.keep g0; replace g1 := hE.keep g1; replace g2 := hE.keep g2; replace g3 := hE.keep g3; replace g4 := hE.keep g4; replace g5 := hE.keep g5
        by_cases hjt : j < E.length
        · obtain ⟨_, _, kb, koff, e, -, -, k4, k5⟩ := (hkE'.out.mv (hE.mv _)).ex
          simp only [Value.slice.injEq, List.length_map] at e
          obtain ⟨rfl, -, rfl⟩ := e
          obtain ⟨rfl, -⟩ := k4 (by simpa using by omega)
          obtain ⟨d0, -⟩ := k5 j (by simpa using hjt)
          have hkd : (E.map (·.1)).getD j ByteArray.empty = (E[j]).1 := by simp [List.getD, hjt]
          rw [hkd] at d0
          have h2r := Lib.hid (h2w.out.mv (hE.mv _))
          have h3r := Lib.hid (h3w.out.mv (hE.mv _))
          have hE' := Lib.hid hE
          have hgv' := Lib.hid hgv
          have hrow' := Lib.hid hrow
          have hjt' := Lib.hid hjt
          have hvo := hrow.one
          clear k4 k5 hkd hE hgv hrow h2w h3w
          generalize hky : (E[j]).1 = ky at d0
          clear hky
          have gg0 := g0
          have gg1 := g1
          have gg2 := g2
          have gg3 := g3
          have gg4 := g4
          have gg5 := g5
          go_upto_region 13 with fail
          refine abs1 (G := fun wr => Code.wp _ _ _ _ wr) ?_
          intro w7 hE7 hz7 hs7
          replace e0 := hE7.keep e0; replace e1 := hE7.keep e1; replace e2 := hE7.keep e2; replace e3 := hE7.keep e3; replace e4 := hE7.keep e4; replace e5 := hE7.keep e5; replace g0 := hE7.keep g0; replace g1 := hE7.keep g1; replace g2 := hE7.keep g2; replace g3 := hE7.keep g3; replace g4 := hE7.keep g4; replace g5 := hE7.keep g5
          clear hs7
          go_wp2_with fail
          refine field_any (cs := m.list) (es := P) (h2r.out.mv (hE7.mv _)) ky hPr'.out _ ?_
          intro wA za bA hEA
          replace e0 := hEA.keep e0; replace e1 := hEA.keep e1; replace e2 := hEA.keep e2; replace e3 := hEA.keep e3; replace e4 := hEA.keep e4; replace e5 := hEA.keep e5; replace g0 := hEA.keep g0; replace g1 := hEA.keep g1; replace g2 := hEA.keep g2; replace g3 := hEA.keep g3; replace g4 := hEA.keep g4; replace g5 := hEA.keep g5
          have hzA := (hEA.below.block _ (Array.getElem?_eq_some_iff.1 hz7).1).trans hz7
          replace hEA := hE7.trans hEA
          have onem : za.list.toArray.all (·.oneCell') = true := by simp [Cells6.list, Value.oneCell']
          simp only [Cells6.list] at onem
          clear hE7 hz7
          dsimp only
          simp only [Cells6.list]
          go_upto_region 14 with fail
          refine abs1 (G := fun wr => Code.wp _ _ _ _ wr) ?_
          intro wB hEB hbB hsB
          have p0 : wB.cell? ⟨wA.heap.size, 0, none⟩ = some (.int .i64 za.kind) := cells_of hbB 0; have p1 : wB.cell? ⟨wA.heap.size, 1, none⟩ = some (.int .i64 za.n) := cells_of hbB 1; have p2 : wB.cell? ⟨wA.heap.size, 2, none⟩ = some (.float .f64 za.f) := cells_of hbB 2; have p3 : wB.cell? ⟨wA.heap.size, 3, none⟩ = some (.string za.s) := cells_of hbB 3; have p4 : wB.cell? ⟨wA.heap.size, 4, none⟩ = some (.slice za.ko za.kn za.kc) := cells_of hbB 4; have p5 : wB.cell? ⟨wA.heap.size, 5, none⟩ = some (.slice za.o za.m za.c) := cells_of hbB 5
          replace e0 := hEB.keep e0; replace e1 := hEB.keep e1; replace e2 := hEB.keep e2; replace e3 := hEB.keep e3; replace e4 := hEB.keep e4; replace e5 := hEB.keep e5; replace g0 := hEB.keep g0; replace g1 := hEB.keep g1; replace g2 := hEB.keep g2; replace g3 := hEB.keep g3; replace g4 := hEB.keep g4; replace g5 := hEB.keep g5
          have hzB := (hEB.below.block _ (Array.getElem?_eq_some_iff.1 hzA).1).trans hzA
          replace hEB := hEA.trans hEB
          clear hbB hsB onem hEA hzA
          cases bA
          · go_wp2_with fail
            refine field_any (cs := [.int .i64 6, .int .i64 0, .float .f64 0, .string ⟨#[]⟩, .slice qko Q.length qkc, .slice qo Q.length qc]) (es := Q) (h3r.out.mv (hEB.mv _)) ky hQr'.out _ ?_
            intro wD zd bD hED
            have hzD := (hED.below.block _ (Array.getElem?_eq_some_iff.1 hzB).1).trans hzB
            replace hED := hEB.trans hED
            have onem : zd.list.toArray.all (·.oneCell') = true := by simp [Cells6.list, Value.oneCell']
            simp only [Cells6.list] at onem
            clear hzB
            dsimp only
            simp only [Cells6.list]
            go_upto_region 17 with fail
            refine abs1 (G := fun wr => Code.wp _ _ _ _ wr) ?_
            intro wF hEF hbF hsF
            have p0 : wF.cell? ⟨wD.heap.size, 0, none⟩ = some (.int .i64 zd.kind) := cells_of hbF 0; have p1 : wF.cell? ⟨wD.heap.size, 1, none⟩ = some (.int .i64 zd.n) := cells_of hbF 1; have p2 : wF.cell? ⟨wD.heap.size, 2, none⟩ = some (.float .f64 zd.f) := cells_of hbF 2; have p3 : wF.cell? ⟨wD.heap.size, 3, none⟩ = some (.string zd.s) := cells_of hbF 3; have p4 : wF.cell? ⟨wD.heap.size, 4, none⟩ = some (.slice zd.ko zd.kn zd.kc) := cells_of hbF 4; have p5 : wF.cell? ⟨wD.heap.size, 5, none⟩ = some (.slice zd.o zd.m zd.c) := cells_of hbF 5
            have hzF := (hEF.below.block _ (Array.getElem?_eq_some_iff.1 hzD).1).trans hzD
            replace hEF := hED.trans hEF
            clear hbF hsF onem hED hzD
            cases bD
            · go_upto_region 19 with fail
              have z0 : wF.cell? ⟨wr.heap.size, 0, none⟩ = some (.string ky) := cells_of hzF 0
              have z1 : wF.cell? ⟨wr.heap.size, 1, none⟩ = some (.slice none 0 0) := cells_of hzF 1
              have z2 : wF.cell? ⟨wr.heap.size, 2, none⟩ = some (.slice none 0 0) := cells_of hzF 2
              have hu := Lib.hid (fun X : List Nat => (show kW.is wF X [.string ky, .slice none 0 0, .slice none 0 0] () from ⟨rfl, by simp [Value.oneCell']⟩))
              have hEz := Lib.hid hEF
              have hjb := hjt'.out
              have hlr : (List.replicate j ()).length = j := List.length_replicate
              have hb64 : ((List.replicate j ()).length + 1) * 64 ≤ 140737488355328 := by rw [hlr]; exact Nat.le_trans (Nat.mul_le_mul (by omega : j + 1 ≤ E.length + 1) (by decide : 64 ≤ 88)) (Nat.le_trans hEb'.out (by decide))
              have hb4 : (List.replicate j ()).length + 1 ≤ maxLen := by rw [hlr, maxLen_eq]; omega
              clear hlr
              go_wp2_with (first
                | (at_builtin; refine wpL_rowApp (c := #[.string ky, .slice none 0 0, .slice none 0 0]) rfl hrow'.out hEz.out (Old.nil _) (hu.out _) _ _ _ rfl Try.underlying28 Try.info31 rfl (by decide) rfl rfl hb64 hb4 ?_; intro v' w8 hrow8 hg8 hne8 hd8))
              go_roundw
              case rel =>
                refine ⟨j + 1, hjt'.out, by go_num, (hE'.out.trans hEz.out).grown hg8 hgv'.out, fun g hg => ?_, by rw [List.replicate_succ']; exact hrow8⟩
                rcases hd8 g hg with h | h
                · exact hgv'.out g h
                · exact Nat.le_trans hE'.out.size (Nat.le_trans hEz.out.size h)
              case measure => simp [intOf]; omega
            · have hqH := Lib.hid ((alloc_old wF (.cells #[.int .i64 zd.kind, .int .i64 zd.n, .float .f64 zd.f, .string zd.s, .slice zd.ko zd.kn zd.kc, .slice zd.o zd.m zd.c] 26 (0, 0)) (Array.getElem?_eq_some_iff.1 hzF).1).trans hzF)
              go_upto_region 19 with (first | (refine wpL_storeC rfl 24 _ _ rfl Try.info24 (v := .slice (some ⟨wF.heap.size, 0, none⟩) 1 1) (new := #[.string ky, .slice none 0 0, .slice (some ⟨wF.heap.size, 0, none⟩) 1 1]) rfl rfl rfl hqH.out (by simp) rfl ?_; intro wH hzH hgH))
              have hEH := (hEF.push (.cells #[.int .i64 zd.kind, .int .i64 zd.n, .float .f64 zd.f, .string zd.s, .slice zd.ko zd.kn zd.kc, .slice zd.o zd.m zd.c] 26 (0, 0))).grown hgH (fun j hj => by cases hj; exact Nat.le_refl _)
              have hMH := ((Ext.refl wF).push (.cells #[.int .i64 zd.kind, .int .i64 zd.n, .float .f64 zd.f, .string zd.s, .slice zd.ko zd.kn zd.kc, .slice zd.o zd.m zd.c] 26 (0, 0)))
              have z0 : wH.cell? ⟨wr.heap.size, 0, none⟩ = some (.string ky) := cells_of hzH 0
              have z1 : wH.cell? ⟨wr.heap.size, 1, none⟩ = some (.slice none 0 0) := cells_of hzH 1
              have z2 : wH.cell? ⟨wr.heap.size, 2, none⟩ = some (.slice (some ⟨wF.heap.size, 0, none⟩) 1 1) := cells_of hzH 2
              have hu := Lib.hid (fun X : List Nat => (show kW.is wH X [.string ky, .slice none 0 0, .slice (some ⟨wF.heap.size, 0, none⟩) 1 1] () from ⟨rfl, by simp [Value.oneCell']⟩))
              have hEz := Lib.hid hEH
              have hjb := hjt'.out
              have hlr : (List.replicate j ()).length = j := List.length_replicate
              have hb64 : ((List.replicate j ()).length + 1) * 64 ≤ 140737488355328 := by rw [hlr]; exact Nat.le_trans (Nat.mul_le_mul (by omega : j + 1 ≤ E.length + 1) (by decide : 64 ≤ 88)) (Nat.le_trans hEb'.out (by decide))
              have hb4 : (List.replicate j ()).length + 1 ≤ maxLen := by rw [hlr, maxLen_eq]; omega
              clear hlr
              go_wp2_with (first
                | (at_builtin; refine wpL_rowApp (c := #[.string ky, .slice none 0 0, .slice (some ⟨wF.heap.size, 0, none⟩) 1 1]) rfl hrow'.out hEz.out (Old.nil _) (hu.out _) _ _ _ rfl Try.underlying28 Try.info31 rfl (by decide) rfl rfl hb64 hb4 ?_; intro v' w8 hrow8 hg8 hne8 hd8))
              go_roundw
              case rel =>
                refine ⟨j + 1, hjt'.out, by go_num, (hE'.out.trans hEz.out).grown hg8 hgv'.out, fun g hg => ?_, by rw [List.replicate_succ']; exact hrow8⟩
                rcases hd8 g hg with h | h
                · exact hgv'.out g h
                · exact Nat.le_trans hE'.out.size (Nat.le_trans hEz.out.size h)
              case measure => simp [intOf]; omega
          · have hqC := Lib.hid ((alloc_old wB (.cells #[.int .i64 za.kind, .int .i64 za.n, .float .f64 za.f, .string za.s, .slice za.ko za.kn za.kc, .slice za.o za.m za.c] 26 (0, 0)) (Array.getElem?_eq_some_iff.1 hzB).1).trans hzB)
            go_wp2_with (first | (refine wpL_storeC rfl 24 _ _ rfl Try.info24 (v := .slice (some ⟨wB.heap.size, 0, none⟩) 1 1) (new := #[.string ky, .slice (some ⟨wB.heap.size, 0, none⟩) 1 1, .slice none 0 0]) rfl rfl rfl hqC.out (by simp) rfl ?_; intro wC hzC hgC; replace g0 := ((hEB.push _).grown hgC (fun j hj => by cases hj; exact Nat.le_refl _)).keep gg0; replace g1 := ((hEB.push _).grown hgC (fun j hj => by cases hj; exact Nat.le_refl _)).keep gg1; replace g2 := ((hEB.push _).grown hgC (fun j hj => by cases hj; exact Nat.le_refl _)).keep gg2; replace g3 := ((hEB.push _).grown hgC (fun j hj => by cases hj; exact Nat.le_refl _)).keep gg3; replace g4 := ((hEB.push _).grown hgC (fun j hj => by cases hj; exact Nat.le_refl _)).keep gg4; replace g5 := ((hEB.push _).grown hgC (fun j hj => by cases hj; exact Nat.le_refl _)).keep gg5))
            have hEC := (hEB.push (.cells #[.int .i64 za.kind, .int .i64 za.n, .float .f64 za.f, .string za.s, .slice za.ko za.kn za.kc, .slice za.o za.m za.c] 26 (0, 0))).grown hgC (fun j hj => by cases hj; exact Nat.le_refl _)
            have hMC := ((Ext.refl wB).push (.cells #[.int .i64 za.kind, .int .i64 za.n, .float .f64 za.f, .string za.s, .slice za.ko za.kn za.kc, .slice za.o za.m za.c] 26 (0, 0)))
            refine field_any (cs := [.int .i64 6, .int .i64 0, .float .f64 0, .string ⟨#[]⟩, .slice qko Q.length qkc, .slice qo Q.length qc]) (es := Q) (h3r.out.mv (hEC.mv _)) ky hQr'.out _ ?_
            intro wD zd bD hED
            have hzD := (hED.below.block _ (Array.getElem?_eq_some_iff.1 hzC).1).trans hzC
            replace hED := hEC.trans hED
            have onem : zd.list.toArray.all (·.oneCell') = true := by simp [Cells6.list, Value.oneCell']
            simp only [Cells6.list] at onem
            clear hzC
            dsimp only
            simp only [Cells6.list]
            go_upto_region 17 with fail
            refine abs1 (G := fun wr => Code.wp _ _ _ _ wr) ?_
            intro wF hEF hbF hsF
            have p0 : wF.cell? ⟨wD.heap.size, 0, none⟩ = some (.int .i64 zd.kind) := cells_of hbF 0; have p1 : wF.cell? ⟨wD.heap.size, 1, none⟩ = some (.int .i64 zd.n) := cells_of hbF 1; have p2 : wF.cell? ⟨wD.heap.size, 2, none⟩ = some (.float .f64 zd.f) := cells_of hbF 2; have p3 : wF.cell? ⟨wD.heap.size, 3, none⟩ = some (.string zd.s) := cells_of hbF 3; have p4 : wF.cell? ⟨wD.heap.size, 4, none⟩ = some (.slice zd.ko zd.kn zd.kc) := cells_of hbF 4; have p5 : wF.cell? ⟨wD.heap.size, 5, none⟩ = some (.slice zd.o zd.m zd.c) := cells_of hbF 5
            have hzF := (hEF.below.block _ (Array.getElem?_eq_some_iff.1 hzD).1).trans hzD
            replace hEF := hED.trans hEF
            clear hbF hsF onem hED hzD
            cases bD
            · go_upto_region 19 with fail
              have z0 : wF.cell? ⟨wr.heap.size, 0, none⟩ = some (.string ky) := cells_of hzF 0
              have z1 : wF.cell? ⟨wr.heap.size, 1, none⟩ = some (.slice (some ⟨wB.heap.size, 0, none⟩) 1 1) := cells_of hzF 1
              have z2 : wF.cell? ⟨wr.heap.size, 2, none⟩ = some (.slice none 0 0) := cells_of hzF 2
              have hu := Lib.hid (fun X : List Nat => (show kW.is wF X [.string ky, .slice (some ⟨wB.heap.size, 0, none⟩) 1 1, .slice none 0 0] () from ⟨rfl, by simp [Value.oneCell']⟩))
              have hEz := Lib.hid hEF
              have hjb := hjt'.out
              have hlr : (List.replicate j ()).length = j := List.length_replicate
              have hb64 : ((List.replicate j ()).length + 1) * 64 ≤ 140737488355328 := by rw [hlr]; exact Nat.le_trans (Nat.mul_le_mul (by omega : j + 1 ≤ E.length + 1) (by decide : 64 ≤ 88)) (Nat.le_trans hEb'.out (by decide))
              have hb4 : (List.replicate j ()).length + 1 ≤ maxLen := by rw [hlr, maxLen_eq]; omega
              clear hlr
              go_wp2_with (first
                | (at_builtin; refine wpL_rowApp (c := #[.string ky, .slice (some ⟨wB.heap.size, 0, none⟩) 1 1, .slice none 0 0]) rfl hrow'.out hEz.out (Old.nil _) (hu.out _) _ _ _ rfl Try.underlying28 Try.info31 rfl (by decide) rfl rfl hb64 hb4 ?_; intro v' w8 hrow8 hg8 hne8 hd8))
              go_roundw
              case rel =>
                refine ⟨j + 1, hjt'.out, by go_num, (hE'.out.trans hEz.out).grown hg8 hgv'.out, fun g hg => ?_, by rw [List.replicate_succ']; exact hrow8⟩
                rcases hd8 g hg with h | h
                · exact hgv'.out g h
                · exact Nat.le_trans hE'.out.size (Nat.le_trans hEz.out.size h)
              case measure => simp [intOf]; omega
            · have hqH := Lib.hid ((alloc_old wF (.cells #[.int .i64 zd.kind, .int .i64 zd.n, .float .f64 zd.f, .string zd.s, .slice zd.ko zd.kn zd.kc, .slice zd.o zd.m zd.c] 26 (0, 0)) (Array.getElem?_eq_some_iff.1 hzF).1).trans hzF)
              go_upto_region 19 with (first | (refine wpL_storeC rfl 24 _ _ rfl Try.info24 (v := .slice (some ⟨wF.heap.size, 0, none⟩) 1 1) (new := #[.string ky, .slice (some ⟨wB.heap.size, 0, none⟩) 1 1, .slice (some ⟨wF.heap.size, 0, none⟩) 1 1]) rfl rfl rfl hqH.out (by simp) rfl ?_; intro wH hzH hgH))
              have hEH := (hEF.push (.cells #[.int .i64 zd.kind, .int .i64 zd.n, .float .f64 zd.f, .string zd.s, .slice zd.ko zd.kn zd.kc, .slice zd.o zd.m zd.c] 26 (0, 0))).grown hgH (fun j hj => by cases hj; exact Nat.le_refl _)
              have hMH := ((Ext.refl wF).push (.cells #[.int .i64 zd.kind, .int .i64 zd.n, .float .f64 zd.f, .string zd.s, .slice zd.ko zd.kn zd.kc, .slice zd.o zd.m zd.c] 26 (0, 0)))
              have z0 : wH.cell? ⟨wr.heap.size, 0, none⟩ = some (.string ky) := cells_of hzH 0
              have z1 : wH.cell? ⟨wr.heap.size, 1, none⟩ = some (.slice (some ⟨wB.heap.size, 0, none⟩) 1 1) := cells_of hzH 1
              have z2 : wH.cell? ⟨wr.heap.size, 2, none⟩ = some (.slice (some ⟨wF.heap.size, 0, none⟩) 1 1) := cells_of hzH 2
              have hu := Lib.hid (fun X : List Nat => (show kW.is wH X [.string ky, .slice (some ⟨wB.heap.size, 0, none⟩) 1 1, .slice (some ⟨wF.heap.size, 0, none⟩) 1 1] () from ⟨rfl, by simp [Value.oneCell']⟩))
              have hEz := Lib.hid hEH
              have hjb := hjt'.out
              have hlr : (List.replicate j ()).length = j := List.length_replicate
              have hb64 : ((List.replicate j ()).length + 1) * 64 ≤ 140737488355328 := by rw [hlr]; exact Nat.le_trans (Nat.mul_le_mul (by omega : j + 1 ≤ E.length + 1) (by decide : 64 ≤ 88)) (Nat.le_trans hEb'.out (by decide))
              have hb4 : (List.replicate j ()).length + 1 ≤ maxLen := by rw [hlr, maxLen_eq]; omega
              clear hlr
              go_wp2_with (first
                | (at_builtin; refine wpL_rowApp (c := #[.string ky, .slice (some ⟨wB.heap.size, 0, none⟩) 1 1, .slice (some ⟨wF.heap.size, 0, none⟩) 1 1]) rfl hrow'.out hEz.out (Old.nil _) (hu.out _) _ _ _ rfl Try.underlying28 Try.info31 rfl (by decide) rfl rfl hb64 hb4 ?_; intro v' w8 hrow8 hg8 hne8 hd8))
              go_roundw
              case rel =>
                refine ⟨j + 1, hjt'.out, by go_num, (hE'.out.trans hEz.out).grown hg8 hgv'.out, fun g hg => ?_, by rw [List.replicate_succ']; exact hrow8⟩
                rcases hd8 g hg with h | h
                · exact hgv'.out g h
                · exact Nat.le_trans hE'.out.size (Nat.le_trans hEz.out.size h)
              case measure => simp [intOf]; omega
        · have ej : j = E.length := by omega
          subst ej
          have hsl := hrow.isSl (bytes := 64) (by rw [List.length_replicate]; exact Nat.le_trans (Nat.mul_le_mul (Nat.le_succ _) (by decide)) hEb'.out)
          obtain ⟨o, c, _, _, rfl, -⟩ := hsl.ex
          rw [List.length_replicate]
          have hfin := Lib.hid (hR'.out wr o c (hEw.out.trans hE))
          clear hsl hrow
          go_wp2_with fail
          exact hfin.out
end Go.Proofs.Ytnndacgokehkpaa
