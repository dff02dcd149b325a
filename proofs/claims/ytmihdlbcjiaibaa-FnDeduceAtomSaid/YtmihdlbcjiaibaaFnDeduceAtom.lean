/- For all types and values, the law FnDeduceAtom returns true: DeduceAtom narrows a type of several kinds to the value's kind, if it has that, and else leaves it; no condition beside the law's own (definedAtom, sizes). -/
import Derived.Test.YtmihdlbcjiaibaaLaw
import Derived.Test.YtmihdlbcjiaibaaDeduceC
import Derived.Test.YtmihdlbcjiaibaaFits
import Derived.Test.YtmihdlbcjiaibaaRead
namespace Go.Proofs.Ytmihdlbcjiaibaa
open Go.ChangeShapes Go.WideShapes Go.ChangeAt Go.RowKit

set_option maxRecDepth 100000 in
set_option maxHeartbeats 8000000 in
set_option pp.maxSteps 1000000 in
set_option pp.deepTerms true in
theorem deduce_c {d : Nat} {w : World} {X : List Nat} {cs ds : List Value} {a : A} {v : V} (ha : (kA (d + 1)).is w X cs a) (hv : IsV w X ds v) (hX : Old X w) (R : Ending → World → Prop)
    (hR : ∀ w' cs', Ext w w' → (kA (d + 1)).is w' X cs' (frA (d + 1) (ddS v.plain (toA (d + 1) a))) → R (.returned (.agg cs'.toArray)) w') : Calls Try.prog 30 #[.agg cs.toArray, .agg ds.toArray] w R := by
  obtain ⟨x, rfl⟩ := hv.shape
  obtain ⟨a0, a1, a2, rfl, o0, o1, o2⟩ := kA_three ha
  have ha' := Lib.hid ha
  have hv' := Lib.hid hv
  have hX' := Lib.hid hX
  have hR' := Lib.hid hR
  clear hR hv hX ha
  simp only [Cells6.list]
  go_enter Try.func30, Try.ntmps30
  go_wp2_with fail
  refine abs3 (G := Code.wp _ _ _ _) ?_
  intro w1 hE1 hb1 hb2 hz hs1
  have c0 : w1.cell? ⟨w.heap.size, 0, none⟩ = some a0 := cells_of hb1 0
  have c1 : w1.cell? ⟨w.heap.size, 1, none⟩ = some a1 := cells_of hb1 1
  have c2 : w1.cell? ⟨w.heap.size, 2, none⟩ = some a2 := cells_of hb1 2
  have b0 : w1.cell? ⟨w.heap.size + 1, 0, none⟩ = some (.int .i64 x.kind) := cells_of hb2 0
  have b1 : w1.cell? ⟨w.heap.size + 1, 1, none⟩ = some (.int .i64 x.n) := cells_of hb2 1
  have b2 : w1.cell? ⟨w.heap.size + 1, 2, none⟩ = some (.float .f64 x.f) := cells_of hb2 2
  have b3 : w1.cell? ⟨w.heap.size + 1, 3, none⟩ = some (.string x.s) := cells_of hb2 3
  have b4 : w1.cell? ⟨w.heap.size + 1, 4, none⟩ = some (.slice x.ko x.kn x.kc) := cells_of hb2 4
  have b5 : w1.cell? ⟨w.heap.size + 1, 5, none⟩ = some (.slice x.o x.m x.c) := cells_of hb2 5
  have hM := (hE1.mv X).more (n := w.heap.size + 2) (by omega)
  have hO : Old ((w.heap.size + 2) :: X) w1 := .cons (by omega) (hX'.out.le hE1.size)
  have hlt : w.heap.size + 2 < w1.heap.size := by omega
  have hO' := Lib.hid hO
  have hM' := Lib.hid hM
  have hz' := Lib.hid hz
  clear hb1 hb2 hs1 hO hM hz
  refine wp_region_script [0, 2] [1] (fun w' => Ext w1 w') [(.read, 0), (.read, 2), (.one, 1), (.one, 3), (.one, 4), (.one, 5), (.one, 6)] (by kernel_rfl) (by kernel_rfl) ?_
  (apply scr_read'; (· rfl); (· rfl); (· first | exact hC | exact (Ext.refl _).drew); (· (intro w' hw'; have c0_ := hw'.keep c0; have c1_ := hw'.keep c1; have c2_ := hw'.keep c2; go_simp; try rfl)); (· (simp [go_sem]; try rfl)))
  (apply scr_read'; (· rfl); (· rfl); (· first | exact hC | exact (Ext.refl _).drew); (· (intro w' hw'; have b0_ := hw'.keep b0; have b1_ := hw'.keep b1; have b2_ := hw'.keep b2; have b3_ := hw'.keep b3; have b4_ := hw'.keep b4; have b5_ := hw'.keep b5; go_simp; try rfl)); (· (simp [go_sem]; try rfl)))
  have hw1 := (Ext.refl w1).drew
  refine scr_one rfl rfl (fun K hK => ?_)
  go_simp
  refine toAtom_c (d + 1) _ ((w.heap.size + 2) :: X) [a0, a1, a2] a ((kA (d + 1)).mv ha'.out (hM'.out.trans (hw1.mv _))) (hO'.out.le hw1.size) _ ?_
  intro w2 cs2 hE2 hcs2
  have hw2 := hw1.trans hE2
  obtain ⟨p0, p1, p2, rfl, q0, q1, q2⟩ := ksA_three hcs2
  have hcs2' := Lib.hid hcs2
  clear hcs2
  refine hK _ _ (fun _ => hw2) ?_
  clear hK
  refine scr_one rfl rfl (fun K hK => ?_)
  go_simp
  refine toValue_c (X := (w.heap.size + 2) :: X) (cs := x.list) (hv'.out.mv (hM'.out.trans (hw2.mv _))) (hO'.out.le hw2.size) _ ?_
  intro w3 y hE3 hy
  have hw3 := hw2.trans hE3
  have hy' := Lib.hid hy
  clear hy
  refine hK _ _ (fun h => by simp at h) ?_
  clear hK
  refine scr_one rfl rfl (fun K hK => ?_)
  go_simp
  refine doorDeduce_c (d := d) (X := (w.heap.size + 2) :: X) (cs := [p0, p1, p2]) ((ksA (d + 1)).mv hcs2'.out (hE3.mv _)) hy'.out (hO'.out.le hw3.size) _ ?_
  intro w4 cs4 hE4 hcs4
  have hw4 := hw3.trans hE4
  have hcs4' := Lib.hid hcs4
  clear hcs4
  refine hK _ _ (fun h => by simp at h) ?_
  clear hK
  refine scr_one rfl rfl (fun K hK => ?_)
  go_simp
  refine fromAtom_c (d + 1) _ ((w.heap.size + 2) :: X) cs4 _ hcs4'.out (hO'.out.le hw4.size) _ ?_
  intro w5 cs5 hE5 hcs5
  have hw5 := hw4.trans hE5
  obtain ⟨r0, r1, r2, rfl, u0, u1, u2⟩ := kA_three hcs5
  have hcs5' := Lib.hid hcs5
  clear hcs5
  refine hK _ _ (fun h => by simp at h) ?_
  clear hK
  have hz5 := (hw5.below.block _ hlt).trans hz'.out
  refine scr_one rfl rfl (fun K hK => ?_)
  refine wp_storeRow (cells := #[r0, r1, r2]) 42 _ _ rfl Try.size42 (by go_simp) (by go_simp) hz5 rfl (by simp [u0, u1, u2]) ?_
  intro w6 h6 g6
  refine hK _ _ (fun h => by simp at h) ?_
  clear hK
  refine scr_end ?_
  simp only [Exit.then]
  have z0 : w6.cell? ⟨w.heap.size + 2, 0, none⟩ = some r0 := cells_of h6 0
  have z1 : w6.cell? ⟨w.heap.size + 2, 1, none⟩ = some r1 := cells_of h6 1
  have z2 : w6.cell? ⟨w.heap.size + 2, 2, none⟩ = some r2 := cells_of h6 2
  go_wp2_with fail
  refine bodyPost_ret (by simp [results, Try.results30, go_sem, z0, z1, z2]; try rfl) rfl ?_
  have hm : Mv w5 ((w.heap.size + 2) :: X) w6 X := ((Mv.refl _ _).grown g6 (by intro k hk; cases hk; simp)).less fun b hb => by simp [hb]
  exact hR'.out w6 [r0, r1, r2] ((hE1.trans hw5).grown g6 (fun k hk => by cases hk; omega)) ((kA (d + 1)).mv hcs5'.out hm)

set_option maxRecDepth 100000 in
set_option maxHeartbeats 8000000 in
set_option pp.maxSteps 1000000 in
set_option pp.deepTerms true in
theorem fnDeduceAtom_law {d : Nat} {w : World} {cs ds : List Value} {a : A} {v : V} (ha : (kA (d + 1)).is w [] cs a) (hv : IsV w [] ds v) :
    Calls Try.prog 8 #[.agg cs.toArray, .agg ds.toArray] w fun e w' => e = .returned (.bool true) ∧ Below w.heap.size w w' := by
  suffices h : ∀ R : Ending → World → Prop, Ends R w (.bool true) → Calls Try.prog 8 #[.agg cs.toArray, .agg ds.toArray] w R from h _ (fun w' hE => ⟨rfl, hE⟩)
  intro R hR
  obtain ⟨x, rfl⟩ := hv.shape
  obtain ⟨a0, a1, a2, rfl, o0, o1, o2⟩ := kA_three ha
  have ha' := Lib.hid ha
  have hv' := Lib.hid hv
  have hR' := Lib.hid hR
  clear hR hv ha
  simp only [Cells6.list]
  go_enter Try.func8, Try.ntmps8
  go_wp2_with fail
  refine abs2 (G := fun wr => Calls _ _ _ wr _) ?_
  intro w1 hE1 hb1 hb2 hs1
  have c0 : w1.cell? ⟨w.heap.size, 0, none⟩ = some a0 := cells_of hb1 0
  have c1 : w1.cell? ⟨w.heap.size, 1, none⟩ = some a1 := cells_of hb1 1
  have c2 : w1.cell? ⟨w.heap.size, 2, none⟩ = some a2 := cells_of hb1 2
  have b0 : w1.cell? ⟨w.heap.size + 1, 0, none⟩ = some (.int .i64 x.kind) := cells_of hb2 0
  have b1 : w1.cell? ⟨w.heap.size + 1, 1, none⟩ = some (.int .i64 x.n) := cells_of hb2 1
  have b2 : w1.cell? ⟨w.heap.size + 1, 2, none⟩ = some (.float .f64 x.f) := cells_of hb2 2
  have b3 : w1.cell? ⟨w.heap.size + 1, 3, none⟩ = some (.string x.s) := cells_of hb2 3
  have b4 : w1.cell? ⟨w.heap.size + 1, 4, none⟩ = some (.slice x.ko x.kn x.kc) := cells_of hb2 4
  have b5 : w1.cell? ⟨w.heap.size + 1, 5, none⟩ = some (.slice x.o x.m x.c) := cells_of hb2 5
  clear hb1 hb2 hs1
  refine zzFits10_any (d := d) (X := []) (a := a) (cs := [a0, a1, a2]) ((kA (d + 1)).mv ha'.out (hE1.mv _)) _ ?_
  intro bb w2 hE2
  replace c0 := hE2.keep c0
  replace c1 := hE2.keep c1
  replace c2 := hE2.keep c2
  replace b0 := hE2.keep b0
  replace b1 := hE2.keep b1
  replace b2 := hE2.keep b2
  replace b3 := hE2.keep b3
  replace b4 := hE2.keep b4
  replace b5 := hE2.keep b5
  have hA2 := hE1.trans hE2
  dsimp only
  cases bb
  · go_wp2_with fail
    exact hR'.out _ hA2
  · go_wp2_with fail
    refine zzFits5_any (X := []) (v := v) (cs := x.list) (hv'.out.mv (hA2.mv _)) _ ?_
    intro bc w3 hE3
    replace c0 := hE3.keep c0
    replace c1 := hE3.keep c1
    replace c2 := hE3.keep c2
    replace b0 := hE3.keep b0
    replace b1 := hE3.keep b1
    replace b2 := hE3.keep b2
    replace b3 := hE3.keep b3
    replace b4 := hE3.keep b4
    replace b5 := hE3.keep b5
    have hA3 := hA2.trans hE3
    clear hE1 hE2 hE3 hA2
    dsimp only
    cases bc
    · go_wp2_with fail
      exact hR'.out _ hA3
    · go_wp2_with fail
      refine defined_any (d + 1) _ [] [a0, a1, a2] a 20 ((kA (d + 1)).mv ha'.out (hA3.mv _)) (by omega) (by omega) _ ?_
      intro w4 bd hE4
      replace c0 := hE4.keep c0
      replace c1 := hE4.keep c1
      replace c2 := hE4.keep c2
      replace b0 := hE4.keep b0
      replace b1 := hE4.keep b1
      replace b2 := hE4.keep b2
      replace b3 := hE4.keep b3
      replace b4 := hE4.keep b4
      replace b5 := hE4.keep b5
      have hA4 := hA3.trans hE4
      clear hE4 hA3
      dsimp only
      cases bd
      · go_wp2_with fail
        exact hR'.out _ hA4
      · go_wp2_with fail
        refine wp_region_script [0, 1, 3, 4, 7] [2] (fun w' => Ext w4 w') [(.read, 0), (.read, 1), (.read, 3), (.read, 4), (.one, 2), (.one, 5), (.one, 6), (.pure, 7)] (by kernel_rfl) (by kernel_rfl) ?_
        (apply scr_read'; (· rfl); (· rfl); (· first | exact hC | exact (Ext.refl _).drew); (· (intro w' hw'; have c0_ := hw'.keep c0; have c1_ := hw'.keep c1; have c2_ := hw'.keep c2; go_simp; try rfl)); (· (simp [go_sem]; try rfl)))
        (apply scr_read'; (· rfl); (· rfl); (· first | exact hC | exact (Ext.refl _).drew); (· (intro w' hw'; have b0_ := hw'.keep b0; have b1_ := hw'.keep b1; have b2_ := hw'.keep b2; have b3_ := hw'.keep b3; have b4_ := hw'.keep b4; have b5_ := hw'.keep b5; go_simp; try rfl)); (· (simp [go_sem]; try rfl)))
        (apply scr_read'; (· rfl); (· rfl); (· first | exact hC | exact (Ext.refl _).drew); (· (intro w' hw'; have c0_ := hw'.keep c0; have c1_ := hw'.keep c1; have c2_ := hw'.keep c2; go_simp; try rfl)); (· (simp [go_sem]; try rfl)))
        (apply scr_read'; (· rfl); (· rfl); (· first | exact hC | exact (Ext.refl _).drew); (· (intro w' hw'; have b0_ := hw'.keep b0; have b1_ := hw'.keep b1; have b2_ := hw'.keep b2; have b3_ := hw'.keep b3; have b4_ := hw'.keep b4; have b5_ := hw'.keep b5; go_simp; try rfl)); (· (simp [go_sem]; try rfl)))
        have hw4 := (Ext.refl w4).drew
        refine scr_one rfl rfl (fun K hK => ?_)
        go_simp
        refine deduce_c (d := d) (X := []) (cs := [a0, a1, a2]) (ds := x.list) ((kA (d + 1)).mv ha'.out ((hA4.trans hw4).mv _)) (hv'.out.mv ((hA4.trans hw4).mv _)) (Old.nil _) _ ?_
        intro w5 cs5 hE5 hcs5
        have hw5 := hw4.trans hE5
        have hcs5' := Lib.hid hcs5
        clear hcs5
        refine hK _ _ (fun _ => hw5) ?_
        clear hK
        refine scr_one rfl rfl (fun K hK => ?_)
        go_simp
        refine narrowed_c (d := d) (X := []) (cs := [a0, a1, a2]) (ds := x.list) ((kA (d + 1)).mv ha'.out ((hA4.trans hw5).mv _)) (hv'.out.mv ((hA4.trans hw5).mv _)) (Old.nil _) _ ?_
        intro w6 cs6 hE6 hcs6
        have hcs6' := Lib.hid hcs6
        clear hcs6
        refine hK _ _ (fun h => by simp at h) ?_
        clear hK
        refine scr_one rfl rfl (fun K hK => ?_)
        go_simp
        refine sameAtom_c (d := d + 1) (cs := cs5) (ds := cs6) ((kA (d + 1)).mv hcs5'.out (hE6.mv _)) hcs6'.out _ ?_
        rw [dd_nw, back_plain, a_rt]
        intro w7 hE7
        refine hK _ _ (fun h => by simp at h) ?_
        clear hK
        (apply scr_pure'; (· rfl); (· rfl); (· (intro w'; go_simp; try rfl)); (· (simp [go_sem]; try rfl)))
        refine scr_end ?_
        simp only [Exit.then]
        go_wp2_with fail
        exact hR'.out _ (((hA4.trans hw5).trans hE6).trans hE7)

set_option maxRecDepth 100000 in
theorem fnDeduceAtom_walk : LawWalk 8 Try.f8 := by
  intro H enc W base args ds ps hA _ hw hval
  rw [Try.params8] at hA hw hval
  obtain ⟨v0, v1, d0, d1, p0, p1, hargs, rfl, rfl, h0, h1⟩ := trodAll_two hA
  obtain ⟨args⟩ := args
  obtain rfl : args = [v0, v1] := by simpa using hargs
  obtain ⟨cs, rfl, hcs⟩ := okWide_struct Try.underlying42 (hval 0 42 v0 rfl rfl)
  obtain ⟨ds, rfl, hds⟩ := okWide_struct Try.underlying28 (hval 1 28 v1 rfl rfl)
  obtain ⟨fuel0, h0⟩ := h0
  obtain ⟨fuel1, h1⟩ := h1
  simp only [DataW.weightsEach, List.all_append, Bool.and_eq_true] at hw
  obtain ⟨v, hv⟩ := read_v fuel1 _ _ h1 hw.2.1
  obtain ⟨a, d, ha⟩ := read_a fuel0 _ _ h0 hw.1
  cases d with
  | zero => exact ha.elim
  | succ d => exact fnDeduceAtom_law (d := d) (cs := cs.toList) (ds := ds.toList) ha hv

set_option maxRecDepth 100000 in
theorem fnDeduceAtom_lifted (os : Os) (started : os.Started) (H : Type) (enc : TypeId × Value → H) :
    ReturnsInHanded {} Try.checked os 8 .any (Rows.fnDeduceAtomSpec.pre6 enc Try.prog Try.f8 Rows.fnDeduceAtomRow.domain false) (Rows.fnDeduceAtomSpec.post enc Try.prog Try.f8 false true false false) :=
  law_lift (s := Rows.fnDeduceAtomSpec) started (by kernel_rfl) Try.func8 rfl rfl
    (by rw [Try.params8]; intro t ht; simp at ht; rcases ht with rfl | rfl <;> exact ⟨by kernel_rfl, of_decide_eq_true (by kernel_rfl)⟩)
    (by rw [Try.params8]; intro ds hd; match ds, hd with | [a, b], _ => rfl)
    (ChangeSpec.witness6 (enc := enc) (C := Try.checked) false ⟨#[], #[.agg #[.string ⟨#[]⟩, .slice none 0 0, .slice none 0 0], .agg #[.int .i64 0, .int .i64 0, .float .f64 0, .string ⟨#[]⟩, .slice none 0 0, .slice none 0 0]], []⟩ 8 (by kernel_rfl) (by kernel_rfl) (by kernel_rfl) (by kernel_rfl))
    fnDeduceAtom_walk

theorem FnDeduceAtom_holds : Rows.FnDeduceAtomSaid :=
  OpenClaim.holds_of_wide 8 Try.f8 rfl rfl rfl rfl rfl rfl rfl ⟨rfl, rfl, rfl, rfl, rfl⟩ rfl rfl rfl rfl rfl (by kernel_rfl) Try.func8 (by kernel_rfl)
    (of_decide_eq_true (by kernel_rfl)) (by unfold Func.isWrapper; first | (rw [if_pos (by decide +kernel)]; kernel_rfl) | (rw [if_neg (by decide +kernel)]; exact ⟨rfl, rfl⟩))
    (fun os started H enc _ => fnDeduceAtom_lifted os started H enc)

end Go.Proofs.Ytmihdlbcjiaibaa
