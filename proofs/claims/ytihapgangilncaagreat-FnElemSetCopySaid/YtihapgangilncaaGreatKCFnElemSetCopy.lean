/- For all two lists of path elements, the law FnElemSetCopy returns true: what is put into the copy of a set of path elements is in the copy, beside what was in the set, and not in the set; no condition beside the law's own. -/
import Derived.Test.YtihapgangilncaaGreatKCLaw
import Derived.Test.YtihapgangilncaaGreatKCSpecES
import Derived.Test.YtihapgangilncaaGreatKCSetM
import Derived.Test.YtihapgangilncaaGreatKCBoth
import Derived.Test.YtihapgangilncaaGreatKCOrdP
namespace Go.Proofs.YtihapgangilncaaGreat
open Go.RowKit Go.Deep Go.ChangeShapes Go.WideShapes Go.ChangeAt
set_option linter.unusedSimpArgs false

theorem goodE_trans : TransOn GoodE := fun _ _ _ ha hb hc h1 h2 => goodE_ord.lt_tr ha hb hc h1 h2

set_option maxRecDepth 100000 in
set_option maxHeartbeats 4000000 in
theorem equalElemLists_c {w : World} {X Y : List Nat} {va vb' : Value} {p q : List EL} (ha : IsSl kEl 168 w X va p) (hb : IsSl kEl 168 w Y vb' q) (R : Ending → World → Prop) (hR : Ends R w (.bool (listB eqEl p q))) :
    Calls Tryz.prog 14 #[va, vb'] w R := by
  have hao := ha.one
  have hbo := hb.one
  have ha' := Lib.hid ha
  have hb' := Lib.hid hb
  have hR' := Lib.hid hR
  clear ha hb hR
  go_enter Tryz.func14, Tryz.ntmps14
  go_wp2_with fail
  refine specEqualPaths_c ha'.out hb'.out _ ?_
  intro w1 hE1
  dsimp only
  go_wp2_with fail
  exact hR'.out w1 hE1

theorem esOf_again {l : List EL} (hG : ∀ e ∈ l, GoodE (toE e)) : listB eqEl ((esOf (l.map toE)).map backE) ((esOf (l.map toE)).map backE) = true := by
  have h := (esOf_facts goodE_trans (l := l.map toE) (fun x hx => by obtain ⟨e, he, rfl⟩ := List.mem_map.1 hx; exact hG e he)).2.1
  exact (goodE_list h h).2 ((wc_ord goodE_ord).self _)

set_option maxRecDepth 100000 in
set_option maxHeartbeats 4000000 in
set_option pp.maxSteps 1000000 in
set_option pp.deepTerms true in
theorem fnElemSetCopy_law {w : World} {va vb' : Value} {l more : List EL} (ha : IsSl kEl 168 w [] va l) (hb : IsSl kEl 168 w [] vb' more) : Calls Tryz.prog 3 #[va, vb'] w fun e w' => e = .returned (.bool true) ∧ Below w.heap.size w w' := by
  suffices h : ∀ R : Ending → World → Prop, Ends R w (.bool true) → Calls Tryz.prog 3 #[va, vb'] w R from h _ (fun w' hE => ⟨rfl, hE⟩)
  intro R hR
  obtain ⟨o, c, _, _, rfl, -⟩ := id ha.ex
  obtain ⟨o2, c2, _, _, rfl, -⟩ := id hb.ex
  have ha' := Lib.hid ha
  have hb' := Lib.hid hb
  have hR' := Lib.hid hR
  clear hR ha hb
  by_cases h1 : (l.length : Int) > 2147483647
  · have h1b : (2147483647 : Int) < (l.length : Int) := h1
    go_enter Tryz.func3, Tryz.ntmps3
    go_wp2_with fail
    exact hR'.out _ (Ext.refl _)
  have h1b : ¬ (2147483647 : Int) < (l.length : Int) := h1
  by_cases h2 : (more.length : Int) > 2147483647
  · have h2b : (2147483647 : Int) < (more.length : Int) := h2
    go_enter Tryz.func3, Tryz.ntmps3
    go_wp2_with fail
    exact hR'.out _ (Ext.refl _)
  have h2b : ¬ (2147483647 : Int) < (more.length : Int) := h2
  have n1 := Lib.hid (show (l.length + 1) * 168 ≤ 140737488351232 by omega)
  have n2 := Lib.hid (show (l.length + more.length + 1) * 168 ≤ 140737488351232 by omega)
  have hb0 : (0 + l.length) * 168 ≤ 140737488355328 := by omega
  have hm0 : 0 + l.length ≤ maxLen := by rw [maxLen_eq]; omega
  have hbb1 : (l.length + more.length) * 168 ≤ 140737488355328 := by omega
  have hm1 : l.length + more.length ≤ maxLen := by rw [maxLen_eq]; omega
  have hbb0' := Lib.hid hb0
  have hm0' := Lib.hid hm0
  have hbb1' := Lib.hid hbb1
  have hm1' := Lib.hid hm1
  clear h1 h2 hb0 hm0 hbb1 hm1
  go_enter Tryz.func3, Tryz.ntmps3
  go_wp2_with fail
  refine abs1 (G := fun wr => Calls _ _ _ wr _) ?_
  intro w1 hE1 hb1 hs1
  have hsl : IsSl kPth 24 w1 [] (.slice (some ⟨w.heap.size, 0, none⟩) 2 2) [l, more] := ⟨_, _, w.heap.size, 0, rfl, Nat.le_refl _, by simp, fun _ => ⟨rfl, by simp⟩, fun i hi => by
    match i, hi with
    | 0, _ => exact ⟨[_], fun j hj => by
        obtain rfl : j = 0 := by simp [kPth] at hj; omega
        exact cells_of hb1 0, _, rfl, ha'.out.mv (hE1.mv []) (by decide)⟩
    | 1, _ => exact ⟨[_], fun j hj => by
        obtain rfl : j = 0 := by simp [kPth] at hj; omega
        exact cells_of hb1 1, _, rfl, hb'.out.mv (hE1.mv []) (by decide)⟩⟩
  have hsl' := Lib.hid hsl
  clear hsl hb1 hs1
  refine orderlyPaths_c hsl'.out _ ?_
  intro t1 ht1 w2 hE2
  have ht1' := Lib.hid ht1
  clear ht1
  dsimp only
  cases t1
  · go_wp2_with fail
    exact hR'.out _ (hE1.trans hE2)
  have hG := good_list hsl'.out (ht1'.out rfl)
  have hGl := Lib.hid (show ∀ e ∈ l, GoodE (toE e) from fun e he => hG l (by simp) (toE e) (List.mem_map.2 ⟨e, he, rfl⟩))
  have hGm := Lib.hid (show ∀ e ∈ more, GoodE (toE e) from fun e he => hG more (by simp) (toE e) (List.mem_map.2 ⟨e, he, rfl⟩))
  have hGa := Lib.hid (show ∀ e ∈ l ++ more, GoodE (toE e) from fun e he => (List.mem_append.1 he).elim (hGl.out e) (hGm.out e))
  have hE12 := hE1.trans hE2
  clear hG ht1' hE1 hE2 hsl'
  go_wp2_with fail
  refine elemSetCopy_c goodE_trans (fun x hx => goodE_small hx) (ha'.out.mv (hE12.mv []) (by decide)) (hb'.out.mv (hE12.mv []) (by decide)) (Old.nil _) hGl.out hGm.out n2.out _ ?_
  intro w3 v1 v2 hE3 hv1 hv2
  have hv1o := hv1.one
  have hv2o := hv2.one
  have hv1' := Lib.hid hv1
  have hv2' := Lib.hid hv2
  have hE13 := hE12.trans hE3
  clear hv1 hv2 hE12 hE3
  dsimp only
  go_wp2_with (at_builtin; first
    | (refine wpL_rowAppS (k := kEl) (bytes := 168) (w := w3.alloc (.cells #[] 47)) (X := []) (v := .slice (some ⟨w3.heap.size, 0, none⟩) 0 0) (us := []) (ts := l) rfl (Row.made ((push_get _ _ _).trans (if_pos rfl)) (by simp)) (Ext.refl _) (Old.nil _) (ha'.out.mv (((hE13.push _).mv []).moreL (fun z hz => by simp [vb, Value.ownBlock] at hz; have := hE13.size; omega)) (by decide)) _ _ _ rfl Tryz.underlying22 Tryz.info47 rfl (by decide) rfl rfl hbb0'.out hm0'.out ?_; intro v4 w4 hr4 hg4 hd4; have hr4' := Lib.hid hr4; have hE34 : Ext w3 w4 := (Ext.alloc w3 _).grown hg4 (fun k hk => by cases hk; exact Nat.le_refl _); have hd4' : Hid (∀ g ∈ vb v4, w3.heap.size ≤ g) := Lib.hid (fun g hg => (hd4 g (by simpa [vb] using hg)).elim (fun h => by simp [Value.ownBlock] at h; omega) (fun h => Nat.le_trans (Ext.alloc w3 _).size h)); clear hr4 hg4 hd4)
    | (refine wpL_rowAppS (k := kEl) (bytes := 168) (w := w4) (X := []) (ts := more) rfl hr4'.out (Ext.refl _) (Old.nil _) (hb'.out.mv (((hE13.trans hE34).mv []).moreL (fun z hz => Nat.le_trans hE13.size (hd4'.out z hz))) (by decide)) _ _ _ rfl Tryz.underlying22 Tryz.info47 rfl (by decide) rfl rfl hbb1'.out hm1'.out ?_; intro v5 w5 hr5 hg5 hd5; have hr5' := Lib.hid hr5; have hE35 := Lib.hid (hE34.grown hg5 (fun k hk => hd4'.out k (by simp [vb, hk]))); have hv5 := hr5.one; clear hr5 hg5 hd5))
  have hall := hr5'.out.isSl (bytes := 168) (by rw [List.nil_append, List.length_append]; have := n2.out; omega)
  rw [List.nil_append] at hall
  have hall' := Lib.hid hall
  have hE15 := hE13.trans hE35.out
  clear hall hr5' hr4' hE34 hd4'
  refine specElemSet_c goodE_trans (fun x hx => goodE_from hx) (ha'.out.mv (hE15.mv []) (by decide)) (Old.nil _) hGl.out n1.out _ ?_
  intro w6 v6 hE6 hv6
  have hv6o := hv6.one
  have hv6' := Lib.hid hv6
  clear hv6
  dsimp only
  go_wp2_with fail
  refine equalElemLists_c (hv1'.out.mv ((hE35.out.trans hE6).mv []) (by decide)) hv6'.out _ ?_
  rw [esOf_again hGl.out]
  intro w7 hE7
  dsimp only
  go_wp2_with fail
  refine specElemSet_c goodE_trans (fun x hx => goodE_from hx) (hall'.out.mv ((hE6.trans hE7).mv []) (by decide)) (Old.nil _) hGa.out (by rw [List.length_append]; exact n2.out) _ ?_
  intro w8 v8 hE8 hv8
  have hv8o := hv8.one
  have hv8' := Lib.hid hv8
  clear hv8
  dsimp only
  go_wp2_with fail
  refine equalElemLists_c (hv2'.out.mv ((((hE35.out.trans hE6).trans hE7).trans hE8).mv []) (by decide)) hv8'.out _ ?_
  rw [esOf_again hGa.out]
  intro w9 hE9
  dsimp only
  go_wp2_with fail
  exact hR'.out w9 ((((hE15.trans hE6).trans hE7).trans hE8).trans hE9)

set_option maxRecDepth 100000 in
theorem fnElemSetCopy_walk : LawWalk 3 Tryz.f3 := by
  intro H enc W base args ds ps hA _ hw hval
  rw [Tryz.params3] at hA hw hval
  obtain ⟨v0, v1, d0, d1, p0, p1, hargs, rfl, rfl, h0, h1⟩ := trodAll_two hA
  obtain ⟨args⟩ := args
  obtain rfl : args = [v0, v1] := by simpa using hargs
  obtain ⟨o0, n0, c0, rfl⟩ := okWide_slice Tryz.underlying22 (hval 0 22 v0 rfl rfl)
  obtain ⟨o1, n1, c1, rfl⟩ := okWide_slice Tryz.underlying22 (hval 1 22 v1 rfl rfl)
  obtain ⟨fuel0, h0⟩ := h0
  obtain ⟨fuel1, h1⟩ := h1
  simp only [DataW.weightsEach, List.all_append, Bool.and_eq_true] at hw
  obtain ⟨v, p, hv, hp⟩ := read_path1 h0 hw.1
  obtain ⟨u, q, hu, hq⟩ := read_path1 h1 hw.2.1
  have e0 : Value.slice o0 n0 c0 = v := by simpa [Value.cells] using hv
  have e1 : Value.slice o1 n1 c1 = u := by simpa [Value.cells] using hu
  subst e0 e1
  exact fnElemSetCopy_law hp hq

set_option maxRecDepth 100000 in
theorem fnElemSetCopy_lifted (os : Os) (started : os.Started) (H : Type) (enc : TypeId × Value → H) :
    ReturnsInHanded {} Tryz.checked os 3 .any (Rows.fnElemSetCopySpec.pre6 enc Tryz.prog Tryz.f3 Rows.fnElemSetCopyRow.domain false) (Rows.fnElemSetCopySpec.post enc Tryz.prog Tryz.f3 false true false false) :=
  law_lift (s := Rows.fnElemSetCopySpec) started (by kernel_rfl) Tryz.func3 rfl rfl
    (by rw [Tryz.params3]; intro t ht; simp at ht; rcases ht with rfl | rfl <;> exact ⟨by kernel_rfl, of_decide_eq_true (by kernel_rfl)⟩)
    (by rw [Tryz.params3]; intro ds hd; match ds, hd with | [a, b], _ => rfl)
    (ChangeSpec.witness6 (enc := enc) (C := Tryz.checked) false ⟨#[], #[.slice none 0 0, .slice none 0 0], []⟩ 8 (by kernel_rfl) (by kernel_rfl) (by kernel_rfl) (by kernel_rfl))
    fnElemSetCopy_walk

theorem FnElemSetCopy_holds : Rows.FnElemSetCopySaid :=
  OpenClaim.holds_of_wide 3 Tryz.f3 rfl rfl rfl rfl rfl rfl rfl ⟨rfl, rfl, rfl, rfl, rfl⟩ rfl rfl rfl rfl rfl (by kernel_rfl) Tryz.func3 (by kernel_rfl)
    (of_decide_eq_true (by kernel_rfl)) (by unfold Func.isWrapper; first | (rw [if_pos (by decide +kernel)]; kernel_rfl) | (rw [if_neg (by decide +kernel)]; exact ⟨rfl, rfl⟩))
    (fun os started H enc _ => fnElemSetCopy_lifted os started H enc)

end Go.Proofs.YtihapgangilncaaGreat
