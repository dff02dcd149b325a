/- For all paths, the law FnEqualPaths returns true: two paths are equal exactly if they have as many elements, equal in pairs, and each is equal to itself; no condition beside the law's own. -/
import Derived.Test.YtmihdlbcjiaibaaLaw
import Derived.Test.YtmihdlbcjiaibaaTame
namespace Go.Proofs.Ytmihdlbcjiaibaa
open Go.RowKit Go.Deep Go.ChangeShapes Go.WideShapes Go.ChangeAt

section
variable {H : Type} {enc : TypeId × Value → H} {w : World} {base : Nat} {spare : Nat → Bool} {held : Bool}
theorem eleven_of {cs : List Value} (h : cs.length = 11) : ∃ c0 c1 c2 c3 c4 c5 c6 c7 c8 c9 c10, cs = [c0, c1, c2, c3, c4, c5, c6, c7, c8, c9, c10] := by
  match cs, h with
  | [c0, c1, c2, c3, c4, c5, c6, c7, c8, c9, c10], _ => exact ⟨_, _, _, _, _, _, _, _, _, _, _, rfl⟩
theorem read_el {fuel : Nat} {cs : List Value} {x : DataW H × List MemPlace} (h : DataW.trod enc Try.prog w base spare held fuel 163 cs = some x)
    (hw : (x.1.weights Try.prog 163).all (· ≤ reachBytes) = true) : ∃ e, kEl.is w [] cs e := by
  obtain ⟨hlen, n, hn, hf⟩ := read_fields Try.underlying163 h hw
  have q : Try.prog.cellsOf 163 = 11 := by kernel_rfl
  have q0 : Try.prog.cellsOf 3 = 1 := by kernel_rfl
  have q1 : Try.prog.cellsOf 9 = 1 := by kernel_rfl
  have q2 : Try.prog.cellsOf 25 = 1 := by kernel_rfl
  have q3 : Try.prog.cellsOf 26 = 1 := by kernel_rfl
  have q4 : Try.prog.cellsOf 28 = 6 := by kernel_rfl
  rw [q] at hlen
  obtain ⟨c0, c1, c2, c3, c4, c5, c6, c7, c8, c9, c10, rfl⟩ := eleven_of hlen
  have e0 := hf 0
  have e1 := hf 1
  have e2 := hf 2
  have e3 := hf 3
  have e4 := hf 4
  have e5 := hf 5
  simp only [List.getElem?_toArray, List.getElem?_cons_zero, List.getElem?_cons_succ, Option.some.injEq, forall_eq', q0, q1, q2, q3, q4, List.drop_zero, List.drop_succ_cons, List.take_succ_cons, List.take_zero] at e0 e1 e2 e3 e4 e5
  obtain ⟨y0, t0, w0⟩ := e0
  obtain ⟨y1, t1, w1⟩ := e1
  obtain ⟨y2, t2, w2⟩ := e2
  obtain ⟨y3, t3, w3⟩ := e3
  obtain ⟨y4, t4, w4⟩ := e4
  obtain ⟨y5, t5, w5⟩ := e5
  obtain ⟨k0, h0, -, wf0⟩ := DataW.trod_int Try.underlying3 t0
  obtain ⟨s1, h1, hs1⟩ := read_str t1 w1
  obtain ⟨v2, ss, h2, hss⟩ := read_strs t2 w2
  obtain ⟨v3, vs, h3, hvs⟩ := read_vs t3 w3
  obtain ⟨v, hv⟩ := read_v n _ _ t4 w4
  obtain ⟨k5, h5, -, wf5⟩ := DataW.trod_int Try.underlying3 t5
  simp only [List.cons.injEq, and_true] at h0 h1 h2 h3 h5
  subst h0 h1 h2 h3 h5
  exact ⟨⟨k0, s1, ss, vs, v, k5⟩, _, _, [c4, c5, c6, c7, c8, c9], rfl, wf0, wf5, hs1, hss, hvs, hv⟩
theorem read_path {fuel : Nat} {cs : List Value} {x : DataW H × List MemPlace} (h : DataW.trod enc Try.prog w base spare held fuel 66 cs = some x)
    (hw : (x.1.weights Try.prog 66).all (· ≤ reachBytes) = true) : ∃ v p, cs = [v] ∧ IsSl kEl 168 w [] v p :=
  read_sl (k := kEl) (bytes := 168) (by simp [kEl]) Try.underlying66 (by kernel_rfl) (by kernel_rfl) (fun f _ cs x h hw => read_el h hw) h hw
end

set_option maxRecDepth 100000 in
set_option maxHeartbeats 4000000 in
set_option pp.maxSteps 1000000 in
set_option pp.deepTerms true in
theorem fnEqualPaths_law {w : World} {va vb : Value} {p q : List EL} (ha : IsSl kEl 168 w [] va p) (hb : IsSl kEl 168 w [] vb q) : Calls Try.prog 10 #[va, vb] w fun e w' => e = .returned (.bool true) ∧ Below w.heap.size w w' := by
  suffices h : ∀ R : Ending → World → Prop, Ends R w (.bool true) → Calls Try.prog 10 #[va, vb] w R from h _ (fun w' hE => ⟨rfl, hE⟩)
  intro R hR
  obtain ⟨o, c, _, _, rfl, l2, l3, -⟩ := id ha.ex
  obtain ⟨o2, c2, _, _, rfl, m2, m3, -⟩ := id hb.ex
  have ha' := Lib.hid ha
  have hb' := Lib.hid hb
  have hR' := Lib.hid hR
  clear hR ha hb
  by_cases h1 : (p.length : Int) > 2147483647
  · have h1b : (2147483647 : Int) < (p.length : Int) := h1
    go_enter Try.func10, Try.ntmps10
    go_wp2_with fail
    exact hR'.out _ (Ext.refl _)
  have h1b : ¬ (2147483647 : Int) < (p.length : Int) := h1
  by_cases h2 : (q.length : Int) > 2147483647
  · have h2b : (2147483647 : Int) < (q.length : Int) := h2
    go_enter Try.func10, Try.ntmps10
    go_wp2_with fail
    exact hR'.out _ (Ext.refl _)
  have h2b : ¬ (2147483647 : Int) < (q.length : Int) := h2
  clear h1 h2
  go_enter Try.func10, Try.ntmps10
  go_wp2_with fail
  refine tame_c ha'.out _ ?_
  intro t1 ht1 w1 hE1
  have ht1' := Lib.hid ht1
  clear ht1
  dsimp only
  cases t1
  · go_wp2_with fail
    exact hR'.out _ hE1
  go_wp2_with fail
  refine tame_c (hb'.out.mv (hE1.mv _) (by simp [kEl])) _ ?_
  intro t2 ht2 w2 hE2
  have hA := hE1.trans hE2
  clear ht2 hE1 hE2
  dsimp only
  cases t2
  · go_wp2_with fail
    exact hR'.out _ hA
  go_wp2_with fail
  refine implEqualPaths_c (ha'.out.mv (hA.mv _) (by simp [kEl])) (hb'.out.mv (hA.mv _) (by simp [kEl])) _ ?_
  rw [eqPath_toE]
  intro w3 hE3
  replace hA := hA.trans hE3
  clear hE3
  dsimp only
  go_wp2_with fail
  refine specEqualPaths_c (ha'.out.mv (hA.mv _) (by simp [kEl])) (hb'.out.mv (hA.mv _) (by simp [kEl])) _ ?_
  obtain ⟨bb, hbb⟩ : ∃ bb, listB eqEl p q = bb := ⟨_, rfl⟩
  rw [hbb]
  clear hbb
  intro w4 hE4
  replace hA := hA.trans hE4
  clear hE4
  dsimp only
  cases bb
  all_goals
    go_wp2_with fail
    refine implEqualPaths_c (ha'.out.mv (hA.mv _) (by simp [kEl])) (ha'.out.mv (hA.mv _) (by simp [kEl])) _ ?_
    rw [eqPath_toE, eqPath_refl p (ht1'.out trivial)]
    intro w5 hE5
    dsimp only
    go_wp2_with fail
    exact hR'.out _ (hA.trans hE5)

set_option maxRecDepth 100000 in
theorem fnEqualPaths_walk : LawWalk 10 Try.f10 := by
  intro H enc W base args ds ps hA _ hw hval
  rw [Try.params10] at hA hw hval
  obtain ⟨v0, v1, d0, d1, p0, p1, hargs, rfl, rfl, h0, h1⟩ := trodAll_two hA
  obtain ⟨args⟩ := args
  obtain rfl : args = [v0, v1] := by simpa using hargs
  obtain ⟨o0, n0, c0, rfl⟩ := okWide_slice Try.underlying66 (hval 0 66 v0 rfl rfl)
  obtain ⟨o1, n1, c1, rfl⟩ := okWide_slice Try.underlying66 (hval 1 66 v1 rfl rfl)
  obtain ⟨fuel0, h0⟩ := h0
  obtain ⟨fuel1, h1⟩ := h1
  simp only [DataW.weightsEach, List.all_append, Bool.and_eq_true] at hw
  obtain ⟨v, p, hv, hp⟩ := read_path h0 hw.1
  obtain ⟨u, q, hu, hq⟩ := read_path h1 hw.2.1
  have e0 : Value.slice o0 n0 c0 = v := by simpa [Value.cells] using hv
  have e1 : Value.slice o1 n1 c1 = u := by simpa [Value.cells] using hu
  subst e0 e1
  exact fnEqualPaths_law hp hq

set_option maxRecDepth 100000 in
theorem fnEqualPaths_lifted (os : Os) (started : os.Started) (H : Type) (enc : TypeId × Value → H) :
    ReturnsInHanded {} Try.checked os 10 .any (Rows.fnEqualPathsSpec.pre6 enc Try.prog Try.f10 Rows.fnEqualPathsRow.domain false) (Rows.fnEqualPathsSpec.post enc Try.prog Try.f10 false true false false) :=
  law_lift (s := Rows.fnEqualPathsSpec) started (by kernel_rfl) Try.func10 rfl rfl
    (by rw [Try.params10]; intro t ht; simp at ht; rcases ht with rfl | rfl <;> exact ⟨by kernel_rfl, of_decide_eq_true (by kernel_rfl)⟩)
    (by rw [Try.params10]; intro ds hd; match ds, hd with | [a, b], _ => rfl)
    (ChangeSpec.witness6 (enc := enc) (C := Try.checked) false ⟨#[], #[.slice none 0 0, .slice none 0 0], []⟩ 8 (by kernel_rfl) (by kernel_rfl) (by kernel_rfl) (by kernel_rfl))
    fnEqualPaths_walk

theorem FnEqualPaths_holds : Rows.FnEqualPathsSaid :=
  OpenClaim.holds_of_wide 10 Try.f10 rfl rfl rfl rfl rfl rfl rfl ⟨rfl, rfl, rfl, rfl, rfl⟩ rfl rfl rfl rfl rfl (by kernel_rfl) Try.func10 (by kernel_rfl)
    (of_decide_eq_true (by kernel_rfl)) (by unfold Func.isWrapper; first | (rw [if_pos (by decide +kernel)]; kernel_rfl) | (rw [if_neg (by decide +kernel)]; exact ⟨rfl, rfl⟩))
    (fun os started H enc _ => fnEqualPaths_lifted os started H enc)

end Go.Proofs.Ytmihdlbcjiaibaa
