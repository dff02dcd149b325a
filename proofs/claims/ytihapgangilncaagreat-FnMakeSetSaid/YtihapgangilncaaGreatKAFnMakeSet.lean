/- For all lists of paths, the law FnMakeSet returns true: a set made of them lists each path but the empty one, each once, and nothing else; no condition beside the law's own. -/
import Derived.Test.YtihapgangilncaaGreatKALaw
import Derived.Test.YtihapgangilncaaGreatKABoth
import Derived.Test.YtihapgangilncaaGreatKAOrdP
namespace Go.Proofs.YtihapgangilncaaGreat
open Go.RowKit Go.Deep Go.ChangeShapes Go.WideShapes Go.ChangeAt
set_option linter.unusedSimpArgs false

set_option maxRecDepth 100000 in
set_option maxHeartbeats 4000000 in
set_option pp.maxSteps 1000000 in
set_option pp.deepTerms true in
theorem makeSet_c {G : PEl → Prop} (ho : Cmpr cmpPe G) (hsm : ∀ x, G x → SmallPe x) {w : World} {X : List Nat} {lv : Value} {l : List (List EL)} (hl : IsSl kPth 24 w X lv l) (hX : Old X w) (hG : ∀ p ∈ l, GP G (p.map toE)) (hbytes : (l.length + 1) * 40 ≤ 140737488351232) (R : Ending → World → Prop)
    (hR : ∀ w' v' (s : St), Ext w w' → Tr.Wf cmpPe G s → (∀ q, GP G q → (Tr.has cmpPe s q ↔ ∃ p ∈ l.map (·.map toE), p ≠ [] ∧ wc cmpPe p q = 0)) → IsSl kPth 24 w' X v' (s.paths.map (·.map backE)) → R (.returned v') w') :
    Calls Tryz.prog 17 #[lv] w R := by
  have hlo := hl.one
  have hl' := Lib.hid hl
  have hX' := Lib.hid hX
  have hG' := Lib.hid hG
  have hsm' := Lib.hid hsm
  have hb' := Lib.hid hbytes
  have ho' : Hid (Cmpr cmpPe G) := Lib.hid ho
  have hR' := Lib.hid hR
  clear hl hX hG hbytes ho hR hsm
  go_enter Tryz.func17, Tryz.ntmps17
  go_wp2_with fail
  refine toSet_c ho'.out hl'.out hX'.out hG'.out hb'.out _ ?_
  intro w1 t hE1 hst hbl hwf hhas
  have htl := tree_len ho'.out hwf (L := l.map (·.map toE)) (fun x hx => by
    obtain ⟨e, he, rfl⟩ := List.mem_map.1 hx
    exact hG'.out e he) hhas
  rw [List.length_map] at htl
  have hb40 : t.paths.length * 40 ≤ 140737488351232 := Nat.le_trans (Nat.mul_le_mul_right 40 (Nat.le_trans htl (Nat.le_succ _))) hb'.out
  obtain ⟨d, hd⟩ := store_read hst t (fun n hn => hn) hwf hb40
  have hp168 := Lib.hid (paths_bytes hl'.out hhas hwf ho'.out)
  have hd' := Lib.hid hd
  have hwf' := Lib.hid (Tr.erase_wf hwf)
  have hhas' : Hid (∀ q, GP G q → (Tr.has cmpPe t.erase q ↔ ∃ p ∈ l.map (·.map toE), p ≠ [] ∧ wc cmpPe p q = 0)) := Lib.hid (fun q hq => Tr.erase_has.trans (hhas q hq))
  have htl' := Lib.hid htl
  clear hd hwf hhas hst hbl hb40 htl
  dsimp only
  go_wp2_with fail
  refine fromSet_c (G := G) hd'.out hwf'.out (hX'.out.le hE1.size) hsm'.out (fun q hq => hp168.out q (by rw [← Tr.erase_paths]; exact hq)) (by rw [Tr.erase_paths]; have := htl'.out; have := hb'.out; omega) _ ?_
  intro w2 v2 hE2 hv2
  have hv2o := hv2.one
  have hv2' := Lib.hid hv2
  clear hv2
  dsimp only
  go_wp2_with fail
  exact hR'.out w2 v2 _ (hE1.trans hE2) hwf'.out hhas'.out hv2'.out

set_option maxRecDepth 100000 in
set_option maxHeartbeats 4000000 in
set_option pp.maxSteps 1000000 in
set_option pp.deepTerms true in
theorem fnMakeSet_law {w : World} {va : Value} {l : List (List EL)} (ha : IsSl kPth 24 w [] va l) : Calls Tryz.prog 4 #[va] w fun e w' => e = .returned (.bool true) ∧ Below w.heap.size w w' := by
  suffices h : ∀ R : Ending → World → Prop, Ends R w (.bool true) → Calls Tryz.prog 4 #[va] w R from h _ (fun w' hE => ⟨rfl, hE⟩)
  intro R hR
  obtain ⟨o, c, _, _, rfl, -⟩ := id ha.ex
  have ha' := Lib.hid ha
  have hR' := Lib.hid hR
  clear hR ha
  by_cases h1 : (l.length : Int) > 2147483647
  · have h1b : (2147483647 : Int) < (l.length : Int) := h1
    go_enter Tryz.func4, Tryz.ntmps4
    go_wp2_with fail
    exact hR'.out _ (Ext.refl _)
  have h1b : ¬ (2147483647 : Int) < (l.length : Int) := h1
  have h1n : (l.length + 1) * 40 ≤ 140737488351232 := by omega
  have h1n' := Lib.hid h1n
  clear h1 h1n
  go_enter Tryz.func4, Tryz.ntmps4
  go_wp2_with fail
  refine orderlyPaths_c ha'.out _ ?_
  intro t1 ht1 w1 hE1
  have ht1' := Lib.hid ht1
  clear ht1
  dsimp only
  cases t1
  · go_wp2_with fail
    exact hR'.out _ hE1
  have hG := good_list ha'.out (ht1'.out rfl)
  have hG' := Lib.hid hG
  clear hG ht1'
  go_wp2_with fail
  refine makeSet_c goodE_ord (fun x hx => goodE_small hx) (ha'.out.mv (hE1.mv []) (by decide)) (Old.nil _) hG'.out h1n'.out _ ?_
  intro w2 v2 s hE2 hwf hhas hv2
  have hv2o := hv2.one
  have hv2' := Lib.hid hv2
  have hwf' := Lib.hid hwf
  have hhas' := Lib.hid hhas
  clear hv2 hwf hhas
  dsimp only
  go_wp2_with fail
  refine specSetOf_c goodE_ord (fun x hx => goodE_from hx) (ha'.out.mv ((hE1.trans hE2).mv []) (by decide)) (Old.nil _) hG'.out (by have := h1n'.out; omega) _ ?_
  intro w3 v3 hE3 hv3
  have hv3o := hv3.one
  have hv3' := Lib.hid hv3
  clear hv3
  dsimp only
  go_wp2_with fail
  have hlw := lists_law goodE_ord hG'.out hwf'.out hhas'.out
  refine lists_c goodE_ord (fun x hx => goodE_from hx) (Old.nil _) (hv2'.out.mv (hE3.mv []) (by decide)) hv3'.out hlw.1 hlw.2.1 (by have := hlw.2.2.2.1; have := h1n'.out; omega) (by have := hlw.2.2.2.2.1; have := h1n'.out; omega) hlw.2.2.1 hlw.2.2.2.2.2 _ ?_
  intro w4 hE4
  dsimp only
  go_wp2_with fail
  exact hR'.out w4 (((hE1.trans hE2).trans hE3).trans hE4)

set_option maxRecDepth 100000 in
theorem fnMakeSet_walk : LawWalk 4 Tryz.f4 := by
  intro H enc W base args ds ps hA _ hw hval
  rw [Tryz.params4] at hA hw hval
  obtain ⟨v0, d0, hargs, rfl, h0⟩ := trodAll_one hA
  subst hargs
  obtain ⟨o0, n0, c0, rfl⟩ := okWide_slice Tryz.underlying24 (hval 0 24 v0 rfl rfl)
  obtain ⟨fuel0, h0⟩ := h0
  simp only [DataW.weightsEach, List.all_append, Bool.and_eq_true] at hw
  obtain ⟨v, p, hv, hp⟩ := read_paths h0 hw.1
  have e0 : Value.slice o0 n0 c0 = v := by simpa [Value.cells] using hv
  subst e0
  exact fnMakeSet_law hp

set_option maxRecDepth 100000 in
theorem fnMakeSet_lifted (os : Os) (started : os.Started) (H : Type) (enc : TypeId × Value → H) :
    ReturnsInHanded {} Tryz.checked os 4 .any (Rows.fnMakeSetSpec.pre6 enc Tryz.prog Tryz.f4 Rows.fnMakeSetRow.domain false) (Rows.fnMakeSetSpec.post enc Tryz.prog Tryz.f4 false true false false) :=
  law_lift (s := Rows.fnMakeSetSpec) started (by kernel_rfl) Tryz.func4 rfl rfl
    (by rw [Tryz.params4]; intro t ht; simp at ht; rcases ht with rfl <;> exact ⟨by kernel_rfl, of_decide_eq_true (by kernel_rfl)⟩)
    (by rw [Tryz.params4]; intro ds hd; match ds, hd with | [a], _ => rfl)
    (ChangeSpec.witness6 (enc := enc) (C := Tryz.checked) false ⟨#[], #[.slice none 0 0], []⟩ 8 (by kernel_rfl) (by kernel_rfl) (by kernel_rfl) (by kernel_rfl))
    fnMakeSet_walk

theorem FnMakeSet_holds : Rows.FnMakeSetSaid :=
  OpenClaim.holds_of_wide 4 Tryz.f4 rfl rfl rfl rfl rfl rfl rfl ⟨rfl, rfl, rfl, rfl, rfl⟩ rfl rfl rfl rfl rfl (by kernel_rfl) Tryz.func4 (by kernel_rfl)
    (of_decide_eq_true (by kernel_rfl)) (by unfold Func.isWrapper; first | (rw [if_pos (by decide +kernel)]; kernel_rfl) | (rw [if_neg (by decide +kernel)]; exact ⟨rfl, rfl⟩))
    (fun os started H enc _ => fnMakeSet_lifted os started H enc)

end Go.Proofs.YtihapgangilncaaGreat
