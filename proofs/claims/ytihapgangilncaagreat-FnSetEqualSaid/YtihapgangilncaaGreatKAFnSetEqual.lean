/- For all two lists of paths, the law FnSetEqual returns true: their sets are equal exactly if each path of one is a path of the other; no condition beside the law's own. -/
import Derived.Test.YtihapgangilncaaGreatKALaw
import Derived.Test.YtihapgangilncaaGreatKASetEq
import Derived.Test.YtihapgangilncaaGreatKABoth
import Derived.Test.YtihapgangilncaaGreatKAOrdP
namespace Go.Proofs.YtihapgangilncaaGreat
open Go.RowKit Go.Deep Go.ChangeShapes Go.WideShapes Go.ChangeAt
set_option linter.unusedSimpArgs false

/-- q is among the paths of l -/
def memP (l : List (List EL)) (q : List PEl) : Prop := ∃ p ∈ l.map (·.map toE), p ≠ [] ∧ wc cmpPe p q = 0
theorem equalSets_iff {a b : List (List EL)} (ha : ∀ p ∈ a, GP GoodE (p.map toE)) (hb : ∀ p ∈ b, GP GoodE (p.map toE)) : listB (listB eqEl) ((setOf (a.map (·.map toE))).map (·.map backE)) ((setOf (b.map (·.map toE))).map (·.map backE)) = true ↔ ∀ q, GP GoodE q → (memP a q ↔ memP b q) := by
  have hA : ∀ p ∈ a.map (·.map toE), GP GoodE p := fun p hp => by obtain ⟨r, hr, rfl⟩ := List.mem_map.1 hp; exact ha r hr
  have hB : ∀ p ∈ b.map (·.map toE), GP GoodE p := fun p hp => by obtain ⟨r, hr, rfl⟩ := List.mem_map.1 hp; exact hb r hr
  have fA := setOf_facts goodE_ord hA
  have fB := setOf_facts goodE_ord hB
  have gA : ∀ p ∈ setOf (a.map (·.map toE)), GP GoodE p := fun p hp => hA p (fA.2.1 p hp)
  have gB : ∀ p ∈ setOf (b.map (·.map toE)), GP GoodE p := fun p hp => hB p (fB.2.1 p hp)
  rw [goodE_lists gA gB]
  constructor
  · intro h q hq
    exact (fA.2.2.2.1 q hq).symm.trans ((All2.has (wc_ord goodE_ord) h gA gB hq).trans (fB.2.2.2.1 q hq))
  · intro h
    exact srt_uniq (wc_ord goodE_ord) fA.1 fB.1 gA gB (fun x hx => (fB.2.2.2.1 x (gA x hx)).2 ((h x (gA x hx)).1 ((fA.2.2.2.1 x (gA x hx)).1 (hasC_self (wc_ord goodE_ord) hx)))) (fun x hx => (fA.2.2.2.1 x (gB x hx)).2 ((h x (gB x hx)).2 ((fB.2.2.2.1 x (gB x hx)).1 (hasC_self (wc_ord goodE_ord) hx))))

/-- toSet, its set to be read -/
theorem toSetR_c {w : World} {X : List Nat} {lv : Value} {l : List (List EL)} (hl : IsSl kPth 24 w X lv l) (hX : Old X w) (hG : ∀ p ∈ l, GP GoodE (p.map toE)) (hbytes : (l.length + 1) * 40 ≤ 140737488351232) (R : Ending → World → Prop)
    (hR : ∀ w' sv (s : St) d, Ext w w' → (kSt d).is w' X [sv] s → Tr.Wf cmpPe GoodE s → (∀ q, GP GoodE q → (Tr.has cmpPe s q ↔ memP l q)) → R (.returned sv) w') :
    Calls Tryz.prog 58 #[lv] w R := by
  refine toSet_c goodE_ord hl hX hG hbytes R ?_
  intro w1 t hE1 hst hbl hwf hhas
  have htl := tree_len goodE_ord hwf (L := l.map (·.map toE)) (fun x hx => by
    obtain ⟨e, he, rfl⟩ := List.mem_map.1 hx
    exact hG e he) hhas
  rw [List.length_map] at htl
  obtain ⟨d, hd⟩ := store_read hst t (fun n hn => hn) hwf (Nat.le_trans (Nat.mul_le_mul_right 40 (Nat.le_trans htl (Nat.le_succ _))) hbytes)
  exact hR w1 _ _ d hE1 hd (Tr.erase_wf hwf) (fun q hq => Tr.erase_has.trans (hhas q hq))

theorem implSetEqual_c {w : World} {X : List Nat} {va vb' : Value} {a b : List (List EL)} (ha : IsSl kPth 24 w X va a) (hb : IsSl kPth 24 w X vb' b) (hX : Old X w) (hGa : ∀ p ∈ a, GP GoodE (p.map toE)) (hGb : ∀ p ∈ b, GP GoodE (p.map toE)) (h1 : (a.length + 1) * 40 ≤ 140737488351232) (h2 : (b.length + 1) * 40 ≤ 140737488351232) (R : Ending → World → Prop)
    (hR : ∀ r : Bool, (r = true ↔ ∀ q, GP GoodE q → (memP a q ↔ memP b q)) → Ends R w (.bool r)) : Calls Tryz.prog 26 #[va, vb'] w R := by
  have hao := ha.one
  have hbo := hb.one
  have ha' := Lib.hid ha
  have hb' := Lib.hid hb
  have hX' := Lib.hid hX
  have hGa' := Lib.hid hGa
  have hGb' := Lib.hid hGb
  have h1' := Lib.hid h1
  have h2' := Lib.hid h2
  have hR' := Lib.hid hR
  clear ha hb hX hGa hGb h1 h2 hR
  go_enter Tryz.func26, Tryz.ntmps26
  go_wp2_with fail
  refine toSetR_c ha'.out hX'.out hGa'.out h1'.out _ ?_
  intro w1 sv s d hE1 hs hwf hhas
  have hso := (kSt d).one hs sv (by simp)
  have hs' := Lib.hid hs
  have hwf' := Lib.hid hwf
  have hhas' := Lib.hid hhas
  clear hs hwf hhas
  dsimp only
  go_wp2_with fail
  refine toSetR_c (hb'.out.mv (hE1.mv X) (by decide)) (hX'.out.le hE1.size) hGb'.out h2'.out _ ?_
  intro w2 tv t e hE2 ht hwt hhat
  have hto := (kSt e).one ht tv (by simp)
  have ht' := Lib.hid ht
  have hwt' := Lib.hid hwt
  have hhat' := Lib.hid hhat
  clear ht hwt hhat
  dsimp only
  go_wp2_with fail
  refine setEquals_all d e ((kSt d).mv hs'.out (hE2.mv X)) ht'.out _ ?_
  have hiff := eqBt_law (e := e) (Y := []) (ds := []) hs'.out hwf'.out hwt'.out
  obtain ⟨r, hr⟩ : ∃ r, eqBt d s t = r := ⟨_, rfl⟩
  rw [hr] at hiff ⊢
  have hiff' := Lib.hid (show r = true ↔ ∀ q, GP GoodE q → (memP a q ↔ memP b q) from hiff.trans ⟨fun h q hq => (hhas'.out q hq).symm.trans ((h q hq).trans (hhat'.out q hq)), fun h q hq => (hhas'.out q hq).trans ((h q hq).trans (hhat'.out q hq).symm)⟩)
  clear hiff hr
  intro w3 hE3
  dsimp only
  go_wp2_with fail
  exact hR'.out r hiff'.out w3 ((hE1.trans hE2).trans hE3)

set_option maxRecDepth 100000 in
set_option maxHeartbeats 4000000 in
set_option pp.maxSteps 1000000 in
set_option pp.deepTerms true in
theorem fnSetEqual_law {w : World} {va vb' : Value} {a b : List (List EL)} (ha : IsSl kPth 24 w [] va a) (hb : IsSl kPth 24 w [] vb' b) : Calls Tryz.prog 7 #[va, vb'] w fun e w' => e = .returned (.bool true) ∧ Below w.heap.size w w' := by
  suffices h : ∀ R : Ending → World → Prop, Ends R w (.bool true) → Calls Tryz.prog 7 #[va, vb'] w R from h _ (fun w' hE => ⟨rfl, hE⟩)
  intro R hR
  obtain ⟨o, c, _, _, rfl, -⟩ := id ha.ex
  obtain ⟨o2, c2, _, _, rfl, -⟩ := id hb.ex
  have ha' := Lib.hid ha
  have hb' := Lib.hid hb
  have hR' := Lib.hid hR
  clear hR ha hb
  by_cases h1 : (a.length : Int) > 2147483647
  · have h1b : (2147483647 : Int) < (a.length : Int) := h1
    go_enter Tryz.func7, Tryz.ntmps7
    go_wp2_with fail
    exact hR'.out _ (Ext.refl _)
  have h1b : ¬ (2147483647 : Int) < (a.length : Int) := h1
  by_cases h2 : (b.length : Int) > 2147483647
  · have h2b : (2147483647 : Int) < (b.length : Int) := h2
    go_enter Tryz.func7, Tryz.ntmps7
    go_wp2_with fail
    exact hR'.out _ (Ext.refl _)
  have h2b : ¬ (2147483647 : Int) < (b.length : Int) := h2
  have n1 := Lib.hid (show (a.length + 1) * 40 ≤ 140737488351232 by omega)
  have n2 := Lib.hid (show (b.length + 1) * 40 ≤ 140737488351232 by omega)
  have n3 := Lib.hid (show (a.length + b.length) * 24 ≤ 140737488351232 by omega)
  clear h1 h2
  go_enter Tryz.func7, Tryz.ntmps7
  go_wp2_with fail
  refine both_c ha'.out hb'.out (Old.nil _) n3.out _ ?_
  intro w1 bv hE1 hbv
  have hbo := hbv.one
  have hbv' := Lib.hid hbv
  clear hbv
  dsimp only
  go_wp2_with fail
  refine orderlyPaths_c hbv'.out _ ?_
  intro t1 ht1 w2 hE2
  have ht1' := Lib.hid ht1
  clear ht1
  dsimp only
  cases t1
  · go_wp2_with fail
    exact hR'.out _ (hE1.trans hE2)
  have hG := good_list hbv'.out (ht1'.out rfl)
  have hGa := Lib.hid (show ∀ p ∈ a, GP GoodE (p.map toE) from fun p hp => hG p (List.mem_append_left _ hp))
  have hGb := Lib.hid (show ∀ p ∈ b, GP GoodE (p.map toE) from fun p hp => hG p (List.mem_append_right _ hp))
  have hE12 := hE1.trans hE2
  clear hG ht1' hE1 hE2 hbv'
  go_wp2_with fail
  refine implSetEqual_c (ha'.out.mv (hE12.mv []) (by decide)) (hb'.out.mv (hE12.mv []) (by decide)) (Old.nil _) hGa.out hGb.out n1.out n2.out _ ?_
  intro r hr w3 hE3
  have hr' := Lib.hid hr
  have hE13 := hE12.trans hE3
  clear hr hE12 hE3
  dsimp only
  go_wp2_with fail
  refine equalSets_c goodE_ord (fun x hx => goodE_from hx) (Old.nil _) (ha'.out.mv (hE13.mv []) (by decide)) (hb'.out.mv (hE13.mv []) (by decide)) hGa.out hGb.out (by have := n1.out; omega) (by have := n2.out; omega) _ ?_
  have hes := equalSets_iff hGa.out hGb.out
  obtain ⟨e1, he1⟩ : ∃ r, listB (listB eqEl) ((setOf (a.map (·.map toE))).map (·.map backE)) ((setOf (b.map (·.map toE))).map (·.map backE)) = r := ⟨_, rfl⟩
  rw [he1] at hes ⊢
  have hre : r = e1 := by
    have := hr'.out.trans hes.symm
    cases r <;> cases e1 <;> simp_all
  subst hre
  have he1' := Lib.hid he1
  clear he1 hes
  intro w4 hE4
  have hE14 := hE13.trans hE4
  clear hE13 hE4
  dsimp only
  have hrr : (r == r) = true := by simp
  go_wp2_with fail
  refine implSetEqual_c (hb'.out.mv (hE14.mv []) (by decide)) (ha'.out.mv (hE14.mv []) (by decide)) (Old.nil _) hGb.out hGa.out n2.out n1.out _ ?_
  intro r2 hr2 w5 hE5
  have hE15 := hE14.trans hE5
  have hre : r2 = r := by
    have h3 : r2 = true ↔ r = true := hr2.trans (Iff.trans ⟨fun h q hq => (h q hq).symm, fun h q hq => (h q hq).symm⟩ hr'.out.symm)
    cases r <;> cases r2 <;> simp_all
  subst hre
  clear hr2 hE14 hE5
  dsimp only
  go_wp2_with fail
  refine equalSets_c goodE_ord (fun x hx => goodE_from hx) (Old.nil _) (ha'.out.mv (hE15.mv []) (by decide)) (hb'.out.mv (hE15.mv []) (by decide)) hGa.out hGb.out (by have := n1.out; omega) (by have := n2.out; omega) _ ?_
  rw [he1'.out]
  intro w6 hE6
  dsimp only
  go_wp2_with fail
  exact hR'.out w6 (hE15.trans hE6)

set_option maxRecDepth 100000 in
theorem fnSetEqual_walk : LawWalk 7 Tryz.f7 := by
  intro H enc W base args ds ps hA _ hw hval
  rw [Tryz.params7] at hA hw hval
  obtain ⟨v0, v1, d0, d1, p0, p1, hargs, rfl, rfl, h0, h1⟩ := trodAll_two hA
  obtain ⟨args⟩ := args
  obtain rfl : args = [v0, v1] := by simpa using hargs
  obtain ⟨o0, n0, c0, rfl⟩ := okWide_slice Tryz.underlying24 (hval 0 24 v0 rfl rfl)
  obtain ⟨o1, n1, c1, rfl⟩ := okWide_slice Tryz.underlying24 (hval 1 24 v1 rfl rfl)
  obtain ⟨fuel0, h0⟩ := h0
  obtain ⟨fuel1, h1⟩ := h1
  simp only [DataW.weightsEach, List.all_append, Bool.and_eq_true] at hw
  obtain ⟨v, p, hv, hp⟩ := read_paths h0 hw.1
  obtain ⟨u, q, hu, hq⟩ := read_paths h1 hw.2.1
  have e0 : Value.slice o0 n0 c0 = v := by simpa [Value.cells] using hv
  have e1 : Value.slice o1 n1 c1 = u := by simpa [Value.cells] using hu
  subst e0 e1
  exact fnSetEqual_law hp hq

set_option maxRecDepth 100000 in
theorem fnSetEqual_lifted (os : Os) (started : os.Started) (H : Type) (enc : TypeId × Value → H) :
    ReturnsInHanded {} Tryz.checked os 7 .any (Rows.fnSetEqualSpec.pre6 enc Tryz.prog Tryz.f7 Rows.fnSetEqualRow.domain false) (Rows.fnSetEqualSpec.post enc Tryz.prog Tryz.f7 false true false false) :=
  law_lift (s := Rows.fnSetEqualSpec) started (by kernel_rfl) Tryz.func7 rfl rfl
    (by rw [Tryz.params7]; intro t ht; simp at ht; rcases ht with rfl | rfl <;> exact ⟨by kernel_rfl, of_decide_eq_true (by kernel_rfl)⟩)
    (by rw [Tryz.params7]; intro ds hd; match ds, hd with | [a, b], _ => rfl)
    (ChangeSpec.witness6 (enc := enc) (C := Tryz.checked) false ⟨#[], #[.slice none 0 0, .slice none 0 0], []⟩ 8 (by kernel_rfl) (by kernel_rfl) (by kernel_rfl) (by kernel_rfl))
    fnSetEqual_walk

theorem FnSetEqual_holds : Rows.FnSetEqualSaid :=
  OpenClaim.holds_of_wide 7 Tryz.f7 rfl rfl rfl rfl rfl rfl rfl ⟨rfl, rfl, rfl, rfl, rfl⟩ rfl rfl rfl rfl rfl (by kernel_rfl) Tryz.func7 (by kernel_rfl)
    (of_decide_eq_true (by kernel_rfl)) (by unfold Func.isWrapper; first | (rw [if_pos (by decide +kernel)]; kernel_rfl) | (rw [if_neg (by decide +kernel)]; exact ⟨rfl, rfl⟩))
    (fun os started H enc _ => fnSetEqual_lifted os started H enc)

end Go.Proofs.YtihapgangilncaaGreat
