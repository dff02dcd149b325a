/- For all lists of values and all indexes, the law FnListItems returns true: ListItems visits the items in their order and ListAt finds the item at an index; no condition. -/
import Derived.Test.YtmihdlbcjiaibaaLaw
import Derived.Test.YtmihdlbcjiaibaaLists
import Derived.Test.YtmihdlbcjiaibaaSameV
namespace Go.Proofs.Ytmihdlbcjiaibaa
open Go.ChangeShapes Go.WideShapes Go.ChangeAt Go.RowKit

set_option maxRecDepth 100000 in
set_option maxHeartbeats 2000000 in
theorem listAt_no {w : World} {o : Option Addr} {n c : Nat} {i : Int} (hi : i < 0 ∨ (n : Int) ≤ i) (R : Ending → World → Prop)
    (hR : ∀ w', Ext w w' → R (.returned (.tuple #[.agg #[.int .i64 0, .int .i64 0, .float .f64 0, .string ⟨#[]⟩, .slice none 0 0, .slice none 0 0], .bool false])) w') :
    Calls Try.prog 18 #[.slice o n c, .int .i64 i] w R := by
  have hR' := Lib.hid hR
  clear hR
  rcases hi with h | h
  · have h1 : decide (i < 0) = true := by simpa using h
    clear h
    go_enter Try.func18, Try.ntmps18
    go_wp2_with fail
    refine bodyPost_ret (by simp [results, Try.results18, go_sem]; try rfl) rfl ?_
    exact hR'.out _ (.alloc _ _)
  · have h1 : decide (i < 0) = false := by simp; omega
    have h2 : decide (i ≥ (n : Int)) = true := by simp; omega
    have h3 : decide ((n : Int) ≤ i) = true := by simp; omega
    go_enter Try.func18, Try.ntmps18
    go_wp2_with fail
    refine bodyPost_ret (by simp [results, Try.results18, go_sem]; try rfl) rfl ?_
    exact hR'.out _ (.alloc _ _)

set_option maxRecDepth 100000 in
set_option maxHeartbeats 2000000 in
theorem listAt_yes {w : World} {X : List Nat} {o : Option Addr} {c i : Nat} {l : List V} (hl : IsVs w X (.slice o l.length c) l) (hX : Old X w) (hi : i < l.length) (R : Ending → World → Prop)
    (hR : ∀ w' cs, Ext w w' → IsV w' X cs (l[i]).clean → R (.returned (.tuple #[.agg cs.toArray, .bool true])) w') :
    Calls Try.prog 18 #[.slice o l.length c, .int .i64 i] w R := by
  have hl' := Lib.hid hl
  have hX' := Lib.hid hX
  have hR' := Lib.hid hR
  have h1 : decide ((i : Int) < 0) = false := by simp
  have h2 : decide ((i : Int) ≥ (l.length : Int)) = false := by simp; omega
  have h3 : decide ((l.length : Int) ≤ (i : Int)) = false := by simp; omega
  clear hR hl hX
  go_enter Try.func18, Try.ntmps18
  go_wp2_with fail
  refine abs1 (G := fun wr => Calls _ _ _ wr _) ?_
  intro w1 hE1 hb1 hs1
  refine toList_c (X := w.heap.size :: X) (hl'.out.mv ((hE1.mv X).more (Nat.le_refl _))) (.cons (by omega) (hX'.out.le hE1.size)) _ ?_
  intro w2 lv hE2 hlv
  obtain ⟨s, rfl, hs⟩ := hlv.ex
  have hs' := Lib.hid hs
  clear hs hlv
  dsimp only
  go_wp2_with fail
  refine at_c (n := i) hs'.out (.cons (by have := hE2.size; omega) (hX'.out.le (hE1.trans hE2).size)) (by rw [plainL_length]; exact hi) _ ?_
  intro w3 v hE3 hv
  rw [plainL_get hi] at hv
  have hv' := Lib.hid hv
  clear hv
  dsimp only
  go_wp2_with fail
  refine fromValue_c hv'.out (.cons (by have := hE2.size; have := hE3.size; omega) (hX'.out.le ((hE1.trans hE2).trans hE3).size)) _ ?_
  intro w4 cs hE4 hy
  rw [back_plain] at hy
  obtain ⟨y, rfl⟩ := hy.shape
  have hy' := Lib.hid hy
  clear hy
  have hE := ((hE1.trans hE2).trans hE3).trans hE4
  have hb4 : w4.heap[w.heap.size]? = _ := (((hE2.trans hE3).trans hE4).below.block _ (by omega)).trans hb1
  dsimp only
  simp only [Cells6.list]
  go_wp2_with (refine wpL_storeRow (cells := #[Value.int .i64 y.kind, .int .i64 y.n, .float .f64 y.f, .string y.s, .slice y.ko y.kn y.kc, .slice y.o y.m y.c]) rfl _ _ _ rfl Try.size28 rfl rfl hb4 rfl (by simp [Value.oneCell']) ?_; intro w5 hh3 hg3)
  go_simp
  have z0 : w5.cell? ⟨w.heap.size, 0, none⟩ = some (.int .i64 y.kind) := cells_of hh3 0
  have z1 : w5.cell? ⟨w.heap.size, 1, none⟩ = some (.int .i64 y.n) := cells_of hh3 1
  have z2 : w5.cell? ⟨w.heap.size, 2, none⟩ = some (.float .f64 y.f) := cells_of hh3 2
  have z3 : w5.cell? ⟨w.heap.size, 3, none⟩ = some (.string y.s) := cells_of hh3 3
  have z4 : w5.cell? ⟨w.heap.size, 4, none⟩ = some (.slice y.ko y.kn y.kc) := cells_of hh3 4
  have z5 : w5.cell? ⟨w.heap.size, 5, none⟩ = some (.slice y.o y.m y.c) := cells_of hh3 5
  go_wp2_with fail
  refine bodyPost_ret (by simp [results, Try.results18, go_sem, z0, z1, z2, z3, z4, z5]; try rfl) rfl ?_
  exact hR'.out w5 y.list (hE.grown hg3 (fun j hj => by simp at hj; omega)) ((hy'.out.mv ((Mv.refl _ _).grown hg3 (fun j hj => by cases hj; simp))).mv ((Mv.refl _ _).less fun b hb => by simp [hb]))

set_option maxRecDepth 100000 in
set_option maxHeartbeats 4000000 in
set_option pp.maxSteps 1000000 in
set_option pp.deepTerms true in
theorem listItems_law {w : World} {o : Option Addr} {c : Nat} {i : Int} {l : List V} (hl : IsVs w [] (.slice o l.length c) l) :
    Calls Try.prog 5 #[.slice o l.length c, .int .i64 i] w fun e w' => e = .returned (.bool true) ∧ Below w.heap.size w w' := by
  suffices h : ∀ R : Ending → World → Prop, Ends R w (.bool true) → Calls Try.prog 5 #[.slice o l.length c, .int .i64 i] w R from h _ (fun w' hE => ⟨rfl, hE⟩)
  intro R hR
  have hl' := Lib.hid hl
  have hR' := Lib.hid hR
  clear hR hl
  by_cases hbig : l.length > 2147483647
  · have hb : decide ((l.length : Int) > 2147483647) = true := by simp; omega
    have hb' : decide ((2147483647 : Int) < (l.length : Int)) = true := by simp; omega
    go_enter Try.func5, Try.ntmps5
    go_wp2_with fail
    exact hR'.out _ (Ext.refl _)
  · have hb' : decide ((2147483647 : Int) < (l.length : Int)) = false := by simp; omega
    go_enter Try.func5, Try.ntmps5
    go_wp2_with fail
    refine listItems_c hl'.out (Old.nil _) _ ?_
    intro w1 v hE1 hv
    have hv' := Lib.hid hv
    have hvo := hv.isSl.one
    clear hv
    dsimp only
    go_wp2_with fail
    refine sameValues_c hv'.out (hl'.out.mv (hE1.mv _)) _ ?_
    have hcc : V.sameL (V.cleanL (V.cleanL l)) (V.cleanL l) = true := by
      rw [V.cleanL_eq, V.cleanL_eq, List.map_map]
      have : V.clean ∘ V.clean = V.clean := funext fun v => clean_clean v
      rw [this]
      exact sameL_refl _
    rw [hcc]
    intro w2 hE2
    have hE := hE1.trans hE2
    dsimp only
    go_wp2_with fail
    rcases Classical.em (i < 0 ∨ (l.length : Int) ≤ i) with hi | hi
    · refine listAt_no hi _ ?_
      intro w3 hE3
      have hEE := hE.trans hE3
      have h1 : (decide (i < 0) || decide ((l.length : Int) ≤ i)) = true := by simpa using hi
      dsimp only
      go_wp2_with fail
      all_goals exact hR'.out _ (hEE.push _)
    · obtain ⟨n, rfl⟩ : ∃ n : Nat, i = n := ⟨i.toNat, by omega⟩
      have hn : n < l.length := by omega
      refine listAt_yes (hl'.out.mv (hE.mv _)) (Old.nil _) hn _ ?_
      intro w3 cs hE3 hy
      obtain ⟨y, rfl⟩ := hy.shape
      have hEE := hE.trans hE3
      have hy' := Lib.hid hy
      clear hy
      have h1 : decide ((n : Int) < 0) = false := by simp
      have h3 : decide ((l.length : Int) ≤ (n : Int)) = false := by simp; omega
      dsimp only
      simp only [Cells6.list]
      go_wp2_with fail
      refine abs1 (G := Code.wp _ _ _ _) ?_
      intro w4 hE4 hb4 hs4
      have a0 : w4.cell? ⟨w3.heap.size, 0, none⟩ = some (.int .i64 y.kind) := cells_of hb4 0
      have a1 : w4.cell? ⟨w3.heap.size, 1, none⟩ = some (.int .i64 y.n) := cells_of hb4 1
      have a2 : w4.cell? ⟨w3.heap.size, 2, none⟩ = some (.float .f64 y.f) := cells_of hb4 2
      have a3 : w4.cell? ⟨w3.heap.size, 3, none⟩ = some (.string y.s) := cells_of hb4 3
      have a4 : w4.cell? ⟨w3.heap.size, 4, none⟩ = some (.slice y.ko y.kn y.kc) := cells_of hb4 4
      have a5 : w4.cell? ⟨w3.heap.size, 5, none⟩ = some (.slice y.o y.m y.c) := cells_of hb4 5
      obtain ⟨_, _, b, off, e, l2, l3, l4, l5⟩ := hl'.out.ex
      cases e
      obtain ⟨rfl, -⟩ := l4 (by omega)
      obtain ⟨x, c0, c1, c2, c3, c4, c5, hx⟩ := l5 n hn
      have hE5 := hEE.trans hE4
      have q0 := hE5.keep c0
      have q1 := hE5.keep c1
      have q2 := hE5.keep c2
      have q3 := hE5.keep c3
      have q4 := hE5.keep c4
      have q5 := hE5.keep c5
      have hi1 : (n : Int) < (l.length : Int) := by omega
      have hi0 : (0 : Int) ≤ (n : Int) := by omega
      have hx' := Lib.hid hx
      clear l4 l5 c0 c1 c2 c3 c4 c5 hx
      refine wp_region_script [0, 1, 2, 3, 4, 5, 6, 8, 9] [] (fun w' => w' = w4.drew) [(.read, 0), (.read, 1), (.read, 2), (.read, 3), (.read, 4), (.read, 5), (.read, 6), (.one, 7), (.pure, 8), (.pure, 9)] (by kernel_rfl) (by kernel_rfl) ?_
      iterate 7 (first | (apply scr_r; (· rfl); (· (first | rfl | (simp [Region.wanted, yielded, go_sem]; done) | (simp [Region.wanted, yielded, go_sem, *]; done))); (· (go_simp; try rfl)); (· (simp [go_sem]; try rfl))) | (apply scr_r0; (· rfl); (· (first | rfl | (simp [Region.wanted, yielded, go_sem]; done) | (simp [Region.wanted, yielded, go_sem, *]; done))); (· (simp [go_sem]; try rfl))))
      refine scr_oneG rfl (by simp [Region.wanted, yielded, go_sem]) (fun K hK => ?_)
      go_simp
      refine sameValue_c (cs := y.list) (ds := x.list) (v := (l[n]).clean) (u := l[n]) (hy'.out.mv (hE4.drew.mv _)) (hx'.out.mv (hE5.drew.mv _)) _ ?_
      rw [clean_clean, same_refl]
      intro w5 hE6
      refine hK _ _ (fun h => by simp at h) ?_
      clear hK
      (apply scr_pure'; (· rfl); (· rfl); (· (intro w'; go_simp; try rfl)); (· (simp [go_sem]; try rfl)))
      (apply scr_pure'; (· rfl); (· rfl); (· (intro w'; go_simp; try rfl)); (· (simp [go_sem]; try rfl)))
      refine scr_end ?_
      simp only [Exit.then]
      go_wp2_with fail
      exact hR'.out _ (hE5.drew.trans hE6)

set_option maxRecDepth 100000 in
theorem fnListItems_walk : LawWalk 5 Try.f5 := by
  intro H enc W base args ds ps hA _ hw hval
  rw [Try.params5] at hA hw hval
  obtain ⟨v0, v1, d0, d1, p0, p1, hargs, rfl, rfl, h0, h1⟩ := trodAll_two hA
  obtain ⟨args⟩ := args
  obtain rfl : args = [v0, v1] := by simpa using hargs
  obtain ⟨i, rfl, rfl, rfl, wi⟩ := open_int Try.underlying3 (hval 1 3 v1 rfl rfl) h1
  obtain ⟨fuel, h0⟩ := h0
  have hw0 : (d0.weights Try.prog 26).all (· ≤ reachBytes) = true := by
    simp only [DataW.weightsEach, List.all_append, Bool.and_eq_true] at hw
    exact hw.1
  obtain ⟨o, len, cap, rfl⟩ := okWide_slice Try.underlying26 (hval 0 26 v0 rfl rfl)
  obtain ⟨v, us, hv, hvs⟩ := read_vs h0 hw0
  obtain rfl : Value.slice o len cap = v := by simpa [Value.cells] using hv
  obtain ⟨_, _, _, _, e, -⟩ := id hvs.ex
  cases e
  exact listItems_law hvs

set_option maxRecDepth 100000 in
theorem fnListItems_lifted (os : Os) (started : os.Started) (H : Type) (enc : TypeId × Value → H) :
    ReturnsInHanded {} Try.checked os 5 .any (Rows.fnListItemsSpec.pre6 enc Try.prog Try.f5 Rows.fnListItemsRow.domain false) (Rows.fnListItemsSpec.post enc Try.prog Try.f5 false true false false) :=
  law_lift (s := Rows.fnListItemsSpec) started (by kernel_rfl) Try.func5 rfl rfl
    (by rw [Try.params5]; intro t ht; simp at ht; rcases ht with rfl | rfl <;> exact ⟨by kernel_rfl, of_decide_eq_true (by kernel_rfl)⟩)
    (by rw [Try.params5]; intro ds hd; match ds, hd with | [a, b], _ => rfl)
    (ChangeSpec.witness6 (enc := enc) (C := Try.checked) false ⟨#[], #[.slice none 0 0, .int .i64 0], []⟩ 8 (by kernel_rfl) (by kernel_rfl) (by kernel_rfl) (by kernel_rfl))
    fnListItems_walk

theorem FnListItems_holds : Rows.FnListItemsSaid :=
  OpenClaim.holds_of_wide 5 Try.f5 rfl rfl rfl rfl rfl rfl rfl ⟨rfl, rfl, rfl, rfl, rfl⟩ rfl rfl rfl rfl rfl (by kernel_rfl) Try.func5 (by kernel_rfl)
    (of_decide_eq_true (by kernel_rfl)) (by unfold Func.isWrapper; first | (rw [if_pos (by decide +kernel)]; kernel_rfl) | (rw [if_neg (by decide +kernel)]; exact ⟨rfl, rfl⟩))
    (fun os started H enc _ => fnListItems_lifted os started H enc)

end Go.Proofs.Ytmihdlbcjiaibaa
