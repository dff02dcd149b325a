/- slices.Insert of one set node into a row of the function's own (printed by gen_insn.py). SetNodeMap.Descend, over the nodes of a set that paths are put into. -/
import Derived.Test.YtihapgangilncaaGreatKGIns
import Derived.Test.YtihapgangilncaaGreatKGBSearchN
namespace Go.Proofs.YtihapgangilncaaGreat
open Go.RowKit
set_option linter.unusedSimpArgs false

set_option maxRecDepth 100000 in
theorem overlapsN_no {w : World} {q g o : Nat} {cq cg : Array Value} {T e : TypeId} (hq : w.heap[q]? = some (.cells cq T (0, 0))) (hg : w.heap[g]? = some (.cells cg e (0, 0))) (hne : q ≠ g) (hsz : cg.size ≠ 0) (la ca lb cb : Nat) :
    (callFunc 201 #[.slice (some ⟨q, 0, none⟩) la ca, .slice (some ⟨g, o, none⟩) lb cb]).run Tryz.prog w = .ok (.value (.bool false)) w := by
  rw [run_callFunc_extern Tryz.func201 (by kernel_rfl) (by kernel_rfl) (by kernel_rfl) (e := Extern.SlicesOverlaps.overlaps #[121, 121] #[4]) (by kernel_rfl),
    Lib.run_overlaps_apart w 121 4 183 Tryz.underlying121 5 (fun _ => by kernel_rfl) ⟨q, 0, none⟩ ⟨g, o, none⟩ la ca lb cb hne T e _ _ (shape_of hq) (shape_of hg) hsz (frozen_of hq) (frozen_of hq)]
  rfl

set_option maxRecDepth 100000 in
set_option maxHeartbeats 8000000 in
set_option pp.maxSteps 1000000 in
set_option pp.deepTerms true in
theorem insertN_own {w : World} {v : Value} {n q i : Nat} {xs cs : List Value} {T : TypeId} (hown : Own w 183 5 v n xs) (hq : w.heap[q]? = some (.cells cs.toArray T (0, 0)))
    (hcl : cs.length = 5) (hc1 : ∀ y ∈ cs, y.oneCell' = true) (hx1 : ∀ y ∈ xs, y.oneCell' = true) (hqv : v.ownBlock ≠ some q) (hi : i ≤ n) (hbytes : (n + 1) * 40 ≤ 140737488351232) (R : Ending → World → Prop)
    (hR : ∀ w' v', Own w' 183 5 v' (n + 1) (xs.take (i * 5) ++ cs ++ xs.drop (i * 5)) → w.grownBy w' v.ownBlock → v' ≠ .slice none 0 0 → (∀ g, v'.ownBlock = some g → v.ownBlock = some g ∨ w.heap.size ≤ g) → R (.returned v') w') :
    Calls Tryz.prog 182 #[v, .int .i64 (i : Int), .slice (some ⟨q, 0, none⟩) 1 1] w R := by
  have hxl : xs.length = n * 5 := hown.1
  have hqlt := (Array.getElem?_eq_some_iff.1 hq).1
  have h63 : n + 1 ≤ maxLen := by rw [maxLen_eq]; omega
  have hb48 : (n + 1) * 40 ≤ 140737488355328 := Nat.le_trans hbytes (by decide)
  have hqc : ∀ j y, cs[j]? = some y → w.cell? ((⟨q, 0, none⟩ : Addr).add j) = some y := fun j y hj => by
    have e1 : (⟨q, 0, none⟩ : Addr).add j = ⟨q, j, none⟩ := by unfold Addr.add; split <;> simp_all
    rw [e1, cells_of hq]
    simpa using hj
  have hR' := Lib.hid hR
  have hqc' := Lib.hid hqc
  have hc1' := Lib.hid hc1
  have hx1' := Lib.hid hx1
  have hq' := Lib.hid hq
  have hown' := Lib.hid hown
  clear hR hqc hc1 hx1 hq
  by_cases hin : i = n
  · subst hin
    have ht : xs.take (i * 5) = xs := List.take_of_length_le (by omega)
    have hd : xs.drop (i * 5) = [] := List.drop_eq_nil_of_le (by omega)
    rw [ht, hd, List.append_nil] at hR'
    clear ht hd
    have hxl' := Lib.hid hxl
    have hcl' := Lib.hid hcl
    have h63' := Lib.hid h63
    have hb48' := Lib.hid hb48
    have hbytes' := Lib.hid hbytes
    rcases hown.2 with ⟨rfl, rfl⟩ | ⟨g, cap, cur, rfl, -, hg, hnc, hcm, hcz, hct⟩
    · clear hown hxl hcl h63 hb48 hbytes
      go_enter Tryz.func182, Tryz.ntmps182
      go_wp2_with (at_builtin; refine wpL_append2 rfl _ _ _ _ rfl Tryz.underlying122 Tryz.underlying121 Tryz.info183 rfl (by decide) rfl hown'.out cs rfl (by rw [hcl'.out]) hqc'.out hc1'.out h63'.out hb48'.out ?_; intro v' w' h2 h3 h4 h5)
      exact hR'.out w' v' h2 h3 (fun e => by have := (h4.1 e).2; omega) (fun g hg => (h5 g hg).imp id (fun e => Nat.le_of_eq e.symm))
    · have hcm' := Lib.hid hcm
      clear hown hxl hcl h63 hb48 hbytes hg hcm hcz hct
      by_cases hci : cap = i
      · subst hci
        go_enter Tryz.func182, Tryz.ntmps182
        go_wp2_with (at_builtin; refine wpL_append2 rfl _ _ _ _ rfl Tryz.underlying122 Tryz.underlying121 Tryz.info183 rfl (by decide) rfl hown'.out cs rfl (by rw [hcl'.out]) hqc'.out hc1'.out h63'.out hb48'.out ?_; intro v' w' h2 h3 h4 h5)
        exact hR'.out w' v' h2 h3 (fun e => by have := (h4.1 e).2; omega) (fun g hg => (h5 g hg).imp id (fun e => Nat.le_of_eq e.symm))
      · go_enter Tryz.func182, Tryz.ntmps182
        go_wp2_with (at_builtin; refine wpL_append2 rfl _ _ _ _ rfl Tryz.underlying122 Tryz.underlying121 Tryz.info183 rfl (by decide) rfl hown'.out cs rfl (by rw [hcl'.out]) hqc'.out hc1'.out h63'.out hb48'.out ?_; intro v' w' h2 h3 h4 h5)
        exact hR'.out w' v' h2 h3 (fun e => by have := (h4.1 e).2; omega) (fun g hg => (h5 g hg).imp id (fun e => Nat.le_of_eq e.symm))
  · have hlt : i < n := by omega
    have hiI : ((i : Int) == (n : Int)) = false := by rw [beq_eq_false_iff_ne]; omega
    have hw : IntKind.i64.wrap ((n : Int) + 1) = (n : Int) + 1 := IntWalk.i64_in _ (by have := maxLen_eq; omega)
    have hw2 : IntKind.i64.wrap ((i : Int) + 1) = (i : Int) + 1 := IntWalk.i64_in _ (by have := maxLen_eq; omega)
    rcases hown.2 with ⟨rfl, rfl⟩ | ⟨g, cap, cur, rfl, -, hg, hnc, hcm, hcz, hct⟩
    · omega
    have hqg : q ≠ g := fun e => hqv (by rw [e]; rfl)
    have hov := fun (o la ca lb cb : Nat) => overlapsN_no (o := o) hq'.out hg hqg (by omega) la ca lb cb
    have hxl' := Lib.hid hxl
    have hcl' := Lib.hid hcl
    have h63' := Lib.hid h63
    have hb48' := Lib.hid hb48
    have hbytes' := Lib.hid hbytes
    have hg' := Lib.hid hg
    have hcz' := Lib.hid hcz
    have hct' := Lib.hid hct
    have hcm' := Lib.hid hcm
    by_cases hroom : n + 1 ≤ cap
    · have hgt : decide ((cap : Int) < (n : Int) + 1) = false := by simp; omega
      have hgt2 : ¬ (cap : Int) < (n : Int) + 1 := by omega
      have b1 : (n : Int) + 1 ≤ (cap : Int) := by omega
      have b2 : (0 : Int) ≤ (n : Int) + 1 := by omega
      have b3 : (i : Int) + 1 ≤ (n : Int) + 1 := by omega
      have b4 : (0 : Int) ≤ (i : Int) + 1 := by omega
      have b5 : (i : Int) ≤ (n : Int) + 1 := by omega
      have b6 : (i : Int) ≤ (n : Int) := by omega
      have b7 : ¬ cap = i + 1 := by omega
      have b8 : ¬ cap = i := by omega
      have b9 : ((i : Int) + 1).toNat = i + 1 := by omega
      have b10 : ((n : Int) + 1).toNat = n + 1 := by omega
      clear hown hxl hcl h63 hb48 hbytes hg hcm hcz hct
      go_enter Tryz.func182, Tryz.ntmps182
      go_wp2_with (simp only [hov])
      refine wp_region_script [0, 1, 2, 3, 4, 5, 6, 7] [] (fun w' => Ext w w') [(.pure, 0), (.pure, 1), (.pure, 2), (.pure, 3), (.pure, 4), (.pure, 5), (.pure, 6), (.pure, 7), (.one, 8)] (by kernel_rfl) (by kernel_rfl) ?_
      iterate 8 (apply scr_pure'; (· rfl); (· rfl); (· (intro w'; go_simp; try rfl)); (· (simp [go_sem]; try rfl)))
      refine scr_one rfl rfl (fun K hK => ?_)
      have hsz : (Tryz.prog.info? 183).map (·.size) = some 5 := by kernel_rfl
      have hdl : (xs.drop (i * 5)).length = (n - i) * 5 := by rw [List.length_drop, hxl'.out, Nat.sub_mul]
      have hgc : ∀ j y, xs[j]? = some y → w.drew.cell? ⟨g, j, none⟩ = some y := fun j y hj => by
        rw [cells_of (w := w.drew) (b := g) hg'.out]
        rw [← hct'.out, List.getElem?_take] at hj
        split at hj
        · simpa using hj
        · cases hj
      refine wp_copyN _ _ _ _ rfl Tryz.underlying122 hsz (off := (i + 1) * 5) (dLen := n - i) (dCap := cap - (i + 1)) (ad := ⟨g, i * 5, none⟩) (sLen := n + 1 - i) (sCap := cap - i) (by go_simp; try rfl) (by go_simp; try rfl) (cur := cur) (t := 183) hg'.out (xs.drop (i * 5)) (by rw [hdl]; congr 1; simp only [Nat.min_def]; split <;> omega)
        (fun j y hj => by
          have e1 : (⟨g, i * 5, none⟩ : Addr).add j = ⟨g, i * 5 + j, none⟩ := by unfold Addr.add; split <;> simp_all
          rw [e1]
          exact hgc _ _ (by rwa [List.getElem?_drop] at hj))
        (by rw [hdl, hcz'.out, ← Nat.add_mul]; exact Nat.mul_le_mul_right 5 (by omega)) (fun y hy => hx1'.out y (List.mem_of_mem_drop hy)) ?_
      intro w4 h4 g4
      refine hK _ _ (fun h => by simp at h) ?_
      clear hK hgc
      refine scr_end ?_
      simp only [Exit.then]
      have e14 : (i + 1) * 5 = i * 5 + 5 := by omega
      rw [e14] at h4
      have hq4 : w4.heap[q]? = some (.cells cs.toArray T (0, 0)) := (g4.block q hqlt (fun e => hqg (Option.some.inj e))).trans hq'.out
      have hcl2 : cur.toList.length = cap * 5 := by rw [Array.length_toList]; exact hcz'.out
      have hsl := shift_list (cur := cur.toList) (xs := xs) (V := cs) (a := i * 5) (L := n * 5) (s := 5) hct'.out (Nat.mul_le_mul_right 5 hi) hcl'.out (by rw [hcl2]; have := Nat.mul_le_mul_right 5 hroom; omega)
      have h4' := Lib.hid h4
      have hsl' := Lib.hid hsl
      have g4' := Lib.hid g4
      have hcl2' := Lib.hid hcl2
      have hfit4 : i * 5 + cs.length ≤ (cur.toList.take (i * 5 + 5) ++ xs.drop (i * 5) ++ cur.toList.drop (i * 5 + 5 + (xs.drop (i * 5)).length)).toArray.size := by
        have h2 := hsl.2
        have := Nat.mul_le_mul_right 5 hroom
        simp only [List.length_append, List.length_take, List.length_drop, List.size_toArray] at h2 ⊢
        have hc := hcl'.out
        have hx := hxl'.out
        omega
      have hfit' := Lib.hid hfit4
      clear h4 hsl g4 hfit4 hcl2 hdl e14 hov
      go_wp2_with (refine wpL_copyN rfl _ _ _ _ rfl Tryz.underlying122 hsz (off := i * 5) (dLen := n + 1 - i) (dCap := cap - i) (ad := ⟨q, 0, none⟩) (sLen := 1) (sCap := 1) (by first | rfl | (go_simp; try rfl)) (by first | rfl | (go_simp; try rfl)) (t := 183) h4'.out cs (by rw [hcl'.out]; simp only [Nat.min_def]; split <;> omega) (fun j y hj => by
          have e1 : (⟨q, 0, none⟩ : Addr).add j = ⟨q, j, none⟩ := by unfold Addr.add; split <;> simp_all
          rw [e1, cells_of hq4]
          simpa using hj) hfit'.out hc1'.out ?_; intro w5 h5 g5)
      refine hR'.out w5 (.slice (some ⟨g, 0, none⟩) (n + 1) cap) ⟨?_, .inr ⟨g, cap, _, rfl, Nat.zero_le _, h5, hroom, hcm'.out, ?_, ?_⟩⟩ (World.grownBy.ext_trans (Ext.refl w).drew (g4'.out.trans g5)) (by simp) (fun k hk => .inl hk)
      · simp only [List.length_append, List.length_take, List.length_drop, hcl'.out, hxl'.out]
        have := Nat.mul_le_mul_right 5 hi
        omega
      · rw [List.size_toArray]
        exact hsl'.out.2.trans hcl2'.out
      · rw [show (n + 1) * 5 = n * 5 + 5 by omega]
        exact hsl'.out.1
    · have hcn : cap = n := by omega
      subst hcn
      have hgt : decide ((cap : Int) < (cap : Int) + 1) = true := decide_eq_true (by omega)
      have hgt2 : (cap : Int) < (cap : Int) + 1 := by omega
      have hsz : (Tryz.prog.info? 183).map (·.size) = some 5 := by kernel_rfl
      have b9 : (i : Int) ≤ (cap : Int) + 1 := by omega
      have b10 : (i : Int) + 1 ≤ (cap : Int) + 1 := by omega
      have b11 : (0 : Int) ≤ (i : Int) + 1 := by omega
      have b12 : ((i : Int) + 1).toNat = i + 1 := by omega
      have b13 : ((cap : Int) + 1).toNat = cap + 1 := by omega
      have hw3 : IntKind.i64.wrap ((cap : Int) + 1 - (i : Int)) = (cap : Int) + 1 - (i : Int) := IntWalk.i64_in _ (by have := maxLen_eq; omega)
      have hol : (xs.take (i * 5)).length = i * 5 := by rw [List.length_take, hxl]; have := Nat.mul_le_mul_right 5 hi; omega
      have hgc : ∀ j y, xs[j]? = some y → w.cell? ⟨g, j, none⟩ = some y := fun j y hj => by
        rw [cells_of hg]
        rw [← hct, List.getElem?_take] at hj
        split at hj
        · simpa using hj
        · cases hj
      have hgc' := Lib.hid hgc
      have hol' := Lib.hid hol
      have hglt := (Array.getElem?_eq_some_iff.1 hg).1
      have b6 : (i : Int) ≤ (cap : Int) := by omega
      have b8 : ¬ cap = i := by omega
      clear hown hxl hcl h63 hb48 hbytes hg hcm hcz hct hgc hol hov
      go_enter Tryz.func182, Tryz.ntmps182
      go_wp2_with (first | (at_builtin; refine wpL_growZ rfl _ _ _ _ rfl (kq := .i64) (k := cap + 1 - i) Tryz.underlying122 Tryz.underlying3 Tryz.info183 rfl (by decide) (xs.take (i * 5)) rfl (by show Value.int .i64 ((cap : Int) + 1 - (i : Int)) = _; congr 1; omega) hol'.out (fun j y hj => hgc'.out j y (by rw [List.getElem?_take] at hj; split at hj; exact hj; cases hj)) (by omega) (by omega) (by rw [show i + (cap + 1 - i) = cap + 1 by omega]; exact hb48'.out) (by rw [show i + (cap + 1 - i) = cap + 1 by omega]; exact h63'.out) ?_; rw [show i + (cap + 1 - i) = cap + 1 by omega]; intro w1 G cur1 hB hG1 hG2 hsz1 htk1 hE1; have hGi : ¬ G = i := (by omega); have hGi1 : ¬ G = i + 1 := (by omega); have hB' := Lib.hid hB; have hsz1' := Lib.hid hsz1; have htk1' := Lib.hid htk1; have hG1' := Lib.hid hG1; have hG2' := Lib.hid hG2; clear hB hsz1 htk1 hG1 hG2) | (refine wpL_copyN rfl _ _ _ _ rfl Tryz.underlying122 hsz (g := w.heap.size) (off := i * 5) (dLen := cap + 1 - i) (dCap := G - i) (ad := ⟨q, 0, none⟩) (sLen := 1) (sCap := 1) (by first | rfl | (go_simp; try rfl)) (by first | rfl | (go_simp; try rfl)) (t := 183) hB'.out cs (by rw [hcl'.out]; simp only [Nat.min_def]; split <;> omega) (fun j y hj => hE1.keep (hqc'.out j y hj)) (by rw [hcl'.out, hsz1'.out]; have := Nat.mul_le_mul_right 5 (show i + 1 ≤ G by have := hG1'.out; omega); omega) hc1'.out ?_; intro w2 h2 g2))
      refine wp_region_script [0, 1, 2, 3, 4, 5, 6, 7] [] (fun w' => Ext w2 w') [(.pure, 0), (.pure, 1), (.pure, 2), (.pure, 3), (.pure, 4), (.pure, 5), (.pure, 6), (.pure, 7), (.one, 8)] (by kernel_rfl) (by kernel_rfl) ?_
      iterate 8 (apply scr_pure'; (· rfl); (· rfl); (· (intro w'; go_simp; try rfl)); (· (simp [go_sem]; try rfl)))
      refine scr_one rfl rfl (fun K hK => ?_)
      have hdl : (xs.drop (i * 5)).length = (cap - i) * 5 := by rw [List.length_drop, hxl'.out, Nat.sub_mul]
      have hE2 : Ext w w2 := hE1.grown g2 (fun k hk => by cases hk; exact Nat.le_refl _)
      have e14 : (i + 1) * 5 = i * 5 + 5 := by omega
      have hcl1 : cur1.toList.length = G * 5 := by rw [Array.length_toList]; exact hsz1'.out
      have hgl := grow_list (cur := cur1.toList) (xs := xs) (V := cs) (a := i * 5) (L := cap * 5) (s := 5) htk1'.out hxl'.out (Nat.mul_le_mul_right 5 hi) hcl'.out (by rw [hcl1]; have := Nat.mul_le_mul_right 5 (show cap + 1 ≤ G by have := hG1'.out; omega); omega)
      have hsz2 : (cur1.toList.take (i * 5) ++ cs ++ cur1.toList.drop (i * 5 + cs.length)).toArray.size = G * 5 := by
        have := Nat.mul_le_mul_right 5 (show i + 1 ≤ G by have := hG1'.out; omega)
        simp only [List.size_toArray, List.length_append, List.length_take, List.length_drop, hcl1, hcl'.out]
        omega
      refine wp_copyN _ _ _ _ rfl Tryz.underlying122 hsz (g := w.heap.size) (off := (i + 1) * 5) (dLen := cap - i) (dCap := G - (i + 1)) (ad := ⟨g, i * 5, none⟩) (sLen := cap - i) (sCap := cap - i) (by go_simp; try rfl) (by go_simp; try rfl) (t := 183) h2 (xs.drop (i * 5)) (by rw [hdl]; congr 1; simp only [Nat.min_def]; split <;> omega)
        (fun j y hj => by
          have e1 : (⟨g, i * 5, none⟩ : Addr).add j = ⟨g, i * 5 + j, none⟩ := by unfold Addr.add; split <;> simp_all
          rw [e1]
          exact (hE2.drew).keep (hgc'.out _ _ (by rwa [List.getElem?_drop] at hj)))
        (by rw [hdl, hsz2, ← Nat.add_mul]; exact Nat.mul_le_mul_right 5 (by have := hG1'.out; omega)) (fun y hy => hx1'.out y (List.mem_of_mem_drop hy)) ?_
      intro w4 h4 g4
      refine hK _ _ (fun h => by simp at h) ?_
      clear hK
      refine scr_end ?_
      simp only [Exit.then]
      rw [e14] at h4
      have hE4 : Ext w w4 := hE2.drew.grown g4 (fun k hk => by cases hk; exact Nat.le_refl _)
      have h4' := Lib.hid h4
      have hgl' := Lib.hid hgl
      have hcl1' := Lib.hid hcl1
      clear h4 hgl hcl1 hsz2 hdl e14 h2 g2 g4
      go_wp2_with fail
      refine hR'.out w4 (.slice (some ⟨w.heap.size, 0, none⟩) (cap + 1) G) ⟨?_, .inr ⟨w.heap.size, G, _, rfl, Nat.zero_le _, h4'.out, by have := hG1'.out; omega, hG2'.out, ?_, ?_⟩⟩ (World.grownBy.ext_trans hE4 (World.grownBy_self w4 _)) (by simp) (fun k hk => .inr (by cases hk; exact Nat.le_refl _))
      · simp only [List.length_append, List.length_take, List.length_drop, hcl'.out, hxl'.out]
        have := Nat.mul_le_mul_right 5 hi
        omega
      · rw [List.size_toArray]
        exact hgl'.out.2.trans hcl1'.out
      · rw [show (cap + 1) * 5 = cap * 5 + 5 by omega]
        exact hgl'.out.1

theorem insertN_c {w : World} {X : List Nat} {v : Value} {us : List (PEl × Nat)} {q : Nat} {cs : List Value} {T : TypeId} {u : PEl × Nat} {i : Nat} (hrow : Row kBk 183 w X v us) (hX : Old X w) (hq : w.heap[q]? = some (.cells cs.toArray T (0, 0)))
    (hu : kBk.is w (vb v ++ X) cs u) (hqv : v.ownBlock ≠ some q) (hi : i ≤ us.length) (hbytes : (us.length + 1) * 40 ≤ 140737488351232) (R : Ending → World → Prop)
    (hR : ∀ w' v', Row kBk 183 w' X v' (us.take i ++ u :: us.drop i) → w.grownBy w' v.ownBlock → v' ≠ .slice none 0 0 → (∀ g, v'.ownBlock = some g → v.ownBlock = some g ∨ w.heap.size ≤ g) → R (.returned v') w') :
    Calls Tryz.prog 182 #[v, .int .i64 (i : Int), .slice (some ⟨q, 0, none⟩) 1 1] w R := by
  obtain ⟨rows, hown, hall, hnx⟩ := hrow.ex
  exact insertN_own hown hq (kBk.len hu) (kBk.one hu) (Row.flat hall) hqv hi hbytes R (fun w' v' ho hg hne hd => hR w' v' (Row.ins hall hX hnx hu hi ho hg hd) hg hne hd)
end Go.Proofs.YtihapgangilncaaGreat
namespace Go.Proofs.YtihapgangilncaaGreat
open Go.RowKit
set_option linter.unusedSimpArgs false

theorem Row.mutd {α : Type} {k : Kind α} {e : TypeId} {w w' : World} {X Y B : List Nat} {v : Value} {us : List α} (h : Row k e w X v us) (hM : Mut w B w') (hB : ∀ b ∈ B, b ∈ X) (hY : ∀ b ∈ Y, b ∈ X ∨ w.heap.size ≤ b) : Row k e w' Y v us := by
  obtain ⟨rows, h1, h2, h3⟩ := h.ex
  refine ⟨rows, h1.keep fun g hg => hM.block g (h1.lt hg) fun hb => h3 g hg (hB g hb), h2.imp fun _ _ h => k.mv h ⟨hM.size, fun j hj hx => ?_⟩, fun g hg hy => ?_⟩
  · simp only [List.mem_append, not_or] at hx ⊢
    exact ⟨hM.block j hj fun hb => hx.2 (hB j hb), hx.1, fun hy => (hY j hy).elim hx.2 (fun h => by omega)⟩
  · rcases hY g hy with hx | hx
    · exact h3 g hg hx
    · have := h1.lt hg; omega
theorem Store.vm {w : World} {X : List Nat} {n : Nd} (h : Store w X [n]) : Row kPe 89 w (n.b :: (vb n.vc ++ X)) n.vm n.ms := by
  have hn := h.nd
  simp only [bls, List.flatMap_cons, List.flatMap_nil, List.append_nil, Nd.bl, List.nodup_cons, List.nodup_append, List.mem_append, not_or] at hn
  obtain ⟨rows, h1, h2⟩ := (h.each n (by simp)).ms
  refine ⟨rows, h1, h2.imp fun _ _ h => kPe.mv h ((Mv.refl _ _).less fun b hb => ?_), fun g hg hx => ?_⟩
  · simp only [bls, List.flatMap_cons, List.flatMap_nil, List.append_nil, Nd.bl, List.mem_append, List.mem_cons] at hb ⊢
    rcases hb with hb | hb | hb | hb
    · exact .inl (.inr (.inl hb))
    · exact .inl (.inl hb)
    · exact .inl (.inr (.inr hb))
    · exact .inr hb
  · have hgv : g ∈ vb n.vm := by simp [vb, hg]
    simp only [List.mem_append, List.mem_cons] at hx
    rcases hx with hx | hx | hx
    · subst hx; exact hn.1.1 hgv
    · exact hn.2.2.2 g hgv g hx rfl
    · exact h.out g (by simp [bls, Nd.bl, hgv]) hx
theorem Store.vc {w : World} {X : List Nat} {n : Nd} (h : Store w X [n]) : Row kBk 183 w (n.b :: (vb n.vm ++ X)) n.vc n.ks := by
  have hn := h.nd
  simp only [bls, List.flatMap_cons, List.flatMap_nil, List.append_nil, Nd.bl, List.nodup_cons, List.nodup_append, List.mem_append, not_or] at hn
  obtain ⟨rows, h1, h2⟩ := (h.each n (by simp)).ks
  refine ⟨rows, h1, h2.imp fun _ _ h => kBk.mv h ((Mv.refl _ _).less fun b hb => ?_), fun g hg hx => ?_⟩
  · simp only [bls, List.flatMap_cons, List.flatMap_nil, List.append_nil, Nd.bl, List.mem_append, List.mem_cons] at hb ⊢
    rcases hb with hb | hb | hb | hb
    · exact .inl (.inr (.inr hb))
    · exact .inl (.inl hb)
    · exact .inl (.inr (.inl hb))
    · exact .inr hb
  · have hgv : g ∈ vb n.vc := by simp [vb, hg]
    simp only [List.mem_append, List.mem_cons] at hx
    rcases hx with hx | hx | hx
    · subst hx; exact hn.1.2 hgv
    · exact hn.2.2.2 g hx g hgv rfl
    · exact h.out g (by simp [bls, Nd.bl, hgv]) hx
theorem Store.mk1 {w : World} {X : List Nat} {n : Nd} (hb : w.heap[n.b]? = some (.cells #[n.vm, n.vc] 126 (0, 0))) (hm : Row kPe 89 w (n.b :: (vb n.vc ++ X)) n.vm n.ms) (hk : Row kBk 183 w (n.b :: (vb n.vm ++ X)) n.vc n.ks) (hX : n.b ∉ X) : Store w X [n] := by
  obtain ⟨r1, m1, m2, m3⟩ := hm.ex
  obtain ⟨r2, k1, k2, k3⟩ := hk.ex
  have hvm : ∀ g ∈ vb n.vm, g ∉ n.b :: (vb n.vc ++ X) := fun g hg => m3 g (by simpa [vb] using hg)
  have hvc : ∀ g ∈ vb n.vc, g ∉ n.b :: (vb n.vm ++ X) := fun g hg => k3 g (by simpa [vb] using hg)
  have hone : ∀ v : Value, (vb v).Nodup := fun v => by unfold vb; cases v.ownBlock <;> simp
  refine ⟨?_, fun b hb hx => ?_, fun m hm' => ?_⟩
  · simp only [bls, List.flatMap_cons, List.flatMap_nil, List.append_nil, Nd.bl, List.nodup_cons, List.nodup_append, List.mem_append, not_or]
    exact ⟨⟨fun h => hvm _ h (by simp), fun h => hvc _ h (by simp)⟩, hone _, hone _, fun a ha b hb e => by subst e; exact hvm a ha (by simp [hb])⟩
  · simp only [bls, List.flatMap_cons, List.flatMap_nil, List.append_nil, Nd.bl, List.mem_cons, List.mem_append] at hb
    rcases hb with rfl | hb | hb
    · exact hX hx
    · exact hvm b hb (by simp [hx])
    · exact hvc b hb (by simp [hx])
  · rw [List.mem_singleton.1 hm']
    refine ⟨hb, ⟨r1, m1, m2.imp fun _ _ h => kPe.mv h ((Mv.refl _ _).less fun b hb => ?_)⟩, ⟨r2, k1, k2.imp fun _ _ h => kBk.mv h ((Mv.refl _ _).less fun b hb => ?_)⟩⟩
    · simp only [bls, List.flatMap_cons, List.flatMap_nil, List.append_nil, Nd.bl, List.mem_append, List.mem_cons] at hb ⊢
      rcases hb with (hb | hb | hb) | hb
      · exact .inr (.inl hb)
      · exact .inl hb
      · exact .inr (.inr (.inl hb))
      · exact .inr (.inr (.inr hb))
    · simp only [bls, List.flatMap_cons, List.flatMap_nil, List.append_nil, Nd.bl, List.mem_append, List.mem_cons] at hb ⊢
      rcases hb with (hb | hb | hb) | hb
      · exact .inr (.inl hb)
      · exact .inr (.inr (.inl hb))
      · exact .inl hb
      · exact .inr (.inr (.inr hb))
theorem Store.app {w : World} {X : List Nat} {A B : List Nd} (hA : Store w (bls B ++ X) A) (hB : Store w (bls A ++ X) B) : Store w X (A ++ B) := by
  refine ⟨?_, fun b hb hx => ?_, fun n hn => ?_⟩
  · rw [bls_app]
    exact List.nodup_append.2 ⟨hA.nd, hB.nd, fun a ha b hb e => by subst e; exact hA.out a ha (by simp [hb])⟩
  · rw [bls_app] at hb
    rcases List.mem_append.1 hb with hb | hb
    · exact hA.out b hb (by simp [hx])
    · exact hB.out b hb (by simp [hx])
  · rcases List.mem_append.1 hn with hn | hn
    · refine (hA.each n hn).mv ((Mv.refl _ _).less fun b hb => ?_) fun _ _ => rfl
      simpa [bls_app, or_assoc] using hb
    · refine (hB.each n hn).mv ((Mv.refl _ _).less fun b hb => ?_) fun _ _ => rfl
      simp only [bls_app, List.mem_append] at hb ⊢
      rcases hb with (hb | hb) | hb
      · exact .inr (.inl hb)
      · exact .inl hb
      · exact .inr (.inr hb)
theorem Store.perm {w : World} {X : List Nat} {A B : List Nd} (h : Store w X A) (p : A.Perm B) : Store w X B := by
  have hp : (bls A).Perm (bls B) := p.flatMap_right _
  refine ⟨hp.nodup_iff.1 h.nd, fun b hb => h.out b (hp.mem_iff.2 hb), fun n hn => (h.each n (p.mem_iff.2 hn)).mv ((Mv.refl _ _).less fun b hb => ?_) fun _ _ => rfl⟩
  rcases List.mem_append.1 hb with hb | hb
  · exact List.mem_append_left _ (hp.mem_iff.2 hb)
  · exact List.mem_append_right _ hb

set_option maxRecDepth 100000 in
theorem callFunc_des1 (args : Array Value) (w : World) : (callFunc 181 args).run Tryz.prog w = .ok (.enter 181 args) w := rfl

set_option maxRecDepth 100000 in
set_option maxHeartbeats 1000000 in
theorem desCmp : NodeCmp 181 := by
  refine ⟨?_, callFunc_des1⟩
  intro w cs ds p a b ha hb hp R hR
  obtain ⟨a0, a1, a2, a3, rfl, o0, o1, o2, o3⟩ := kPe_4 ha
  obtain ⟨b0, b1, b2, b3, rfl, u0, u1, u2, u3⟩ := kPe_4 hb
  have ha' := Lib.hid ha
  have hb' := Lib.hid hb
  have hR' := Lib.hid hR
  clear ha hb hR
  simp only [List.cons_append, List.nil_append]
  go_enter Tryz.func181, Tryz.ntmps181
  go_wp2_with fail
  refine abs2 (G := fun wr => Calls _ _ _ wr _) ?_
  intro w1 hE1 hb1 hb2 hs1
  refine peCompare_c (cs := [a0, a1, a2, a3]) (ds := [b0, b1, b2, b3]) (kPe.mv ha'.out (hE1.mv [])) (kPe.mv hb'.out (hE1.mv [])) _ ?_
  intro w2 hE2
  dsimp only
  go_wp2_with fail
  exact hR'.out _ (hE1.trans hE2)

theorem kBk_key {w : World} {X : List Nat} {cs : List Value} {n : PEl × Nat} (h : kBk.is w X cs n) : ∃ pc p, cs = pc ++ [p] ∧ kPe.is w X pc n.1 := by
  obtain ⟨pc, rfl, h⟩ := h
  exact ⟨pc, _, rfl, h⟩
theorem Tryz.info122 : (Tryz.prog.info? 122).map (fun i => (i.zero, i.size, i.bytes)) = some (some (.slice none 0 0), 1, 24) := by kernel_rfl

set_option maxRecDepth 100000 in
set_option maxHeartbeats 8000000 in
set_option pp.maxSteps 1000000 in
set_option pp.deepTerms true in
theorem descend_c {w : World} {X : List Nat} {n : Nd} {cs : List Value} {e : PEl} (hst : Store w X [n]) (hX : Old X w) (he : kPe.is w (n.bl ++ X) cs e) (hmono : ∀ i j (hi : i < (n.ks.map (·.1)).length) (hj : j < (n.ks.map (·.1)).length), i ≤ j → cmpPe (n.ks.map (·.1))[j] e < 0 → cmpPe (n.ks.map (·.1))[i] e < 0)
    (hbytes : (n.ks.length + 1) * 40 ≤ 140737488351232) (R : Ending → World → Prop)
    (hR1 : ∀ w' i (h : i < n.ks.length), Ext w w' → At (n.ks.map (·.1)) e i → HasAt (n.ks.map (·.1)) e i = true → R (.returned (.pointer (some ⟨n.ks[i].2, 0, none⟩))) w')
    (hR2 : ∀ w' i vc c, At (n.ks.map (·.1)) e i → HasAt (n.ks.map (·.1)) e i = false → Store w' X [⟨n.b, n.vm, vc, n.ms, n.ks.take i ++ (e, c) :: n.ks.drop i⟩, ⟨c, .slice none 0 0, .slice none 0 0, [], []⟩] → Mut w n.bl w' → (∀ g ∈ vb vc, g ∈ n.bl ∨ w.heap.size ≤ g) → w.heap.size ≤ c →
      R (.returned (.pointer (some ⟨c, 0, none⟩))) w') :
    Calls Tryz.prog 152 #[.pointer (some ⟨n.b, 1, none⟩), .agg cs.toArray] w R := by
  obtain ⟨a0, a1, a2, a3, rfl, o0, o1, o2, o3⟩ := kPe_4 he
  have hb := (hst.each n (by simp)).cell
  have hrow := hst.vc
  have hrowm := hst.vm
  obtain ⟨nb, vm, vc, ms, ks⟩ := n
  simp only [Nd.bl] at *
  have hkr := KeyRow.ofSl (f := (·.1)) rfl kBk_key (hrow.isSl (bytes := 40) (Nat.le_trans (Nat.mul_le_mul_right _ (Nat.le_succ _)) hbytes))
  have hvo := hrow.one
  have hblt := (Array.getElem?_eq_some_iff.1 hb).1
  have c0 : w.cell? ⟨nb, 1, none⟩ = some vc := by rw [cells_of hb]; rfl
  have hbX : nb ∉ X := hst.out nb (by simp [bls, Nd.bl])
  have hkr' := Lib.hid hkr
  have hb' := Lib.hid hb
  have hrow' := Lib.hid hrow
  have hrowm' := Lib.hid hrowm
  have hX' := Lib.hid hX
  have he' := Lib.hid he
  have hm' := Lib.hid hmono
  have hbytes' := Lib.hid hbytes
  have hR1' := Lib.hid hR1
  have hR2' := Lib.hid hR2
  have hbX' := Lib.hid hbX
  have hst' := Lib.hid hst
  clear hb hrow hX he hmono hbytes hR1 hR2 hkr hrowm hst hbX
  go_enter Tryz.func152, Tryz.ntmps152
  go_wp2_with fail
  refine abs1 (G := fun wr => Code.wp _ _ _ _ wr) ?_
  intro w1 hE1 hb1 hs1
  have e0 : w1.cell? ⟨w.heap.size, 0, none⟩ = some (a0) := cells_of hb1 0; have e1 : w1.cell? ⟨w.heap.size, 1, none⟩ = some (a1) := cells_of hb1 1; have e2 : w1.cell? ⟨w.heap.size, 2, none⟩ = some (a2) := cells_of hb1 2; have e3 : w1.cell? ⟨w.heap.size, 3, none⟩ = some (a3) := cells_of hb1 3
  replace c0 := hE1.keep c0
  clear hb1 hs1
  refine wp_region_script [0, 1, 2, 3, 4, 6, 7, 8, 9, 10] [] (fun w' => Ext w1 w') [(.pure, 0), (.pure, 1), (.pure, 2), (.read, 3), (.read, 4), (.one, 5), (.pure, 6), (.pure, 7), (.pure, 8), (.pure, 9), (.pure, 10)] (by kernel_rfl) (by kernel_rfl) ?_
  have hC : Ext w1 w1.drew := (Ext.refl _).drew
  iterate 3 (apply scr_pure'; (· rfl); (· rfl); (· (intro w'; go_simp; try rfl)); (· (simp [go_sem]; try rfl)))
  (apply scr_read'; (· rfl); (· rfl); (· first | exact hC | exact (Ext.refl _).drew); (· (intro w' hw'; have c0_ := hw'.keep c0; go_simp; try rfl)); (· (simp [go_sem]; try rfl)))
  (apply scr_read'; (· rfl); (· rfl); (· first | exact hC | exact (Ext.refl _).drew); (· (intro w' hw'; have e0_ := hw'.keep e0; have e1_ := hw'.keep e1; have e2_ := hw'.keep e2; have e3_ := hw'.keep e3; go_simp; try rfl)); (· (simp [go_sem]; try rfl)))
  refine scr_one rfl rfl (fun K hK => ?_)
  go_simp
  refine bsearchN_c desCmp (cs := [a0, a1, a2, a3]) (t := e) (hkr'.out.ext (hE1.trans hC)) (kPe.mv (kPe.mv he'.out ((Mv.refl w _).less (Z := []) (by simp))) ((hE1.trans hC).mv [])) hm'.out _ ?_
  intro w2 i hE2 hat
  have hE12 := hC.trans hE2
  refine hK _ _ (fun h => by simp at h) ?_
  clear hK
  obtain ⟨fb, hfb⟩ : ∃ q, HasAt (ks.map (·.1)) e i = q := ⟨_, rfl⟩
  rw [hfb]
  have hfb' := Lib.hid hfb
  have hat' := Lib.hid hat
  clear hfb hat
  iterate 5 (apply scr_pure'; (· rfl); (· rfl); (· (intro w'; go_simp; try rfl)); (· (simp [go_sem]; try rfl)))
  refine scr_end ?_
  simp only [Exit.then]
  replace c0 := hE12.keep c0; replace e0 := hE12.keep e0; replace e1 := hE12.keep e1; replace e2 := hE12.keep e2; replace e3 := hE12.keep e3
  replace hE1 := hE1.trans hE12
  clear hE2 hE12 hC
  cases fb
  · go_wp2_with fail
    refine wp_region_script [0, 1, 2, 3, 4, 5, 6, 7, 9, 12, 13] [8, 10] (fun w' => Ext w2 w') [(.pure, 0), (.pure, 1), (.pure, 2), (.pure, 3), (.read, 4), (.pure, 5), (.read, 6), (.pure, 7), (.one, 8), (.pure, 9), (.one, 10), (.one, 11), (.pure, 12), (.pure, 13), (.one, 14)] (by kernel_rfl) (by kernel_rfl) ?_
    have hC : Ext w2 w2.drew := (Ext.refl _).drew
    iterate 4 (apply scr_pure'; (· rfl); (· rfl); (· (intro w'; go_simp; try rfl)); (· (simp [go_sem]; try rfl)))
    (apply scr_read'; (· rfl); (· rfl); (· first | exact hC | exact (Ext.refl _).drew); (· (intro w' hw'; have c0_ := hw'.keep c0; go_simp; try rfl)); (· (simp [go_sem]; try rfl)))
    (apply scr_pure'; (· rfl); (· rfl); (· (intro w'; go_simp; try rfl)); (· (simp [go_sem]; try rfl)))
    (apply scr_read'; (· rfl); (· rfl); (· first | exact hC | exact (Ext.refl _).drew); (· (intro w' hw'; have e0_ := hw'.keep e0; have e1_ := hw'.keep e1; have e2_ := hw'.keep e2; have e3_ := hw'.keep e3; go_simp; try rfl)); (· (simp [go_sem]; try rfl)))
    (apply scr_pure'; (· rfl); (· rfl); (· (intro w'; go_simp; try rfl)); (· (simp [go_sem]; try rfl)))
    refine scr_one rfl rfl (fun K hK => ?_)
    go_simp
    refine hK _ _ (fun _ => hC.push _) ?_
    clear hK
    (apply scr_pure'; (· rfl); (· rfl); (· (intro w'; go_simp; try rfl)); (· (simp [go_sem]; try rfl)))
    refine scr_one rfl rfl (fun K hK => ?_)
    go_simp
    refine hK _ _ (fun _ => (hC.push _).push _) ?_
    clear hK
    refine scr_one rfl rfl (fun K hK => ?_)
    go_simp
    have hEW : Ext w ((w2.alloc (.cells #[.slice none 0 0, .slice none 0 0] 126)).alloc (.cells #[a0, a1, a2, a3, .pointer (some ⟨w2.heap.size, 0, none⟩)] 183)).drew := ((hE1.push _).push _).drew
    obtain ⟨W, hW⟩ : ∃ W, ((w2.alloc (.cells #[.slice none 0 0, .slice none 0 0] 126)).alloc (.cells #[a0, a1, a2, a3, .pointer (some ⟨w2.heap.size, 0, none⟩)] 183)).drew = W := ⟨_, rfl⟩
    have hcW : W.heap[w2.heap.size]? = some (.cells #[.slice none 0 0, .slice none 0 0] 126 (0, 0)) := by
      rw [← hW]
      exact (push_get _ _ _).trans ((if_neg (by simp)).trans ((push_get _ _ _).trans (if_pos rfl)))
    have hqW : W.heap[w2.heap.size + 1]? = some (.cells #[a0, a1, a2, a3, .pointer (some ⟨w2.heap.size, 0, none⟩)] 183 (0, 0)) := by
      rw [← hW]
      exact (push_get _ _ _).trans (if_pos (by simp))
    have hcl := (Array.getElem?_eq_some_iff.1 hcW).1
    rw [hW] at hEW ⊢
    obtain ⟨c, hcc⟩ : ∃ c, w2.heap.size = c := ⟨_, rfl⟩
    rw [hcc] at hcW hqW hcl ⊢
    have hwc : w.heap.size ≤ c := by rw [← hcc]; exact hE1.size
    have hqv : vc.ownBlock ≠ some (c + 1) := fun e => by have := hrow'.out.lt e; omega
    have hrowW : Row kBk 183 W (c :: nb :: (vb vm ++ X)) vc ks := hrow'.out.mutd (hEW.mut []) (by simp) (fun b hb => by
      rcases List.mem_cons.1 hb with rfl | hb
      · exact .inr hwc
      · exact .inl hb)
    have hoW : Old (c :: nb :: (vb vm ++ X)) W := fun b hb => by
      rcases List.mem_cons.1 hb with rfl | hb
      · exact hcl
      rcases List.mem_cons.1 hb with rfl | hb
      · exact Nat.lt_of_lt_of_le hblt hEW.size
      rcases List.mem_append.1 hb with hb | hb
      · exact Nat.lt_of_lt_of_le (hrowm'.out.lt (by simpa [vb] using hb)) hEW.size
      · exact Nat.lt_of_lt_of_le (hX'.out b hb) hEW.size
    refine insertN_c (X := c :: nb :: (vb vm ++ X)) (cs := [a0, a1, a2, a3, .pointer (some ⟨c, 0, none⟩)]) (u := (e, c)) hrowW hoW hqW ⟨[a0, a1, a2, a3], rfl, kPe.mv he'.out ⟨hEW.size, fun k hk hx => ⟨hEW.below.block k hk, fun hy => ?_⟩⟩⟩ hqv (by have := hat'.out.1; simpa using this) hbytes'.out _ ?_
    · simp only [List.mem_append, List.mem_cons, not_or] at hx hy
      rcases hy with hy | hy | hy | hy | hy
      · exact hx.1.2.2 hy
      · omega
      · exact hx.1.1 hy
      · exact hx.1.2.1 hy
      · exact hx.2 hy
    intro w3 vc' hrow3 hg3 hne3 hd3
    have hvo3 := hrow3.one
    have hb3 : w3.heap[nb]? = some (.cells #[vm, vc] 126 (0, 0)) := (hg3.block nb (Nat.lt_of_lt_of_le hblt hEW.size) (hrowW.notin (by simp))).trans ((hEW.below.block nb hblt).trans hb'.out)
    have hc3 : w3.heap[c]? = some (.cells #[.slice none 0 0, .slice none 0 0] 126 (0, 0)) := (hg3.block c hcl (hrowW.notin (by simp))).trans hcW
    have hrow3' := Lib.hid hrow3
    have hd3' := Lib.hid hd3
    have hg3' := Lib.hid hg3
    have hEW' := Lib.hid hEW
    have hc3' := Lib.hid hc3
    have hwc' := Lib.hid hwc
    clear hrow3 hd3 hg3 hEW hqW hW hqv hcW hrowW hoW hc3 hne3 c0 e0 e1 e2 e3 hC hE1 hcc hcl hwc
    refine hK _ _ (fun h => by simp at h) ?_
    clear hK
    iterate 2 (apply scr_pure'; (· rfl); (· rfl); (· (intro w'; go_simp; try rfl)); (· (simp [go_sem]; try rfl)))
    refine scr_one rfl rfl (fun K hK => ?_)
    refine wp_storeC (b := nb) (off := 1) 122 _ _ rfl Tryz.info122 (v := vc') (new := #[vm, vc']) (by go_simp) (by go_simp) hvo3 hb3 (by simp) rfl ?_
    intro w4 h4 g4
    refine hK _ _ (fun h => by simp at h) ?_
    clear hK
    refine scr_end ?_
    simp only [Exit.then]
    have hrow4 := hrow3'.out.keep g4 (by simp)
    have hM4 : Mut w (nb :: vb vc) w4 := ins_mut hEW'.out hg3'.out g4
    have c4 : w4.cell? ⟨nb, 1, none⟩ = some vc' := cells_of h4 1
    have hc4 : w4.heap[c]? = some (.cells #[.slice none 0 0, .slice none 0 0] 126 (0, 0)) := (g4.block c (Array.getElem?_eq_some_iff.1 hc3'.out).1 (fun e => by cases e; exact absurd hblt (by have := hwc'.out; omega))).trans hc3'.out
    have hil : i ≤ ks.length := by have := hat'.out.1; simpa using this
    have hsl := hrow4.isSl (bytes := 40) (by simp only [List.length_append, List.length_take, List.length_cons, List.length_drop]; have := hbytes'.out; omega)
    have hlen : (ks.take i ++ (e, c) :: ks.drop i).length = ks.length + 1 := by simp; omega
    obtain ⟨o, cc, b, off, hv, -, -, l4, l5⟩ := hsl.ex
    rw [hlen] at hv
    have hin : i < (ks.take i ++ (e, c) :: ks.drop i).length := by omega
    obtain ⟨rfl, -⟩ := l4 (by omega)
    obtain ⟨ds, hdc, hds⟩ := l5 i hin
    have hgi : (ks.take i ++ (e, c) :: ks.drop i)[i]'hin = (e, c) := by
      rw [List.getElem_append_right (by simp; omega)]
      simp [Nat.min_eq_left hil]
    rw [hgi] at hds
    obtain ⟨pc, rfl, hpc⟩ := hds
    have hpl := kPe.len hpc
    have q4 := hdc 4 (by decide)
    rw [List.getElem?_append_right (by rw [hpl]; decide), hpl] at q4
    simp [show kBk.size = 5 from rfl, show kPe.size = 4 from rfl] at q4
    have hrow4' := Lib.hid hrow4
    have hM4' := Lib.hid hM4
    have h4' := Lib.hid h4
    have hc4' := Lib.hid hc4
    have hi1 : (i : Int) < (ks.length : Int) + 1 := by omega
    clear hrow4 hM4 h4 hc4 hsl hlen l4 l5 hdc hpc hpl hgi hin hb3 g4 hvo3
    subst hv
    go_wp2_with fail
    have hvc4 : ∀ g ∈ vb (.slice (some ⟨b, off, none⟩) (ks.length + 1) cc), g ∈ vb vc ∨ w.heap.size ≤ g := fun g hg => by
      rcases hd3'.out g (by simpa [vb] using hg) with h | h
      · exact .inl (by simpa [vb] using h)
      · exact .inr (Nat.le_trans hEW'.out.size h)
    have hcX : c ∉ X := fun h => by have := hX'.out c h; have := hwc'.out; omega
    have hcb : c ≠ nb := fun h => by have := hwc'.out; omega
    have hcm : c ∉ vb vm := fun h => by have := hrowm'.out.lt (show vm.ownBlock = some c by simpa [vb] using h); have := hwc'.out; omega
    have hcv : c ∉ vb (.slice (some ⟨b, off, none⟩) (ks.length + 1) cc) := fun h => hrow4'.out.notin (b := c) (by simp) (by simp only [vb, Value.ownBlock, Option.toList_some, List.mem_singleton] at h; rw [h]; rfl)
    refine hR2'.out w4 i _ c hat'.out hfb'.out (Store.app (A := [_]) (B := [_]) (Store.mk1 h4'.out (hrowm'.out.mutd hM4'.out (fun g hg => by simp only [List.mem_cons, List.mem_append] at hg ⊢; exact hg.imp id .inl) fun g hg => ?_) (hrow4'.out.less fun g hg => ?_) ?_) (Store.mk1 hc4'.out (Row.nil _ _ _ _) (Row.nil _ _ _ _) ?_)) ?_ ?_ hwc'.out
    · simp only [bls, List.flatMap_cons, List.flatMap_nil, List.append_nil, Nd.bl, List.mem_cons, List.mem_append] at hg ⊢
      rcases hg with hg | hg | hg | hg
      · exact .inl (.inl hg)
      · exact (hvc4 g hg).imp (fun h => .inr (.inl h)) id
      · rcases hg with hg | hg
        · exact .inr (hg ▸ hwc'.out)
        · simp [vb, Value.ownBlock] at hg
      · exact .inl (.inr (.inr hg))
    · simp only [bls, List.flatMap_cons, List.flatMap_nil, List.append_nil, Nd.bl, List.mem_cons, List.mem_append] at hg ⊢
      rcases hg with hg | hg | hg | hg
      · exact .inr (.inl hg)
      · exact .inr (.inr (.inl hg))
      · rcases hg with hg | hg
        · exact .inl hg
        · simp [vb, Value.ownBlock] at hg
      · exact .inr (.inr (.inr hg))
    · simp only [bls, List.flatMap_cons, List.flatMap_nil, List.append_nil, Nd.bl, List.mem_cons, List.mem_append, not_or]
      exact ⟨⟨fun h => hcb h.symm, by simp [vb, Value.ownBlock]⟩, hbX'.out⟩
    · simp only [bls, List.flatMap_cons, List.flatMap_nil, List.append_nil, Nd.bl, List.mem_cons, List.mem_append, not_or]
      exact ⟨⟨hcb, hcm, hcv⟩, hcX⟩
    · exact hM4'.out.more fun g hg => by
        simp only [List.mem_cons, List.mem_append] at hg ⊢
        exact hg.imp id .inr
    · intro g hg
      simp only [List.mem_cons, List.mem_append]
      exact (hvc4 g hg).imp (fun h => .inr (.inr h)) id
  · have hin : i < ks.length := by
      have h := hfb'.out
      unfold HasAt at h
      rcases Nat.lt_or_ge i (ks.map (·.1)).length with h1 | h1
      · simpa using h1
      · rw [List.getElem?_eq_none h1] at h; cases h
    have hsl := (hrow'.out.isSl (bytes := 40) (Nat.le_trans (Nat.mul_le_mul_right _ (Nat.le_succ _)) hbytes'.out)).mv (hE1.mv _) (by decide)
    obtain ⟨o, cc, b, off, hv, -, -, l4, l5⟩ := hsl.ex
    obtain ⟨rfl, -⟩ := l4 (by omega)
    obtain ⟨ds, hdc, hds⟩ := l5 i hin
    obtain ⟨pc, rfl, hpc⟩ := hds
    have hpl := kPe.len hpc
    have q4 := hdc 4 (by decide)
    rw [List.getElem?_append_right (by rw [hpl]; decide), hpl] at q4
    simp [show kBk.size = 5 from rfl, show kPe.size = 4 from rfl] at q4
    have hi1 : (i : Int) < (ks.length : Int) := by omega
    have hE1' := Lib.hid hE1
    clear hsl l4 l5 hdc hpc hpl hE1
    subst hv
    go_wp2_with fail
    exact hR1'.out w2 i hin hE1'.out hat'.out hfb'.out
end Go.Proofs.YtihapgangilncaaGreat
