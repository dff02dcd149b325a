/- slices.Insert of one path element into a row of the function's own. -/
import Derived.Test.YtihapgangilncaaGreatKGElemP
import Derived.Test.YtihapgangilncaaGreatKGInsL
import Derived.Laws.Externs
namespace Go.Proofs.YtihapgangilncaaGreat
open Go.RowKit
set_option linter.unusedSimpArgs false

theorem kPe_4 {w : World} {X : List Nat} {cs : List Value} {e : PEl} (h : kPe.is w X cs e) : ∃ a0 a1 a2 a3, cs = [a0, a1, a2, a3] ∧ a0.oneCell' = true ∧ a1.oneCell' = true ∧ a2.oneCell' = true ∧ a3.oneCell' = true := by
  have h1 := kPe.one h
  cases e <;> (obtain ⟨p, rfl, -⟩ := h; exact ⟨_, _, _, _, rfl, h1 _ (by simp), h1 _ (by simp), h1 _ (by simp), h1 _ (by simp)⟩)

theorem All2.glue {α β : Type} {R : α → β → Prop} : ∀ {l l2 : List α} {m m2 : List β}, All2 R l m → All2 R l2 m2 → All2 R (l ++ l2) (m ++ m2)
  | [], _, [], _, .nil, h => h
  | _ :: _, _, _ :: _, _, .cons h t, h2 => .cons h (All2.glue t h2)
theorem All2.mem_len {α : Type} {R : List Value → α → Prop} {s : Nat} (hR : ∀ r a, R r a → r.length = s) : ∀ {l : List (List Value)} {m : List α}, All2 R l m → ∀ r ∈ l, r.length = s
  | _, _, .nil, r, h => by cases h
  | _, _, .cons h t, r, hr => by
    rcases List.mem_cons.1 hr with rfl | hr
    · exact hR _ _ h
    · exact All2.mem_len hR t r hr

/-- what a row is once an element was put into it, at whatever place -/
theorem Row.ins {α : Type} {k : Kind α} {e : TypeId} {w w4 : World} {X : List Nat} {v v' : Value} {us : List α} {u : α} {cs : List Value} {rows : List (List Value)} {i : Nat} (h2 : All2 (k.is w (vb v ++ X)) rows us) (hX : Old X w)
    (h3 : ∀ g, v.ownBlock = some g → g ∉ X) (hu : k.is w (vb v ++ X) cs u) (hi : i ≤ us.length)
    (ho : Own w4 e k.size v' (us.length + 1) (rows.flatten.take (i * k.size) ++ cs ++ rows.flatten.drop (i * k.size))) (hg : w.grownBy w4 v.ownBlock) (hd : ∀ g, v'.ownBlock = some g → v.ownBlock = some g ∨ w.heap.size ≤ g) :
    Row k e w4 X v' (us.take i ++ u :: us.drop i) := by
  have hmv : Mv w (vb v ++ X) w4 (vb v' ++ X) := Mv.app hg hd
  have hl := All2.mem_len (s := k.size) (fun r a h => k.len h) h2
  refine ⟨rows.take i ++ cs :: rows.drop i, ?_, ?_, ?_⟩
  · rw [flat_take i hl, flat_drop i hl] at ho
    have e1 : (us.take i ++ u :: us.drop i).length = us.length + 1 := by simp; omega
    rw [e1]
    simpa using ho
  · exact ((h2.take i).imp fun _ _ h => k.mv h hmv).glue (.cons (k.mv hu hmv) ((h2.drop i).imp fun _ _ h => k.mv h hmv))
  · intro g hg' hx
    rcases hd g hg' with h | h
    · exact h3 g h hx
    · have := hX g hx; omega

theorem World.grownBy_self (w : World) (r : Option Nat) : w.grownBy w r := ⟨rfl, rfl, rfl, Nat.le_refl _, fun _ _ _ => rfl⟩
theorem shape_of {w : World} {b : Nat} {c : Array Value} {T : TypeId} {fr : Nat × Nat} (h : w.heap[b]? = some (.cells c T fr)) : w.shape? b = some (T, c.size) := by
  simp [World.shape?, h]
theorem frozen_of {w : World} {b k : Nat} {c : Array Value} {T : TypeId} (h : w.heap[b]? = some (.cells c T (0, 0))) : w.frozen? ⟨b, k, none⟩ = false := by
  simp [World.frozen?, h]

set_option maxRecDepth 100000 in
theorem overlaps_no {w : World} {q g o : Nat} {cq cg : Array Value} {T e : TypeId} (hq : w.heap[q]? = some (.cells cq T (0, 0))) (hg : w.heap[g]? = some (.cells cg e (0, 0))) (hne : q ≠ g) (hsz : cg.size ≠ 0) (la ca lb cb : Nat) :
    (callFunc 148 #[.slice (some ⟨q, 0, none⟩) la ca, .slice (some ⟨g, o, none⟩) lb cb]).run Tryz.prog w = .ok (.value (.bool false)) w := by
  rw [run_callFunc_extern Tryz.func148 (by kernel_rfl) (by kernel_rfl) (by kernel_rfl) (e := Extern.SlicesOverlaps.overlaps #[78, 78] #[4]) (by kernel_rfl),
    Lib.run_overlaps_apart w 78 4 89 Tryz.underlying78 4 (fun _ => by kernel_rfl) ⟨q, 0, none⟩ ⟨g, o, none⟩ la ca lb cb hne T e _ _ (shape_of hq) (shape_of hg) hsz (frozen_of hq) (frozen_of hq)]
  rfl

set_option maxRecDepth 100000 in
set_option maxHeartbeats 8000000 in
set_option pp.maxSteps 1000000 in
set_option pp.deepTerms true in
theorem insert_own {w : World} {v : Value} {n q i : Nat} {xs cs : List Value} {T : TypeId} (hown : Own w 89 4 v n xs) (hq : w.heap[q]? = some (.cells cs.toArray T (0, 0)))
    (hcl : cs.length = 4) (hc1 : ∀ y ∈ cs, y.oneCell' = true) (hx1 : ∀ y ∈ xs, y.oneCell' = true) (hqv : v.ownBlock ≠ some q) (hi : i ≤ n) (hbytes : (n + 1) * 32 ≤ 140737488351232) (R : Ending → World → Prop)
    (hR : ∀ w' v', Own w' 89 4 v' (n + 1) (xs.take (i * 4) ++ cs ++ xs.drop (i * 4)) → w.grownBy w' v.ownBlock → v' ≠ .slice none 0 0 → (∀ g, v'.ownBlock = some g → v.ownBlock = some g ∨ w.heap.size ≤ g) → R (.returned v') w') :
    Calls Tryz.prog 101 #[v, .int .i64 (i : Int), .slice (some ⟨q, 0, none⟩) 1 1] w R := by
  have hxl : xs.length = n * 4 := hown.1
  have hqlt := (Array.getElem?_eq_some_iff.1 hq).1
  have h63 : n + 1 ≤ maxLen := by rw [maxLen_eq]; omega
  have hb48 : (n + 1) * 32 ≤ 140737488355328 := Nat.le_trans hbytes (by decide)
  have hqc : ∀ j y, cs[j]? = some y → w.cell? ((⟨q, 0, none⟩ : Addr).add j) = some y := fun j y hj => by
    have e1 : (⟨q, 0, none⟩ : Addr).add j = ⟨q, j, none⟩ := by unfold Addr.add; split <;> simp_all
    rw [e1, cells_of hq]
    simpa using hj
  have hR' := Lib.hid hR
  have hqc' := Lib.hid hqc
  have hc1' := Lib.hid hc1
  have hx1' := Lib.hid hx1
  have hq' := Lib.hid hq
  have hown' := Lib.hid hown
  clear hR hqc hc1 hx1 hq
  by_cases hin : i = n
  · subst hin
    have ht : xs.take (i * 4) = xs := List.take_of_length_le (by omega)
    have hd : xs.drop (i * 4) = [] := List.drop_eq_nil_of_le (by omega)
    rw [ht, hd, List.append_nil] at hR'
    clear ht hd
    have hxl' := Lib.hid hxl
    have hcl' := Lib.hid hcl
    have h63' := Lib.hid h63
    have hb48' := Lib.hid hb48
    have hbytes' := Lib.hid hbytes
    rcases hown.2 with ⟨rfl, rfl⟩ | ⟨g, cap, cur, rfl, -, hg, hnc, hcm, hcz, hct⟩
    · clear hown hxl hcl h63 hb48 hbytes
      go_enter Tryz.func101, Tryz.ntmps101
      go_wp2_with (at_builtin; refine wpL_append2 rfl _ _ _ _ rfl Tryz.underlying79 Tryz.underlying78 Tryz.info89 rfl (by decide) rfl hown'.out cs rfl (by rw [hcl'.out]) hqc'.out hc1'.out h63'.out hb48'.out ?_; intro v' w' h2 h3 h4 h5)
      exact hR'.out w' v' h2 h3 (fun e => by have := (h4.1 e).2; omega) (fun g hg => (h5 g hg).imp id (fun e => Nat.le_of_eq e.symm))
    · have hcm' := Lib.hid hcm
      clear hown hxl hcl h63 hb48 hbytes hg hcm hcz hct
      by_cases hci : cap = i
      · subst hci
        go_enter Tryz.func101, Tryz.ntmps101
        go_wp2_with (at_builtin; refine wpL_append2 rfl _ _ _ _ rfl Tryz.underlying79 Tryz.underlying78 Tryz.info89 rfl (by decide) rfl hown'.out cs rfl (by rw [hcl'.out]) hqc'.out hc1'.out h63'.out hb48'.out ?_; intro v' w' h2 h3 h4 h5)
        exact hR'.out w' v' h2 h3 (fun e => by have := (h4.1 e).2; omega) (fun g hg => (h5 g hg).imp id (fun e => Nat.le_of_eq e.symm))
      · go_enter Tryz.func101, Tryz.ntmps101
        go_wp2_with (at_builtin; refine wpL_append2 rfl _ _ _ _ rfl Tryz.underlying79 Tryz.underlying78 Tryz.info89 rfl (by decide) rfl hown'.out cs rfl (by rw [hcl'.out]) hqc'.out hc1'.out h63'.out hb48'.out ?_; intro v' w' h2 h3 h4 h5)
        exact hR'.out w' v' h2 h3 (fun e => by have := (h4.1 e).2; omega) (fun g hg => (h5 g hg).imp id (fun e => Nat.le_of_eq e.symm))
  · have hlt : i < n := by omega
    have hiI : ((i : Int) == (n : Int)) = false := by rw [beq_eq_false_iff_ne]; omega
    have hw : IntKind.i64.wrap ((n : Int) + 1) = (n : Int) + 1 := IntWalk.i64_in _ (by have := maxLen_eq; omega)
    have hw2 : IntKind.i64.wrap ((i : Int) + 1) = (i : Int) + 1 := IntWalk.i64_in _ (by have := maxLen_eq; omega)
    rcases hown.2 with ⟨rfl, rfl⟩ | ⟨g, cap, cur, rfl, -, hg, hnc, hcm, hcz, hct⟩
    · omega
    have hqg : q ≠ g := fun e => hqv (by rw [e]; rfl)
    have hov := fun (o la ca lb cb : Nat) => overlaps_no (o := o) hq'.out hg hqg (by omega) la ca lb cb
    have hxl' := Lib.hid hxl
    have hcl' := Lib.hid hcl
    have h63' := Lib.hid h63
    have hb48' := Lib.hid hb48
    have hbytes' := Lib.hid hbytes
    have hg' := Lib.hid hg
    have hcz' := Lib.hid hcz
    have hct' := Lib.hid hct
    have hcm' := Lib.hid hcm
    by_cases hroom : n + 1 ≤ cap
    · have hgt : decide ((cap : Int) < (n : Int) + 1) = false := by simp; omega
      have hgt2 : ¬ (cap : Int) < (n : Int) + 1 := by omega
      have b1 : (n : Int) + 1 ≤ (cap : Int) := by omega
      have b2 : (0 : Int) ≤ (n : Int) + 1 := by omega
      have b3 : (i : Int) + 1 ≤ (n : Int) + 1 := by omega
      have b4 : (0 : Int) ≤ (i : Int) + 1 := by omega
      have b5 : (i : Int) ≤ (n : Int) + 1 := by omega
      have b6 : (i : Int) ≤ (n : Int) := by omega
      have b7 : ¬ cap = i + 1 := by omega
      have b8 : ¬ cap = i := by omega
      have b9 : ((i : Int) + 1).toNat = i + 1 := by omega
      have b10 : ((n : Int) + 1).toNat = n + 1 := by omega
      clear hown hxl hcl h63 hb48 hbytes hg hcm hcz hct
      go_enter Tryz.func101, Tryz.ntmps101
      go_wp2_with (simp only [hov])
      refine wp_region_script [0, 1, 2, 3, 4, 5, 6, 7] [] (fun w' => Ext w w') [(.pure, 0), (.pure, 1), (.pure, 2), (.pure, 3), (.pure, 4), (.pure, 5), (.pure, 6), (.pure, 7), (.one, 8)] (by kernel_rfl) (by kernel_rfl) ?_
      iterate 8 (apply scr_pure'; (· rfl); (· rfl); (· (intro w'; go_simp; try rfl)); (· (simp [go_sem]; try rfl)))
      refine scr_one rfl rfl (fun K hK => ?_)
      have hsz : (Tryz.prog.info? 89).map (·.size) = some 4 := by kernel_rfl
      have hdl : (xs.drop (i * 4)).length = (n - i) * 4 := by rw [List.length_drop, hxl'.out, Nat.sub_mul]
      have hgc : ∀ j y, xs[j]? = some y → w.drew.cell? ⟨g, j, none⟩ = some y := fun j y hj => by
        rw [cells_of (w := w.drew) (b := g) hg'.out]
        rw [← hct'.out, List.getElem?_take] at hj
        split at hj
        · simpa using hj
        · cases hj
      refine wp_copyN _ _ _ _ rfl Tryz.underlying79 hsz (off := (i + 1) * 4) (dLen := n - i) (dCap := cap - (i + 1)) (ad := ⟨g, i * 4, none⟩) (sLen := n + 1 - i) (sCap := cap - i) (by go_simp; try rfl) (by go_simp; try rfl) (cur := cur) (t := 89) hg'.out (xs.drop (i * 4)) (by rw [hdl]; congr 1; simp only [Nat.min_def]; split <;> omega)
        (fun j y hj => by
          have e1 : (⟨g, i * 4, none⟩ : Addr).add j = ⟨g, i * 4 + j, none⟩ := by unfold Addr.add; split <;> simp_all
          rw [e1]
          exact hgc _ _ (by rwa [List.getElem?_drop] at hj))
        (by rw [hdl, hcz'.out, ← Nat.add_mul]; exact Nat.mul_le_mul_right 4 (by omega)) (fun y hy => hx1'.out y (List.mem_of_mem_drop hy)) ?_
      intro w4 h4 g4
      refine hK _ _ (fun h => by simp at h) ?_
      clear hK hgc
      refine scr_end ?_
      simp only [Exit.then]
      have e14 : (i + 1) * 4 = i * 4 + 4 := by omega
      rw [e14] at h4
      have hq4 : w4.heap[q]? = some (.cells cs.toArray T (0, 0)) := (g4.block q hqlt (fun e => hqg (Option.some.inj e))).trans hq'.out
      have hcl2 : cur.toList.length = cap * 4 := by rw [Array.length_toList]; exact hcz'.out
      have hsl := shift_list (cur := cur.toList) (xs := xs) (V := cs) (a := i * 4) (L := n * 4) (s := 4) hct'.out (Nat.mul_le_mul_right 4 hi) hcl'.out (by rw [hcl2]; have := Nat.mul_le_mul_right 4 hroom; omega)
      have h4' := Lib.hid h4
      have hsl' := Lib.hid hsl
      have g4' := Lib.hid g4
      have hcl2' := Lib.hid hcl2
      have hfit4 : i * 4 + cs.length ≤ (cur.toList.take (i * 4 + 4) ++ xs.drop (i * 4) ++ cur.toList.drop (i * 4 + 4 + (xs.drop (i * 4)).length)).toArray.size := by
        have h2 := hsl.2
        have := Nat.mul_le_mul_right 4 hroom
        simp only [List.length_append, List.length_take, List.length_drop, List.size_toArray] at h2 ⊢
        have hc := hcl'.out
        have hx := hxl'.out
        omega
      have hfit' := Lib.hid hfit4
      clear h4 hsl g4 hfit4 hcl2 hdl e14 hov
      go_wp2_with (refine wpL_copyN rfl _ _ _ _ rfl Tryz.underlying79 hsz (off := i * 4) (dLen := n + 1 - i) (dCap := cap - i) (ad := ⟨q, 0, none⟩) (sLen := 1) (sCap := 1) (by first | rfl | (go_simp; try rfl)) (by first | rfl | (go_simp; try rfl)) (t := 89) h4'.out cs (by rw [hcl'.out]; simp only [Nat.min_def]; split <;> omega) (fun j y hj => by
          have e1 : (⟨q, 0, none⟩ : Addr).add j = ⟨q, j, none⟩ := by unfold Addr.add; split <;> simp_all
          rw [e1, cells_of hq4]
          simpa using hj) hfit'.out hc1'.out ?_; intro w5 h5 g5)
      refine hR'.out w5 (.slice (some ⟨g, 0, none⟩) (n + 1) cap) ⟨?_, .inr ⟨g, cap, _, rfl, Nat.zero_le _, h5, hroom, hcm'.out, ?_, ?_⟩⟩ (World.grownBy.ext_trans (Ext.refl w).drew (g4'.out.trans g5)) (by simp) (fun k hk => .inl hk)
      · simp only [List.length_append, List.length_take, List.length_drop, hcl'.out, hxl'.out]
        have := Nat.mul_le_mul_right 4 hi
        omega
      · rw [List.size_toArray]
        exact hsl'.out.2.trans hcl2'.out
      · rw [show (n + 1) * 4 = n * 4 + 4 by omega]
        exact hsl'.out.1
    · have hcn : cap = n := by omega
      subst hcn
      have hgt : decide ((cap : Int) < (cap : Int) + 1) = true := decide_eq_true (by omega)
      have hgt2 : (cap : Int) < (cap : Int) + 1 := by omega
      have hsz : (Tryz.prog.info? 89).map (·.size) = some 4 := by kernel_rfl
      have b9 : (i : Int) ≤ (cap : Int) + 1 := by omega
      have b10 : (i : Int) + 1 ≤ (cap : Int) + 1 := by omega
      have b11 : (0 : Int) ≤ (i : Int) + 1 := by omega
      have b12 : ((i : Int) + 1).toNat = i + 1 := by omega
      have b13 : ((cap : Int) + 1).toNat = cap + 1 := by omega
      have hw3 : IntKind.i64.wrap ((cap : Int) + 1 - (i : Int)) = (cap : Int) + 1 - (i : Int) := IntWalk.i64_in _ (by have := maxLen_eq; omega)
      have hol : (xs.take (i * 4)).length = i * 4 := by rw [List.length_take, hxl]; have := Nat.mul_le_mul_right 4 hi; omega
      have hgc : ∀ j y, xs[j]? = some y → w.cell? ⟨g, j, none⟩ = some y := fun j y hj => by
        rw [cells_of hg]
        rw [← hct, List.getElem?_take] at hj
        split at hj
        · simpa using hj
        · cases hj
      have hgc' := Lib.hid hgc
      have hol' := Lib.hid hol
      have hglt := (Array.getElem?_eq_some_iff.1 hg).1
      have b6 : (i : Int) ≤ (cap : Int) := by omega
      have b8 : ¬ cap = i := by omega
      clear hown hxl hcl h63 hb48 hbytes hg hcm hcz hct hgc hol hov
      go_enter Tryz.func101, Tryz.ntmps101
      go_wp2_with (first | (at_builtin; refine wpL_growZ rfl _ _ _ _ rfl (kq := .i64) (k := cap + 1 - i) Tryz.underlying79 Tryz.underlying3 Tryz.info89 rfl (by decide) (xs.take (i * 4)) rfl (by show Value.int .i64 ((cap : Int) + 1 - (i : Int)) = _; congr 1; omega) hol'.out (fun j y hj => hgc'.out j y (by rw [List.getElem?_take] at hj; split at hj; exact hj; cases hj)) (by omega) (by omega) (by rw [show i + (cap + 1 - i) = cap + 1 by omega]; exact hb48'.out) (by rw [show i + (cap + 1 - i) = cap + 1 by omega]; exact h63'.out) ?_; rw [show i + (cap + 1 - i) = cap + 1 by omega]; intro w1 G cur1 hB hG1 hG2 hsz1 htk1 hE1; have hGi : ¬ G = i := (by omega); have hGi1 : ¬ G = i + 1 := (by omega); have hB' := Lib.hid hB; have hsz1' := Lib.hid hsz1; have htk1' := Lib.hid htk1; have hG1' := Lib.hid hG1; have hG2' := Lib.hid hG2; clear hB hsz1 htk1 hG1 hG2) | (refine wpL_copyN rfl _ _ _ _ rfl Tryz.underlying79 hsz (g := w.heap.size) (off := i * 4) (dLen := cap + 1 - i) (dCap := G - i) (ad := ⟨q, 0, none⟩) (sLen := 1) (sCap := 1) (by first | rfl | (go_simp; try rfl)) (by first | rfl | (go_simp; try rfl)) (t := 89) hB'.out cs (by rw [hcl'.out]; simp only [Nat.min_def]; split <;> omega) (fun j y hj => hE1.keep (hqc'.out j y hj)) (by rw [hcl'.out, hsz1'.out]; have := Nat.mul_le_mul_right 4 (show i + 1 ≤ G by have := hG1'.out; omega); omega) hc1'.out ?_; intro w2 h2 g2))
      refine wp_region_script [0, 1, 2, 3, 4, 5, 6, 7] [] (fun w' => Ext w2 w') [(.pure, 0), (.pure, 1), (.pure, 2), (.pure, 3), (.pure, 4), (.pure, 5), (.pure, 6), (.pure, 7), (.one, 8)] (by kernel_rfl) (by kernel_rfl) ?_
      iterate 8 (apply scr_pure'; (· rfl); (· rfl); (· (intro w'; go_simp; try rfl)); (· (simp [go_sem]; try rfl)))
      refine scr_one rfl rfl (fun K hK => ?_)
      have hdl : (xs.drop (i * 4)).length = (cap - i) * 4 := by rw [List.length_drop, hxl'.out, Nat.sub_mul]
      have hE2 : Ext w w2 := hE1.grown g2 (fun k hk => by cases hk; exact Nat.le_refl _)
      have e14 : (i + 1) * 4 = i * 4 + 4 := by omega
      have hcl1 : cur1.toList.length = G * 4 := by rw [Array.length_toList]; exact hsz1'.out
      have hgl := grow_list (cur := cur1.toList) (xs := xs) (V := cs) (a := i * 4) (L := cap * 4) (s := 4) htk1'.out hxl'.out (Nat.mul_le_mul_right 4 hi) hcl'.out (by rw [hcl1]; have := Nat.mul_le_mul_right 4 (show cap + 1 ≤ G by have := hG1'.out; omega); omega)
      have hsz2 : (cur1.toList.take (i * 4) ++ cs ++ cur1.toList.drop (i * 4 + cs.length)).toArray.size = G * 4 := by
        have := Nat.mul_le_mul_right 4 (show i + 1 ≤ G by have := hG1'.out; omega)
        simp only [List.size_toArray, List.length_append, List.length_take, List.length_drop, hcl1, hcl'.out]
        omega
      refine wp_copyN _ _ _ _ rfl Tryz.underlying79 hsz (g := w.heap.size) (off := (i + 1) * 4) (dLen := cap - i) (dCap := G - (i + 1)) (ad := ⟨g, i * 4, none⟩) (sLen := cap - i) (sCap := cap - i) (by go_simp; try rfl) (by go_simp; try rfl) (t := 89) h2 (xs.drop (i * 4)) (by rw [hdl]; congr 1; simp only [Nat.min_def]; split <;> omega)
        (fun j y hj => by
          have e1 : (⟨g, i * 4, none⟩ : Addr).add j = ⟨g, i * 4 + j, none⟩ := by unfold Addr.add; split <;> simp_all
          rw [e1]
          exact (hE2.drew).keep (hgc'.out _ _ (by rwa [List.getElem?_drop] at hj)))
        (by rw [hdl, hsz2, ← Nat.add_mul]; exact Nat.mul_le_mul_right 4 (by have := hG1'.out; omega)) (fun y hy => hx1'.out y (List.mem_of_mem_drop hy)) ?_
      intro w4 h4 g4
      refine hK _ _ (fun h => by simp at h) ?_
      clear hK
      refine scr_end ?_
      simp only [Exit.then]
      rw [e14] at h4
      have hE4 : Ext w w4 := hE2.drew.grown g4 (fun k hk => by cases hk; exact Nat.le_refl _)
      have h4' := Lib.hid h4
      have hgl' := Lib.hid hgl
      have hcl1' := Lib.hid hcl1
      clear h4 hgl hcl1 hsz2 hdl e14 h2 g2 g4
      go_wp2_with fail
      refine hR'.out w4 (.slice (some ⟨w.heap.size, 0, none⟩) (cap + 1) G) ⟨?_, .inr ⟨w.heap.size, G, _, rfl, Nat.zero_le _, h4'.out, by have := hG1'.out; omega, hG2'.out, ?_, ?_⟩⟩ (World.grownBy.ext_trans hE4 (World.grownBy_self w4 _)) (by simp) (fun k hk => .inr (by cases hk; exact Nat.le_refl _))
      · simp only [List.length_append, List.length_take, List.length_drop, hcl'.out, hxl'.out]
        have := Nat.mul_le_mul_right 4 hi
        omega
      · rw [List.size_toArray]
        exact hgl'.out.2.trans hcl1'.out
      · rw [show (cap + 1) * 4 = cap * 4 + 4 by omega]
        exact hgl'.out.1

theorem insert_c {w : World} {X : List Nat} {v : Value} {us : List PEl} {q : Nat} {cs : List Value} {T : TypeId} {u : PEl} {i : Nat} (hrow : Row kPe 89 w X v us) (hX : Old X w) (hq : w.heap[q]? = some (.cells cs.toArray T (0, 0)))
    (hu : kPe.is w (vb v ++ X) cs u) (hqv : v.ownBlock ≠ some q) (hi : i ≤ us.length) (hbytes : (us.length + 1) * 32 ≤ 140737488351232) (R : Ending → World → Prop)
    (hR : ∀ w' v', Row kPe 89 w' X v' (us.take i ++ u :: us.drop i) → w.grownBy w' v.ownBlock → v' ≠ .slice none 0 0 → (∀ g, v'.ownBlock = some g → v.ownBlock = some g ∨ w.heap.size ≤ g) → R (.returned v') w') :
    Calls Tryz.prog 101 #[v, .int .i64 (i : Int), .slice (some ⟨q, 0, none⟩) 1 1] w R := by
  obtain ⟨rows, hown, hall, hnx⟩ := hrow.ex
  exact insert_own hown hq (kPe.len hu) (kPe.one hu) (Row.flat hall) hqv hi hbytes R (fun w' v' ho hg hne hd => hR w' v' (Row.ins hall hX hnx hu hi ho hg hd) hg hne hd)
end Go.Proofs.YtihapgangilncaaGreat
