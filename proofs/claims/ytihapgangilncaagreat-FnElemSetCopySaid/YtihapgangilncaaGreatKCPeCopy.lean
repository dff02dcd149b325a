/- (PathElement).Copy and (PathElementSet).Copy. (peCopy printed by gen_pecopy.py) -/
import Derived.Test.YtihapgangilncaaGreatKCFlCopy
namespace Go.Proofs.YtihapgangilncaaGreat
open Go.RowKit
set_option linter.unusedSimpArgs false

set_option maxRecDepth 100000 in
set_option maxHeartbeats 4000000 in
set_option pp.maxSteps 1000000 in
set_option pp.deepTerms true in
theorem peCopy_field {w : World} {X : List Nat} {cs : List Value} {s : ByteArray} (he : kPe.is w X cs (.field s)) (hX : Old X w) (R : Ending → World → Prop)
    (hR : ∀ w' cs', Ext w w' → kPe.is w' X cs' (.field s) → R (.returned (.agg cs'.toArray)) w') : Calls Tryz.prog 97 #[.agg cs.toArray] w R := by
  obtain ⟨_, rfl, hp⟩ := he
  obtain ⟨pa, oa, us, rfl, hbX, hbl, hc, hk⟩ := id hp
  have hp' := Lib.hid hp
  have hR' := Lib.hid hR
  have hX' := Lib.hid hX
  have hc' := Lib.hid hc
  have hk' := Lib.hid hk
  clear hR hp hX hc hk
  go_enter Tryz.func97, Tryz.ntmps97
  go_upto_if 6 with (fail)
  refine abs2 (G := Code.wp _ _ _ _) ?_
  intro w1 hE1 hb1 hb2 hs1
  have hl1 : w.heap.size + 1 < w1.heap.size := by omega
  clear hs1
  have e0 : w1.cell? ⟨w.heap.size, 0, none⟩ = some (.pointer (some ⟨pa, oa, none⟩)) := cells_of hb1 0; have e1 : w1.cell? ⟨w.heap.size, 1, none⟩ = some (.pointer none) := cells_of hb1 1; have e2 : w1.cell? ⟨w.heap.size, 2, none⟩ = some (.pointer none) := cells_of hb1 2; have e3 : w1.cell? ⟨w.heap.size, 3, none⟩ = some (.pointer none) := cells_of hb1 3
  clear hb1

  go_wp2_with (refine wpL_storeRow (cells := #[.pointer (some ⟨pa, oa, none⟩), .pointer none, .pointer none, .pointer none]) rfl 89 _ _ rfl Tryz.size89 rfl rfl hb2 rfl (by simp [ptr_one]) ?_; intro w4 h4 g4)
  have z0 : w4.cell? ⟨w.heap.size + 1, 0, none⟩ = some (.pointer (some ⟨pa, oa, none⟩)) := cells_of h4 0; have z1 : w4.cell? ⟨w.heap.size + 1, 1, none⟩ = some (.pointer none) := cells_of h4 1; have z2 : w4.cell? ⟨w.heap.size + 1, 2, none⟩ = some (.pointer none) := cells_of h4 2; have z3 : w4.cell? ⟨w.heap.size + 1, 3, none⟩ = some (.pointer none) := cells_of h4 3
  refine bodyPost_ret (by simp [results, Tryz.results97, go_sem, z0, z1, z2, z3]; try rfl) rfl ?_
  have hE : Ext w w4 := hE1.grown g4 (fun j hj => by cases hj; omega)
  exact hR'.out w4 [.pointer (some ⟨pa, oa, none⟩), .pointer none, .pointer none, .pointer none] hE ⟨_, rfl, hp'.out.mv (hE.mv X)⟩

set_option maxRecDepth 100000 in
set_option maxHeartbeats 4000000 in
set_option pp.maxSteps 1000000 in
set_option pp.deepTerms true in
theorem peCopy_key {w : World} {X : List Nat} {cs : List Value} {fs : EntsOfT T} (he : kPe.is w X cs (.key fs)) (hX : Old X w) (R : Ending → World → Prop)
    (hR : ∀ w' cs', Ext w w' → kPe.is w' X cs' (.key fs) → R (.returned (.agg cs'.toArray)) w') : Calls Tryz.prog 97 #[.agg cs.toArray] w R := by
  obtain ⟨_, rfl, hp⟩ := he
  obtain ⟨pa, oa, us, rfl, hbX, hbl, hc, hk⟩ := id hp
  have hp' := Lib.hid hp
  have hR' := Lib.hid hR
  have hX' := Lib.hid hX
  have hc' := Lib.hid hc
  have hk' := Lib.hid hk
  clear hR hp hX hc hk
  go_enter Tryz.func97, Tryz.ntmps97
  go_upto_if 6 with (fail)
  refine abs2 (G := Code.wp _ _ _ _) ?_
  intro w1 hE1 hb1 hb2 hs1
  have hl1 : w.heap.size + 1 < w1.heap.size := by omega
  clear hs1
  have e0 : w1.cell? ⟨w.heap.size, 0, none⟩ = some (.pointer none) := cells_of hb1 0; have e1 : w1.cell? ⟨w.heap.size, 1, none⟩ = some (.pointer (some ⟨pa, oa, none⟩)) := cells_of hb1 1; have e2 : w1.cell? ⟨w.heap.size, 2, none⟩ = some (.pointer none) := cells_of hb1 2; have e3 : w1.cell? ⟨w.heap.size, 3, none⟩ = some (.pointer none) := cells_of hb1 3
  clear hb1

  obtain ⟨fv, rfl, hfv⟩ := id hk'.out
  have ga := hE1.keep (hc'.out 0 (by decide))
  simp only [Nat.add_zero, List.getElem?_cons_zero] at ga
  have hfv' := Lib.hid hfv
  have hone := hfv.one
  clear hfv
  go_wp2_with fail
  refine flCopy_c (X := (w.heap.size + 1) :: X) (hfv'.out.mv ((hE1.mv X).more (by omega)) (by simp [kFd])) (.cons hl1 (hX'.out.le hE1.size)) _ ?_
  intro w2 v2 hE2 hv2
  have hone := hv2.one
  have hv2' := Lib.hid hv2
  have hb3 := (hE2.below.block _ hl1).trans hb2
  have hl2' := Nat.lt_of_lt_of_le hl1 hE2.size
  clear hv2 hb2 e0 e1 e2 e3 ga
  dsimp only
  go_wp2_with (first | (refine wpL_init1 rfl 169 _ _ rfl Tryz.info169 rfl (by simp) rfl hone (by decide) rfl ?_) | (refine wpL_storeRow (cells := #[.pointer none, .pointer (some ⟨w2.heap.size, 0, none⟩), .pointer none, .pointer none]) rfl 89 _ _ rfl Tryz.size89 rfl rfl (((Ext.alloc w2 _).below.block _ hl2').trans hb3) rfl (by simp [ptr_one]) ?_; intro w4 h4 g4))
  have z0 : w4.cell? ⟨w.heap.size + 1, 0, none⟩ = some (.pointer none) := cells_of h4 0; have z1 : w4.cell? ⟨w.heap.size + 1, 1, none⟩ = some (.pointer (some ⟨w2.heap.size, 0, none⟩)) := cells_of h4 1; have z2 : w4.cell? ⟨w.heap.size + 1, 2, none⟩ = some (.pointer none) := cells_of h4 2; have z3 : w4.cell? ⟨w.heap.size + 1, 3, none⟩ = some (.pointer none) := cells_of h4 3
  refine bodyPost_ret (by simp [results, Tryz.results97, go_sem, z0, z1, z2, z3]; try rfl) rfl ?_
  have hb4 := (g4.block _ (by simp) (fun e => by have := Option.some.inj e; omega)).trans (alloc_new w2 (.cells #[v2] 169) rfl)
  have hE : Ext w w4 := ((hE1.trans hE2).push _).grown g4 (fun j hj => by cases hj; omega)
  refine hR'.out w4 [.pointer none, .pointer (some ⟨w2.heap.size, 0, none⟩), .pointer none, .pointer none] hE ?_
  have hm4 : Mv w2 ((w.heap.size + 1) :: X) w4 X := (((Ext.alloc w2 _).mv _).trans ((Mv.refl _ _).grown g4 (fun j hj => by cases hj; simp))).less (fun b hb => by simp [hb])
  exact ⟨_, rfl, IsP.of_block (cs := [v2]) hb4 (fun h => by have := hX'.out _ h; have := hE1.size; have := hE2.size; omega) ⟨_, rfl, hv2'.out.mv hm4 (by simp [kFd])⟩⟩

set_option maxRecDepth 100000 in
set_option maxHeartbeats 4000000 in
set_option pp.maxSteps 1000000 in
set_option pp.deepTerms true in
theorem peCopy_value {w : World} {X : List Nat} {cs : List Value} {t : T} (he : kPe.is w X cs (.value t)) (hX : Old X w) (R : Ending → World → Prop)
    (hR : ∀ w' cs', Ext w w' → kPe.is w' X cs' (.value t) → R (.returned (.agg cs'.toArray)) w') : Calls Tryz.prog 97 #[.agg cs.toArray] w R := by
  obtain ⟨_, rfl, hp⟩ := he
  obtain ⟨pa, oa, us, rfl, hbX, hbl, hc, hk⟩ := id hp
  have hp' := Lib.hid hp
  have hR' := Lib.hid hR
  have hX' := Lib.hid hX
  have hc' := Lib.hid hc
  have hk' := Lib.hid hk
  clear hR hp hX hc hk
  go_enter Tryz.func97, Tryz.ntmps97
  go_upto_if 6 with (fail)
  refine abs2 (G := Code.wp _ _ _ _) ?_
  intro w1 hE1 hb1 hb2 hs1
  have hl1 : w.heap.size + 1 < w1.heap.size := by omega
  clear hs1
  have e0 : w1.cell? ⟨w.heap.size, 0, none⟩ = some (.pointer none) := cells_of hb1 0; have e1 : w1.cell? ⟨w.heap.size, 1, none⟩ = some (.pointer none) := cells_of hb1 1; have e2 : w1.cell? ⟨w.heap.size, 2, none⟩ = some (.pointer (some ⟨pa, oa, none⟩)) := cells_of hb1 2; have e3 : w1.cell? ⟨w.heap.size, 3, none⟩ = some (.pointer none) := cells_of hb1 3
  clear hb1

  go_wp2_with (refine wpL_storeRow (cells := #[.pointer none, .pointer none, .pointer (some ⟨pa, oa, none⟩), .pointer none]) rfl 89 _ _ rfl Tryz.size89 rfl rfl hb2 rfl (by simp [ptr_one]) ?_; intro w4 h4 g4)
  have z0 : w4.cell? ⟨w.heap.size + 1, 0, none⟩ = some (.pointer none) := cells_of h4 0; have z1 : w4.cell? ⟨w.heap.size + 1, 1, none⟩ = some (.pointer none) := cells_of h4 1; have z2 : w4.cell? ⟨w.heap.size + 1, 2, none⟩ = some (.pointer (some ⟨pa, oa, none⟩)) := cells_of h4 2; have z3 : w4.cell? ⟨w.heap.size + 1, 3, none⟩ = some (.pointer none) := cells_of h4 3
  refine bodyPost_ret (by simp [results, Tryz.results97, go_sem, z0, z1, z2, z3]; try rfl) rfl ?_
  have hE : Ext w w4 := hE1.grown g4 (fun j hj => by cases hj; omega)
  exact hR'.out w4 [.pointer none, .pointer none, .pointer (some ⟨pa, oa, none⟩), .pointer none] hE ⟨_, rfl, hp'.out.mv (hE.mv X)⟩

set_option maxRecDepth 100000 in
set_option maxHeartbeats 4000000 in
set_option pp.maxSteps 1000000 in
set_option pp.deepTerms true in
theorem peCopy_index {w : World} {X : List Nat} {cs : List Value} {n : Int} (he : kPe.is w X cs (.index n)) (hX : Old X w) (R : Ending → World → Prop)
    (hR : ∀ w' cs', Ext w w' → kPe.is w' X cs' (.index n) → R (.returned (.agg cs'.toArray)) w') : Calls Tryz.prog 97 #[.agg cs.toArray] w R := by
  obtain ⟨_, rfl, hp⟩ := he
  obtain ⟨pa, oa, us, rfl, hbX, hbl, hc, hk⟩ := id hp
  have hp' := Lib.hid hp
  have hR' := Lib.hid hR
  have hX' := Lib.hid hX
  have hc' := Lib.hid hc
  have hk' := Lib.hid hk
  clear hR hp hX hc hk
  go_enter Tryz.func97, Tryz.ntmps97
  go_upto_if 6 with (fail)
  refine abs2 (G := Code.wp _ _ _ _) ?_
  intro w1 hE1 hb1 hb2 hs1
  have hl1 : w.heap.size + 1 < w1.heap.size := by omega
  clear hs1
  have e0 : w1.cell? ⟨w.heap.size, 0, none⟩ = some (.pointer none) := cells_of hb1 0; have e1 : w1.cell? ⟨w.heap.size, 1, none⟩ = some (.pointer none) := cells_of hb1 1; have e2 : w1.cell? ⟨w.heap.size, 2, none⟩ = some (.pointer none) := cells_of hb1 2; have e3 : w1.cell? ⟨w.heap.size, 3, none⟩ = some (.pointer (some ⟨pa, oa, none⟩)) := cells_of hb1 3
  clear hb1

  go_wp2_with (refine wpL_storeRow (cells := #[.pointer none, .pointer none, .pointer none, .pointer (some ⟨pa, oa, none⟩)]) rfl 89 _ _ rfl Tryz.size89 rfl rfl hb2 rfl (by simp [ptr_one]) ?_; intro w4 h4 g4)
  have z0 : w4.cell? ⟨w.heap.size + 1, 0, none⟩ = some (.pointer none) := cells_of h4 0; have z1 : w4.cell? ⟨w.heap.size + 1, 1, none⟩ = some (.pointer none) := cells_of h4 1; have z2 : w4.cell? ⟨w.heap.size + 1, 2, none⟩ = some (.pointer none) := cells_of h4 2; have z3 : w4.cell? ⟨w.heap.size + 1, 3, none⟩ = some (.pointer (some ⟨pa, oa, none⟩)) := cells_of h4 3
  refine bodyPost_ret (by simp [results, Tryz.results97, go_sem, z0, z1, z2, z3]; try rfl) rfl ?_
  have hE : Ext w w4 := hE1.grown g4 (fun j hj => by cases hj; omega)
  exact hR'.out w4 [.pointer none, .pointer none, .pointer none, .pointer (some ⟨pa, oa, none⟩)] hE ⟨_, rfl, hp'.out.mv (hE.mv X)⟩

theorem peCopy_c {w : World} {X : List Nat} {cs : List Value} {e : PEl} (he : kPe.is w X cs e) (hX : Old X w) (R : Ending → World → Prop)
    (hR : ∀ w' cs', Ext w w' → kPe.is w' X cs' e → R (.returned (.agg cs'.toArray)) w') : Calls Tryz.prog 97 #[.agg cs.toArray] w R := by
  cases e
  · exact peCopy_field he hX R hR
  · exact peCopy_key he hX R hR
  · exact peCopy_value he hX R hR
  · exact peCopy_index he hX R hR


theorem copy_seg {w4 w6 : World} {X : List Nat} {k : Nat} {us : List PEl} {rows : List (List Value)} {cur : Array Value} {cs : List Value} (hk : k < us.length) (hsz : cur.size = us.length * 4) (htk : cur.toList.take (k * 4) = rows.flatten)
    (hall : All2 (kPe.is w4 X) rows (us.take k)) (hcs : kPe.is w4 X cs us[k]) (hm : Mv w4 X w6 X) :
    (cur.toList.take (k * 4) ++ cs ++ cur.toList.drop (k * 4 + cs.length)).toArray.size = us.length * 4 ∧ All2 (kPe.is w6 X) (rows ++ [cs]) (us.take (k + 1)) ∧ (cur.toList.take (k * 4) ++ cs ++ cur.toList.drop (k * 4 + cs.length)).toArray.toList.take ((k + 1) * 4) = (rows ++ [cs]).flatten := by
  have hl : cs.length = 4 := kPe.len hcs
  have hlt : cur.toList.length = us.length * 4 := by rw [Array.length_toList]; exact hsz
  refine ⟨?_, ?_, ?_⟩
  · rw [List.size_toArray, List.length_append, List.length_append, List.length_take, List.length_drop, hl, hlt]
    omega
  · rw [List.take_succ_eq_append_getElem hk]
    exact (hall.imp fun _ _ h => kPe.mv h hm).snoc (kPe.mv hcs hm)
  · rw [htk, List.flatten_append, List.flatten_cons, List.flatten_nil, List.append_nil]
    have h1 : (rows.flatten ++ cs).length = (k + 1) * 4 := by
      rw [← htk, List.length_append, List.length_take, hlt, hl]; omega
    show (rows.flatten ++ cs ++ _).take _ = _
    rw [← h1, List.take_left]

theorem Tryz.size81 : (Tryz.prog.info? 81).map (·.size) = some 1 := by kernel_rfl

set_option maxRecDepth 100000 in
set_option maxHeartbeats 4000000 in
set_option pp.maxSteps 1000000 in
set_option pp.deepTerms true in
theorem peSetCopy_c {w : World} {X : List Nat} {sv : Value} {us : List PEl} (hs : IsSl kPe 32 w X sv us) (hX : Old X w) (R : Ending → World → Prop)
    (hR : ∀ w' v', Ext w w' → Row kPe 89 w' X v' us → (∀ g, v'.ownBlock = some g → w.heap.size ≤ g) → R (.returned (.agg #[v'])) w') : Calls Tryz.prog 50 #[.agg #[sv]] w R := by
  have hsone := hs.one
  obtain ⟨o, c, b, off, rfl, l2, l3, l4, l5⟩ := id hs.ex
  have l4' := Lib.hid l4
  have l5' := Lib.hid l5
  have hX' := Lib.hid hX
  have hR' := Lib.hid hR
  obtain ⟨n, hn⟩ : ∃ n, n = us.length := ⟨_, rfl⟩
  have h63n : n ≤ maxLen := by rw [maxLen_eq]; omega
  have hb48n : 32 * n ≤ 281474976710656 := by omega
  have hnl : (n : Int) ≤ 140737488351232 := by omega
  rw [← hn]
  have hn' := Lib.hid hn
  clear hR hX hs l4 l5 l2 l3 hn hsone
  go_enter Tryz.func50, Tryz.ntmps50
  go_upto_region 1 with (fail)
  refine abs2 (G := Code.wp _ _ _ _) ?_
  intro w1 hE1 hb1 hb2 hs1
  have hl1 : w.heap.size + 1 < w1.heap.size := by omega
  have e0 : w1.cell? ⟨w.heap.size, 0, none⟩ = some (.slice o n c) := cells_of hb1 0
  have hb1' := Lib.hid hb1
  have hb2' := Lib.hid hb2
  have hB : w.heap.size + 1 < w1.heap.size := hl1
  clear hb1 hb2 hs1
  have h63n' := Lib.hid h63n
  have hb48n' := Lib.hid hb48n
  clear h63n hb48n
  go_wp2_with (first
      | (refine wpL_makeN rfl _ _ _ rfl Tryz.underlying79 Tryz.info89 (n := n) rfl rfl hb48n'.out h63n'.out ?_; intro w2 cur0 hb3 hsz3 hE2; have hb3' := Lib.hid hb3; have hsz3' := Lib.hid hsz3; have f0 := hE2.keep e0; clear hb3 hsz3))
  have hB2 := (Array.getElem?_eq_some_iff.1 hb3'.out).1
  clear f0
  have hall0 : Hid (All2 (kPe.is w2 (w1.heap.size :: (w.heap.size + 1) :: X)) [] (us.take 0)) := Lib.hid .nil
  go_loopw [4, 12] (fun _ i wr => ∃ (k : Nat) (cur : Array Value) (rows : List (List Value)), k ≤ n ∧ i = .int .i64 k ∧ Ext w1 wr ∧ w1.heap.size < wr.heap.size ∧ Hid (wr.heap[w1.heap.size]? = some (.cells cur 89 (0, 0))) ∧ Hid (cur.size = us.length * 4) ∧
      Hid (All2 (kPe.is wr (w1.heap.size :: (w.heap.size + 1) :: X)) rows (us.take k)) ∧ Hid (cur.toList.take (k * 4) = rows.flatten)) (fun _ i _ => n - (intOf i).toNat)
  case atStart => exact ⟨0, cur0, [], Nat.zero_le _, rfl, hE2, hB2, hb3', Lib.hid (by rw [hsz3'.out, hn'.out]), hall0, Lib.hid (by simp)⟩
  case round =>
    obtain ⟨k, cur, rows, hk, rfl, hEr, hsz, hcur, hcsz, hall, htk⟩ := hrel
    rename World => wr
    have f0 := hEr.keep e0
    by_cases hlt : k < n
    · have hltu : k < us.length := by rw [← hn'.out]; exact hlt
      obtain ⟨cs, hc, hcs⟩ := l5'.out k hltu
      obtain ⟨rfl, -⟩ := l4'.out (by omega)
      have hone := kPe.one hcs
      obtain ⟨c0, c1, c2, c3, rfl⟩ := kPe_four hcs
      have hEw := hE1.trans hEr
      have q0 := hEw.keep (hc 0 (by decide))
      have q1 := hEw.keep (hc 1 (by decide))
      have q2 := hEw.keep (hc 2 (by decide))
      have q3 := hEw.keep (hc 3 (by decide))
      simp only [show kPe.size = 4 from rfl, Nat.add_zero] at q0 q1 q2 q3
      have hi1 : (k : Int) < (n : Int) := by omega
      have hkm : (k : Int) + 1 ≤ 9223372036854775807 := by omega
      have hltu' := Lib.hid hltu
      have hcs' := Lib.hid hcs
      clear hc hcs hone
      go_wp2_with fail
      refine peCopy_c (X := w1.heap.size :: (w.heap.size + 1) :: X) (kPe.mv hcs'.out (((hEw.mv X).more (n := w.heap.size + 1) (by omega)).more (n := w1.heap.size) (by omega))) (.cons hsz (.cons (Nat.lt_trans hl1 hsz) (hX'.out.le hEw.size))) _ ?_
      intro w3 ds hE3 hds
      obtain ⟨d0, d1, d2, d3, rfl⟩ := kPe_four hds
      have hd1 := Lib.hid (kPe.one hds)
      have hds' := Lib.hid hds
      have hcur3 := Lib.hid ((hE3.below.block _ hsz).trans hcur.out)
      have f3 := hE3.keep f0
      clear hds q0 q1 q2 q3 f0
      dsimp only
      go_wp2_with (refine wpL_storeSeg (cells := #[d0, d1, d2, d3]) (b := w1.heap.size) (off := k * 4) rfl 89 _ _ rfl Tryz.size89 (by first | rfl | (go_simp; try rfl)) (by first | rfl | (go_simp; try rfl)) hcur3.out (by rw [hcsz.out]; show k * 4 + 4 ≤ us.length * 4; have := hltu'.out; omega) (by simpa using hd1.out) rfl ?_; intro w4 h4 g4; have h4' := Lib.hid h4; have g4' := Lib.hid g4; clear h4 g4)
      go_roundw
      case rel =>
        have hE4 : Ext w1 w4 := (hEr.trans hE3).grown g4'.out (fun k hk => by cases hk; exact Nat.le_refl _)
        have hm4 : Mv w3 (w1.heap.size :: (w.heap.size + 1) :: X) w4 (w1.heap.size :: (w.heap.size + 1) :: X) := (Mv.refl _ _).grown g4'.out (fun j hj => by cases hj; simp)
        have hseg := copy_seg (w6 := w4) hltu'.out hcsz.out htk.out (hall.out.imp fun _ _ h => kPe.mv h (hE3.mv _)) hds'.out hm4
        exact ⟨k + 1, _, _, by omega, by go_num, hE4, Nat.lt_of_lt_of_le hsz (Nat.le_trans hE3.size g4'.out.size), h4', Lib.hid hseg.1, Lib.hid hseg.2.1, Lib.hid hseg.2.2⟩
      case measure => simp [intOf]; omega
    · have ek : k = n := by omega
      subst ek
      have hi1 : ¬ (k : Int) < (k : Int) := by omega
      have hb2r := Lib.hid ((hEr.below.block _ hl1).trans hb2'.out)
      have hl2 : w.heap.size + 1 < wr.heap.size := Nat.lt_trans hl1 hsz
      go_wp2_with (refine wpL_storeRow (cells := #[.slice (some ⟨w1.heap.size, 0, none⟩) k k]) rfl 81 _ _ rfl Tryz.size81 rfl rfl hb2r.out rfl (by simp [Value.oneCell']) ?_; intro w5 h5 g5)
      have z0 : w5.cell? ⟨w.heap.size + 1, 0, none⟩ = some (.slice (some ⟨w1.heap.size, 0, none⟩) k k) := cells_of h5 0
      refine bodyPost_ret (by simp [results, Tryz.results50, go_sem, z0]; try rfl) rfl ?_
      have hE5 : Ext w w5 := (hE1.trans hEr).grown g5 (fun j hj => by cases hj; omega)
      have hb5 : w5.heap[w1.heap.size]? = _ := (g5.block _ hsz (fun e => by have := Option.some.inj e; omega)).trans hcur.out
      have hcl : cur.toList.length = k * 4 := by rw [Array.length_toList, hcsz.out, ← hn'.out]
      have hfl : rows.flatten.length = k * 4 := by rw [← htk.out, List.length_take, hcl]; omega
      have hall5 : All2 (kPe.is w5 (w1.heap.size :: X)) rows us := by
        have h6 := hall.out
        rw [List.take_of_length_le (by rw [← hn'.out]; exact Nat.le_refl _)] at h6
        exact h6.imp fun _ _ h => kPe.mv h (((Mv.refl _ _).grown g5 (fun j hj => by cases hj; simp)).less (fun b hb => by rcases List.mem_cons.1 hb with h | h <;> simp [h]))
      have hown : Own w5 89 4 (.slice (some ⟨w1.heap.size, 0, none⟩) k k) k rows.flatten := ⟨hfl, .inr ⟨w1.heap.size, k, _, rfl, Nat.zero_le _, hb5, Nat.le_refl _, h63n'.out, by rw [← Array.length_toList, hcl], htk.out⟩⟩
      refine hR'.out w5 _ hE5 ⟨rows, by rw [← hn'.out]; exact hown, hall5, fun g hg => ?_⟩ (fun g hg => ?_)
      · cases hg
        intro h
        have h7 : w1.heap.size < w.heap.size := hX'.out _ h
        have := hE1.size; omega
      · cases hg
        exact hE1.size

end Go.Proofs.YtihapgangilncaaGreat
