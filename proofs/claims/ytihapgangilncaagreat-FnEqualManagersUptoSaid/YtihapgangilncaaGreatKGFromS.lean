/- spec.CompareElems. Rows made at full length and filled by copy: FieldList.Copy. impl.fromElem: a path element taken back. What fromElem yields, compared and put in order (plain). PathElementSet.Iterate with any function value; impl.fromElemSet. -/
import Derived.Test.YtihapgangilncaaGreatKGPeGood
import Derived.Test.YtihapgangilncaaGreatKGKeysD
import Derived.Laws.OwnMore
namespace Go.Proofs.YtihapgangilncaaGreat
open Go.RowKit
set_option linter.unusedSimpArgs false

theorem toE_rank (e : EL) : toE e = if rankOf e.kind = 1 then .key (e.keys.zip (V.plainL e.l)) else if rankOf e.kind = 2 then .value e.v.plain else if rankOf e.kind = 3 then .index e.n else .field e.s := by
  unfold toE rankOf
  by_cases h1 : e.kind = 1 <;> by_cases h2 : e.kind = 2 <;> by_cases h3 : e.kind = 3 <;> simp [h1, h2, h3]
theorem rankOf_cases (k : Int) : rankOf k = 0 ∨ rankOf k = 1 ∨ rankOf k = 2 ∨ rankOf k = 3 := by
  unfold rankOf; split <;> omega
theorem rank_law (a b : EL) (h : rankOf a.kind ≠ rankOf b.kind) : cmpPe (toE a) (toE b) = cmpI (rankOf a.kind) (rankOf b.kind) := by
  rw [toE_rank, toE_rank]
  rcases rankOf_cases a.kind with e1 | e1 | e1 | e1 <;> rcases rankOf_cases b.kind with e2 | e2 | e2 | e2 <;> rw [e1, e2] at h ⊢ <;> first | (exact absurd rfl h) | (simp [cmpPe, cmpI])
theorem rank_one (a b : EL) (h1 : rankOf a.kind = 1) (h2 : rankOf b.kind = 1) : cmpPe (toE a) (toE b) = cmpE rV (a.keys.zip a.l) (b.keys.zip b.l) := by
  rw [toE_rank, toE_rank, h1, h2, if_pos rfl, if_pos rfl]
  simp only [cmpPe, V.plainL_eq, ← zip_map_right]
  rw [cmpE_map]
  congr 1
  funext x y
  exact cmpT_plain x y
theorem rank_two (a b : EL) (h1 : rankOf a.kind = 2) (h2 : rankOf b.kind = 2) : cmpPe (toE a) (toE b) = V.cmpP a.v.clean b.v.clean := by
  rw [toE_rank, toE_rank, h1, h2]
  exact cmpT_plain _ _
theorem rank_three (a b : EL) (h1 : rankOf a.kind = 3) (h2 : rankOf b.kind = 3) : cmpPe (toE a) (toE b) = cmpI a.n b.n := by
  rw [toE_rank, toE_rank, h1, h2]; rfl
theorem rank_none (a b : EL) (h1 : rankOf a.kind ≠ 1) (h2 : rankOf a.kind ≠ 2) (h3 : rankOf a.kind ≠ 3) (h : rankOf a.kind = rankOf b.kind) : cmpPe (toE a) (toE b) = cmpS a.s b.s := by
  rw [toE_rank, toE_rank, ← h, if_neg h1, if_neg h2, if_neg h3, if_neg h1, if_neg h2, if_neg h3]; rfl

set_option maxRecDepth 100000 in
set_option maxHeartbeats 4000000 in
set_option pp.maxSteps 1000000 in
set_option pp.deepTerms true in
theorem specCompareElems_c {w : World} {X Y : List Nat} {cs ds : List Value} {a b : EL} (ha : kEl.is w X cs a) (hb : kEl.is w Y ds b) (R : Ending → World → Prop) (hR : Ends R w (.int .i64 (cmpPe (toE a) (toE b)))) :
    Calls Tryz.prog 55 #[.agg cs.toArray, .agg ds.toArray] w R := by
  have ha' := Lib.hid ha
  have hb' := Lib.hid hb
  obtain ⟨kind, s, keys, l, v, n⟩ := a
  obtain ⟨kind2, s2, keys2, l2, v2, n2⟩ := b
  obtain ⟨vk, vl, vs, rfl, -, -, hsz, hks, hl, hv⟩ := ha
  obtain ⟨vk2, vl2, vs2, rfl, -, -, -, hks2, hl2, hv2⟩ := hb
  dsimp only at hks hl hv hks2 hl2 hv2 hsz ⊢
  obtain ⟨x, rfl⟩ := hv.shape
  obtain ⟨y, rfl⟩ := hv2.shape
  obtain ⟨ko, kc, kb, koff, rfl, k2, k3, -, -⟩ := id hks.ex
  obtain ⟨o, c, b, off, rfl, c2, c3, -, -⟩ := id hl.ex
  obtain ⟨ko2, kc2, kb2, koff2, rfl, j2, j3, -, -⟩ := id hks2.ex
  obtain ⟨o2, d, b2, off2, rfl, d2, d3, -, -⟩ := id hl2.ex
  have hv' := Lib.hid hv
  have hv2' := Lib.hid hv2
  have hR' := Lib.hid hR
  clear hR hks hl hv hks2 hl2 hv2
  simp only [Cells6.list, List.cons_append, List.nil_append] at ha' hb' ⊢
  go_enter Tryz.func55, Tryz.ntmps55
  go_wp2_with fail
  refine abs2 (G := Code.wp _ _ _ _) ?_
  intro w1 hE1 hb1 hb2 hs1
  have e0 : w1.cell? ⟨w.heap.size, 0, none⟩ = some (.int .i64 kind) := cells_of hb1 0; have e1 : w1.cell? ⟨w.heap.size, 1, none⟩ = some (.string s) := cells_of hb1 1; have e2 : w1.cell? ⟨w.heap.size, 2, none⟩ = some (.slice ko keys.length kc) := cells_of hb1 2; have e3 : w1.cell? ⟨w.heap.size, 3, none⟩ = some (.slice o l.length c) := cells_of hb1 3; have e4 : w1.cell? ⟨w.heap.size, 4, none⟩ = some (.int .i64 x.kind) := cells_of hb1 4; have e5 : w1.cell? ⟨w.heap.size, 5, none⟩ = some (.int .i64 x.n) := cells_of hb1 5; have e6 : w1.cell? ⟨w.heap.size, 6, none⟩ = some (.float .f64 x.f) := cells_of hb1 6; have e7 : w1.cell? ⟨w.heap.size, 7, none⟩ = some (.string x.s) := cells_of hb1 7; have e8 : w1.cell? ⟨w.heap.size, 8, none⟩ = some (.slice x.ko x.kn x.kc) := cells_of hb1 8; have e9 : w1.cell? ⟨w.heap.size, 9, none⟩ = some (.slice x.o x.m x.c) := cells_of hb1 9; have e10 : w1.cell? ⟨w.heap.size, 10, none⟩ = some (.int .i64 n) := cells_of hb1 10
  have f0 : w1.cell? ⟨w.heap.size + 1, 0, none⟩ = some (.int .i64 kind2) := cells_of hb2 0; have f1 : w1.cell? ⟨w.heap.size + 1, 1, none⟩ = some (.string s2) := cells_of hb2 1; have f2 : w1.cell? ⟨w.heap.size + 1, 2, none⟩ = some (.slice ko2 keys2.length kc2) := cells_of hb2 2; have f3 : w1.cell? ⟨w.heap.size + 1, 3, none⟩ = some (.slice o2 l2.length d) := cells_of hb2 3; have f4 : w1.cell? ⟨w.heap.size + 1, 4, none⟩ = some (.int .i64 y.kind) := cells_of hb2 4; have f5 : w1.cell? ⟨w.heap.size + 1, 5, none⟩ = some (.int .i64 y.n) := cells_of hb2 5; have f6 : w1.cell? ⟨w.heap.size + 1, 6, none⟩ = some (.float .f64 y.f) := cells_of hb2 6; have f7 : w1.cell? ⟨w.heap.size + 1, 7, none⟩ = some (.string y.s) := cells_of hb2 7; have f8 : w1.cell? ⟨w.heap.size + 1, 8, none⟩ = some (.slice y.ko y.kn y.kc) := cells_of hb2 8; have f9 : w1.cell? ⟨w.heap.size + 1, 9, none⟩ = some (.slice y.o y.m y.c) := cells_of hb2 9; have f10 : w1.cell? ⟨w.heap.size + 1, 10, none⟩ = some (.int .i64 n2) := cells_of hb2 10
  clear hb1 hb2 hs1
  have hC : Ext w1 w1.drew := (Ext.refl _).drew
  refine wp_region_script [0, 2, 5] [1] (fun w' => Ext w1 w') [(.read, 0), (.read, 2), (.one, 1), (.one, 3), (.one, 4), (.pure, 5)] (by kernel_rfl) (by kernel_rfl) ?_
  (apply scr_read'; (· rfl); (· rfl); (· first | exact hC | exact (Ext.refl _).drew); (· (intro w' hw'; have e0_ := hw'.keep e0; have e1_ := hw'.keep e1; have e2_ := hw'.keep e2; have e3_ := hw'.keep e3; have e4_ := hw'.keep e4; have e5_ := hw'.keep e5; have e6_ := hw'.keep e6; have e7_ := hw'.keep e7; have e8_ := hw'.keep e8; have e9_ := hw'.keep e9; have e10_ := hw'.keep e10; go_simp; try rfl)); (· (simp [go_sem]; try rfl)))
  (apply scr_read'; (· rfl); (· rfl); (· first | exact hC | exact (Ext.refl _).drew); (· (intro w' hw'; have f0_ := hw'.keep f0; have f1_ := hw'.keep f1; have f2_ := hw'.keep f2; have f3_ := hw'.keep f3; have f4_ := hw'.keep f4; have f5_ := hw'.keep f5; have f6_ := hw'.keep f6; have f7_ := hw'.keep f7; have f8_ := hw'.keep f8; have f9_ := hw'.keep f9; have f10_ := hw'.keep f10; go_simp; try rfl)); (· (simp [go_sem]; try rfl)))
  refine scr_one rfl rfl (fun K hK => ?_)
  go_simp
  refine elemRank_c _ ?_
  intro w2 hE2
  refine hK _ _ (fun _ => hC.trans hE2) ?_
  clear hK
  refine scr_one rfl rfl (fun K hK => ?_)
  go_simp
  refine elemRank_c _ ?_
  intro w3 hE3
  refine hK _ _ (fun h => by simp at h) ?_
  clear hK
  refine scr_one rfl rfl (fun K hK => ?_)
  go_simp
  refine specCompareInts_c _ ?_
  intro w3b hE3b
  refine hK _ _ (fun h => by simp at h) ?_
  clear hK
  have hE4 : Ext w1 w3b := hC.trans (hE2.trans (hE3.trans hE3b))
  replace e0 := hE4.keep e0; replace e1 := hE4.keep e1; replace e2 := hE4.keep e2; replace e3 := hE4.keep e3; replace e4 := hE4.keep e4; replace e5 := hE4.keep e5; replace e6 := hE4.keep e6; replace e7 := hE4.keep e7; replace e8 := hE4.keep e8; replace e9 := hE4.keep e9; replace e10 := hE4.keep e10; replace f0 := hE4.keep f0; replace f1 := hE4.keep f1; replace f2 := hE4.keep f2; replace f3 := hE4.keep f3; replace f4 := hE4.keep f4; replace f5 := hE4.keep f5; replace f6 := hE4.keep f6; replace f7 := hE4.keep f7; replace f8 := hE4.keep f8; replace f9 := hE4.keep f9; replace f10 := hE4.keep f10
  have hA := hE1.trans hE4
  clear hE4 hE1 hE2 hE3 hE3b hC
  by_cases hrk : rankOf kind = rankOf kind2
  rotate_left
  · obtain ⟨z, hz⟩ : ∃ z, cmpI (rankOf kind) (rankOf kind2) = z := ⟨_, rfl⟩
    have hz0 : z ≠ 0 := fun h => hrk (cmpI_zero.1 (hz.trans h))
    have hzb : (z == 0) = false := by simpa using hz0
    have hlaw := Lib.hid (rank_law ⟨kind, s, keys, l, v, n⟩ ⟨kind2, s2, keys2, l2, v2, n2⟩ hrk)
    rw [hz]
    have hz' := Lib.hid hz
    clear hrk hz
    (apply scr_pure'; (· rfl); (· rfl); (· (intro w'; go_simp; try rfl)); (· (simp [go_sem]; try rfl)))
    refine scr_end ?_
    simp only [Exit.then]
    go_wp2_with fail
    exact hR'.out.int (by rw [hlaw.out]; exact hz'.out) _ hA
  rw [cmpI_zero.2 hrk]
  have hrk' := Lib.hid hrk
  clear hrk
  (apply scr_pure'; (· rfl); (· rfl); (· (intro w'; go_simp; try rfl)); (· (simp [go_sem]; try rfl)))
  refine scr_end ?_
  simp only [Exit.then]
  go_wp2_with fail
  refine elemRank_c _ ?_
  intro w4 hE4
  replace e0 := hE4.keep e0; replace e1 := hE4.keep e1; replace e2 := hE4.keep e2; replace e3 := hE4.keep e3; replace e4 := hE4.keep e4; replace e5 := hE4.keep e5; replace e6 := hE4.keep e6; replace e7 := hE4.keep e7; replace e8 := hE4.keep e8; replace e9 := hE4.keep e9; replace e10 := hE4.keep e10; replace f0 := hE4.keep f0; replace f1 := hE4.keep f1; replace f2 := hE4.keep f2; replace f3 := hE4.keep f3; replace f4 := hE4.keep f4; replace f5 := hE4.keep f5; replace f6 := hE4.keep f6; replace f7 := hE4.keep f7; replace f8 := hE4.keep f8; replace f9 := hE4.keep f9; replace f10 := hE4.keep f10
  replace hA := hA.trans hE4
  clear hE4
  dsimp only
  have hk : rankOf kind = 1 ∨ rankOf kind = 2 ∨ rankOf kind = 3 ∨ ((rankOf kind == 1) = false ∧ (rankOf kind == 2) = false ∧ (rankOf kind == 3) = false) := by
    by_cases h1 : rankOf kind = 1 <;> by_cases h2 : rankOf kind = 2 <;> by_cases h3 : rankOf kind = 3 <;> simp [h1, h2, h3]
  rcases hk with hk | hk | hk | ⟨q1, q2, q3⟩
  · have hlaw := Lib.hid (rank_one ⟨kind, s, keys, l, v, n⟩ ⟨kind2, s2, keys2, l2, v2, n2⟩ hk (hrk'.out ▸ hk))
    rw [hk]
    clear hk
    go_wp2_with fail
    refine specCompareKeys_c (kEl.mv ha'.out (hA.mv _)) (kEl.mv hb'.out (hA.mv _)) _ ?_
    intro w5 hE5
    dsimp only
    go_wp2_with fail
    exact hR'.out.int hlaw.out _ (hA.trans hE5)
  · have hlaw := Lib.hid (rank_two ⟨kind, s, keys, l, v, n⟩ ⟨kind2, s2, keys2, l2, v2, n2⟩ hk (hrk'.out ▸ hk))
    rw [hk]
    clear hk
    go_wp2_with fail
    refine specCompareValues_c (cs := x.list) (ds := y.list) (hv'.out.mv (hA.mv _)) (hv2'.out.mv (hA.mv _)) _ ?_
    intro w5 hE5
    dsimp only
    go_wp2_with fail
    exact hR'.out.int hlaw.out _ (hA.trans hE5)
  · have hlaw := Lib.hid (rank_three ⟨kind, s, keys, l, v, n⟩ ⟨kind2, s2, keys2, l2, v2, n2⟩ hk (hrk'.out ▸ hk))
    rw [hk]
    clear hk
    go_wp2_with fail
    refine specCompareInts_c _ ?_
    intro w5 hE5
    dsimp only
    go_wp2_with fail
    exact hR'.out.int hlaw.out _ (hA.trans hE5)
  · have hlaw := Lib.hid (rank_none ⟨kind, s, keys, l, v, n⟩ ⟨kind2, s2, keys2, l2, v2, n2⟩ (by simpa using q1) (by simpa using q2) (by simpa using q3) hrk'.out)
    go_wp2_with fail
    refine specCompareStrings_c hsz _ ?_
    intro w5 hE5
    dsimp only
    go_wp2_with fail
    exact hR'.out.int hlaw.out _ (hA.trans hE5)
end Go.Proofs.YtihapgangilncaaGreat
namespace Go.Proofs.YtihapgangilncaaGreat
open Go.RowKit
set_option linter.unusedSimpArgs false

section
variable {P : Program}
end

/-- the cells of a slice, row by row -/
theorem IsSl.rows {α : Type} {k : Kind α} {bytes : Nat} {w : World} {X : List Nat} {v : Value} {us : List α} (h : IsSl k bytes w X v us) :
    ∃ o c b off, ∃ rows : List (List Value), v = .slice o us.length c ∧ us.length ≤ c ∧ us.length * bytes ≤ 140737488351232 ∧ (0 < us.length → o = some ⟨b, off, none⟩ ∧ b ∉ X) ∧ All2 (k.is w X) rows us ∧
      ∀ j y, rows.flatten[j]? = some y → w.cell? ⟨b, off + j, none⟩ = some y := by
  obtain ⟨o, c, b, off, h1, h2, h3, h4, h5⟩ := h.ex
  have key : ∀ m, m ≤ us.length → ∃ rows : List (List Value), All2 (k.is w X) rows (us.take m) ∧ rows.flatten.length = m * k.size ∧ ∀ j y, rows.flatten[j]? = some y → w.cell? ⟨b, off + j, none⟩ = some y := by
    intro m
    induction m with
    | zero => intro _; exact ⟨[], .nil, by simp, fun j y hj => by simp at hj⟩
    | succ m ih =>
      intro hm
      obtain ⟨rows, r1, r2, r3⟩ := ih (by omega)
      obtain ⟨cs, hc, hcs⟩ := h5 m (by omega)
      have hl := k.len hcs
      refine ⟨rows ++ [cs], ?_, ?_, fun j y hj => ?_⟩
      · rw [List.take_succ_eq_append_getElem (by omega)]
        exact r1.snoc hcs
      · rw [List.flatten_append, List.length_append, r2, Nat.add_mul]; simp [hl]
      · rw [List.flatten_append] at hj
        by_cases hlt : j < rows.flatten.length
        · rw [List.getElem?_append_left hlt] at hj
          exact r3 j y hj
        · rw [List.getElem?_append_right (by omega)] at hj
          simp only [List.flatten_cons, List.flatten_nil, List.append_nil] at hj
          have hjl : j - rows.flatten.length < k.size := by
            have := (List.getElem?_eq_some_iff.1 hj).1
            omega
          have := hc (j - rows.flatten.length) hjl
          rw [hj] at this
          rw [← this]
          congr 2
          rw [r2] at hlt ⊢
          omega
  obtain ⟨rows, r1, -, r3⟩ := key us.length (Nat.le_refl _)
  rw [List.take_of_length_le (Nat.le_refl _)] at r1
  exact ⟨o, c, b, off, rows, h1, h2, h3, h4, r1, r3⟩

end Go.Proofs.YtihapgangilncaaGreat
namespace Go.Proofs.YtihapgangilncaaGreat
open Go.RowKit
set_option linter.unusedSimpArgs false

/-- what fromElem yields -/
def backE : PEl → EL
  | .field s => ⟨0, s, [], [], vzero, 0⟩
  | .key fs => ⟨1, ⟨#[]⟩, fs.map (·.1), fs.map (fun p => p.2.back), vzero, 0⟩
  | .value t => ⟨2, ⟨#[]⟩, [], [], t.back, 0⟩
  | .index n => ⟨3, ⟨#[]⟩, [], [], vzero, n⟩
/-- a row stays where another row grows -/
theorem Row.other {α : Type} {k : Kind α} {e : TypeId} {w w' : World} {X : List Nat} {v u u' : Value} {us : List α} (h : Row k e w (vb u ++ X) v us) (hg : w.grownBy w' u.ownBlock) (hd : ∀ g, u'.ownBlock = some g → u.ownBlock = some g ∨ w.heap.size ≤ g) : Row k e w' (vb u' ++ X) v us := by
  obtain ⟨rows, h1, h2, h3⟩ := h.ex
  refine ⟨rows, h1.keep fun g hv => hg.block g (h1.lt hv) (fun e => h3 g hv (by simp [vb, ← e])), h2.imp fun _ _ h => k.mv h ?_, fun g hv hm => ?_⟩
  · have e1 : Mv w (vb v ++ (vb u ++ X)) w (vb u ++ (vb v ++ X)) := (Mv.refl _ _).less fun b hb => by simp only [List.mem_append] at hb ⊢; rcases hb with h | h | h <;> simp [h]
    exact (e1.trans (Mv.app hg hd)).less fun b hb => by simp only [List.mem_append] at hb ⊢; rcases hb with h | h | h <;> simp [h]
  · rcases List.mem_append.1 hm with hm | hm
    · have hu : u'.ownBlock = some g := by simpa [vb] using hm
      rcases hd g hu with h | h
      · exact h3 g hv (by simp [vb, h])
      · have := h1.lt hv; omega
    · exact h3 g hv (by simp [hm])

end Go.Proofs.YtihapgangilncaaGreat
namespace Go.Proofs.YtihapgangilncaaGreat
open Go.RowKit
set_option linter.unusedSimpArgs false

theorem zip_back : ∀ (ks : List ByteArray) (l : List V), (ks.zip (V.plainL l)).map (·.1) = ks.take (min ks.length l.length) ∧ (ks.zip (V.plainL l)).map (fun p => p.2.back) = V.cleanL (l.take (min ks.length l.length))
  | [], l => by simp [V.cleanL]
  | k :: ks, [] => by simp [V.plainL, V.cleanL]
  | k :: ks, v :: l => by
    obtain ⟨h1, h2⟩ := zip_back ks l
    have e : min (k :: ks).length (v :: l).length = min ks.length l.length + 1 := by simp only [List.length_cons]; omega
    rw [e]
    simp only [V.plainL, List.zip_cons_cons, List.map_cons, List.take_succ_cons, V.cleanL, back_plain, h1, h2, and_self]

theorem cleanEl_back (e : EL) : cleanEl e = backE (toE e) := by
  obtain ⟨kind, s, keys, l, v, n⟩ := e
  unfold cleanEl toE
  dsimp only
  split
  · obtain ⟨h1, h2⟩ := zip_back keys l
    simp only [backE, h1, h2]
  · split
    · simp only [backE, back_plain]
    · split <;> rfl

theorem cmpT_back (v : V) (u : T) : cmpT v.plain.back.plain u = cmpT v.plain u := by
  unfold cmpT
  rw [back_plain, back_plain, clean_clean]

/-- elements of the program that stand for elements of the reference -/
def FromEl (p : PEl) : Prop := ∃ e, p = toE e

theorem cmpE_back : ∀ (ks : List ByteArray) (l : List V) (gs : EntsOfT T), cmpE cmpT ((ks.zip (V.plainL l)).map fun p => (p.1, p.2.back.plain)) gs = cmpE cmpT (ks.zip (V.plainL l)) gs
  | [], l, gs => by cases gs <;> simp
  | k :: ks, [], gs => by cases gs <;> simp [V.plainL]
  | k :: ks, v :: l, [] => by simp [V.plainL, cmpE]
  | k :: ks, v :: l, g :: gs => by
    simp only [V.plainL, List.zip_cons_cons, List.map_cons, cmpE, cmpT_back, cmpE_back ks l gs]

theorem cmpPe_back {p : PEl} (h : FromEl p) (q : PEl) : cmpPe (toE (backE p)) q = cmpPe p q := by
  obtain ⟨e, rfl⟩ := h
  obtain ⟨kind, s, keys, l, v, n⟩ := e
  unfold toE
  dsimp only
  split
  · have e1 : (backE (.key (keys.zip (V.plainL l)))).keys.zip (V.plainL (backE (.key (keys.zip (V.plainL l)))).l) = (keys.zip (V.plainL l)).map fun p => (p.1, p.2.back.plain) := by
      simp only [backE, V.plainL_eq, List.map_map]
      rw [List.zip_map']
      rfl
    rw [if_pos (show (backE (.key (keys.zip (V.plainL l)))).kind = 1 from rfl), e1]
    cases q <;> simp only [cmpPe]
    exact cmpE_back _ _ _
  · split
    · rw [if_neg (by simp [backE]), if_pos (by simp [backE])]
      cases q <;> simp only [cmpPe, backE]
      exact cmpT_back _ _
    · split
      · rw [if_neg (by simp [backE]), if_neg (by simp [backE]), if_pos (by simp [backE])]
        rfl
      · rw [if_neg (by simp [backE]), if_neg (by simp [backE]), if_neg (by simp [backE])]
        rfl

theorem tame_back {e : EL} (h : tameEl e) : tameEl (backE (toE e)) := by
  rw [← cleanEl_back]
  have hcc : cleanEl (cleanEl e) = cleanEl e := by
    obtain ⟨kind, s, keys, l, v, n⟩ := e
    unfold cleanEl
    dsimp only
    by_cases h1 : kind = 1
    · simp only [if_pos h1]
      have e1 : min (keys.take (min keys.length l.length)).length (V.cleanL (l.take (min keys.length l.length))).length = min keys.length l.length := by
        rw [cleanL_length, List.length_take, List.length_take]; omega
      simp only [if_true, e1, List.take_take, Nat.min_self]
      congr 1
      rw [List.take_of_length_le (by rw [cleanL_length, List.length_take]; omega), V.cleanL_eq, V.cleanL_eq, List.map_map]
      exact List.map_congr_left fun v _ => clean_clean v
    · simp only [if_neg h1]
      by_cases h2 : kind = 2
      · simp only [if_pos h2]
        simp [clean_clean]
      · simp only [if_neg h2]
        by_cases h3 : kind = 3
        · simp [if_pos h3]
        · simp [if_neg h3]
  unfold tameEl at h ⊢
  rw [hcc]
  exact h

end Go.Proofs.YtihapgangilncaaGreat
namespace Go.Proofs.YtihapgangilncaaGreat
open Go.RowKit
set_option linter.unusedSimpArgs false

theorem Mut.thenNew {a b c : World} {B C : List Nat} (h : Mut a B b) (m : Mut b C c) (hC : ∀ k ∈ C, k ∈ B ∨ a.heap.size ≤ k) : Mut a B c :=
  ⟨m.os.trans h.os, m.tape.trans h.tape, m.output.trans h.output, Nat.le_trans h.size m.size, fun k hk hx => (m.block k (Nat.lt_of_lt_of_le hk h.size) (fun hc => (hC k hc).elim hx (fun h2 => by omega))).trans (h.block k hk hx)⟩

theorem Tryz.info47 : (Tryz.prog.info? 47).map (fun i => (i.zero, i.size, i.bytes)) = some (some (.agg #[.int .i64 0, .string ⟨#[]⟩, .slice none 0 0, .slice none 0 0, .int .i64 0, .int .i64 0, .float .f64 0, .string ⟨#[]⟩, .slice none 0 0, .slice none 0 0, .int .i64 0]), 11, 168) := by kernel_rfl
theorem Tryz.info22 : (Tryz.prog.info? 22).map (fun i => (i.zero, i.size, i.bytes)) = some (some (.slice none 0 0), 1, 24) := by kernel_rfl

end Go.Proofs.YtihapgangilncaaGreat
