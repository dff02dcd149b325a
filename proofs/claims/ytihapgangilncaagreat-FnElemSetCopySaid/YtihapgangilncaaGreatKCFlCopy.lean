/- spec.CompareElems. Rows made at full length and filled by copy: FieldList.Copy. -/
import Derived.Test.YtihapgangilncaaGreatKCPeGood
import Derived.Test.YtihapgangilncaaGreatKCKeysD
import Derived.Laws.OwnMore
namespace Go.Proofs.YtihapgangilncaaGreat
open Go.RowKit
set_option linter.unusedSimpArgs false

theorem toE_rank (e : EL) : toE e = if rankOf e.kind = 1 then .key (e.keys.zip (V.plainL e.l)) else if rankOf e.kind = 2 then .value e.v.plain else if rankOf e.kind = 3 then .index e.n else .field e.s := by
  unfold toE rankOf
  by_cases h1 : e.kind = 1 <;> by_cases h2 : e.kind = 2 <;> by_cases h3 : e.kind = 3 <;> simp [h1, h2, h3]
theorem rankOf_cases (k : Int) : rankOf k = 0 ∨ rankOf k = 1 ∨ rankOf k = 2 ∨ rankOf k = 3 := by
  unfold rankOf; split <;> omega
theorem rank_law (a b : EL) (h : rankOf a.kind ≠ rankOf b.kind) : cmpPe (toE a) (toE b) = cmpI (rankOf a.kind) (rankOf b.kind) := by
  rw [toE_rank, toE_rank]
  rcases rankOf_cases a.kind with e1 | e1 | e1 | e1 <;> rcases rankOf_cases b.kind with e2 | e2 | e2 | e2 <;> rw [e1, e2] at h ⊢ <;> first | (exact absurd rfl h) | (simp [cmpPe, cmpI])
theorem rank_one (a b : EL) (h1 : rankOf a.kind = 1) (h2 : rankOf b.kind = 1) : cmpPe (toE a) (toE b) = cmpE rV (a.keys.zip a.l) (b.keys.zip b.l) := by
  rw [toE_rank, toE_rank, h1, h2, if_pos rfl, if_pos rfl]
  simp only [cmpPe, V.plainL_eq, ← zip_map_right]
  rw [cmpE_map]
  congr 1
  funext x y
  exact cmpT_plain x y
theorem rank_two (a b : EL) (h1 : rankOf a.kind = 2) (h2 : rankOf b.kind = 2) : cmpPe (toE a) (toE b) = V.cmpP a.v.clean b.v.clean := by
  rw [toE_rank, toE_rank, h1, h2]
  exact cmpT_plain _ _
theorem rank_three (a b : EL) (h1 : rankOf a.kind = 3) (h2 : rankOf b.kind = 3) : cmpPe (toE a) (toE b) = cmpI a.n b.n := by
  rw [toE_rank, toE_rank, h1, h2]; rfl
theorem rank_none (a b : EL) (h1 : rankOf a.kind ≠ 1) (h2 : rankOf a.kind ≠ 2) (h3 : rankOf a.kind ≠ 3) (h : rankOf a.kind = rankOf b.kind) : cmpPe (toE a) (toE b) = cmpS a.s b.s := by
  rw [toE_rank, toE_rank, ← h, if_neg h1, if_neg h2, if_neg h3, if_neg h1, if_neg h2, if_neg h3]; rfl

set_option maxRecDepth 100000 in
set_option maxHeartbeats 4000000 in
set_option pp.maxSteps 1000000 in
set_option pp.deepTerms true in
theorem specCompareElems_c {w : World} {X Y : List Nat} {cs ds : List Value} {a b : EL} (ha : kEl.is w X cs a) (hb : kEl.is w Y ds b) (R : Ending → World → Prop) (hR : Ends R w (.int .i64 (cmpPe (toE a) (toE b)))) :
    Calls Tryz.prog 55 #[.agg cs.toArray, .agg ds.toArray] w R := by
  have ha' := Lib.hid ha
  have hb' := Lib.hid hb
  obtain ⟨kind, s, keys, l, v, n⟩ := a
  obtain ⟨kind2, s2, keys2, l2, v2, n2⟩ := b
  obtain ⟨vk, vl, vs, rfl, -, -, hsz, hks, hl, hv⟩ := ha
  obtain ⟨vk2, vl2, vs2, rfl, -, -, -, hks2, hl2, hv2⟩ := hb
  dsimp only at hks hl hv hks2 hl2 hv2 hsz ⊢
  obtain ⟨x, rfl⟩ := hv.shape
  obtain ⟨y, rfl⟩ := hv2.shape
  obtain ⟨ko, kc, kb, koff, rfl, k2, k3, -, -⟩ := id hks.ex
  obtain ⟨o, c, b, off, rfl, c2, c3, -, -⟩ := id hl.ex
  obtain ⟨ko2, kc2, kb2, koff2, rfl, j2, j3, -, -⟩ := id hks2.ex
  obtain ⟨o2, d, b2, off2, rfl, d2, d3, -, -⟩ := id hl2.ex
  have hv' := Lib.hid hv
  have hv2' := Lib.hid hv2
  have hR' := Lib.hid hR
  clear hR hks hl hv hks2 hl2 hv2
  simp only [Cells6.list, List.cons_append, List.nil_append] at ha' hb' ⊢
  go_enter Tryz.func55, Tryz.ntmps55
  go_wp2_with fail
  refine abs2 (G := Code.wp _ _ _ _) ?_
  intro w1 hE1 hb1 hb2 hs1
  have e0 : w1.cell? ⟨w.heap.size, 0, none⟩ = some (.int .i64 kind) := cells_of hb1 0; have e1 : w1.cell? ⟨w.heap.size, 1, none⟩ = some (.string s) := cells_of hb1 1; have e2 : w1.cell? ⟨w.heap.size, 2, none⟩ = some (.slice ko keys.length kc) := cells_of hb1 2; have e3 : w1.cell? ⟨w.heap.size, 3, none⟩ = some (.slice o l.length c) := cells_of hb1 3; have e4 : w1.cell? ⟨w.heap.size, 4, none⟩ = some (.int .i64 x.kind) := cells_of hb1 4; have e5 : w1.cell? ⟨w.heap.size, 5, none⟩ = some (.int .i64 x.n) := cells_of hb1 5; have e6 : w1.cell? ⟨w.heap.size, 6, none⟩ = some (.float .f64 x.f) := cells_of hb1 6; have e7 : w1.cell? ⟨w.heap.size, 7, none⟩ = some (.string x.s) := cells_of hb1 7; have e8 : w1.cell? ⟨w.heap.size, 8, none⟩ = some (.slice x.ko x.kn x.kc) := cells_of hb1 8; have e9 : w1.cell? ⟨w.heap.size, 9, none⟩ = some (.slice x.o x.m x.c) := cells_of hb1 9; have e10 : w1.cell? ⟨w.heap.size, 10, none⟩ = some (.int .i64 n) := cells_of hb1 10
  have f0 : w1.cell? ⟨w.heap.size + 1, 0, none⟩ = some (.int .i64 kind2) := cells_of hb2 0; have f1 : w1.cell? ⟨w.heap.size + 1, 1, none⟩ = some (.string s2) := cells_of hb2 1; have f2 : w1.cell? ⟨w.heap.size + 1, 2, none⟩ = some (.slice ko2 keys2.length kc2) := cells_of hb2 2; have f3 : w1.cell? ⟨w.heap.size + 1, 3, none⟩ = some (.slice o2 l2.length d) := cells_of hb2 3; have f4 : w1.cell? ⟨w.heap.size + 1, 4, none⟩ = some (.int .i64 y.kind) := cells_of hb2 4; have f5 : w1.cell? ⟨w.heap.size + 1, 5, none⟩ = some (.int .i64 y.n) := cells_of hb2 5; have f6 : w1.cell? ⟨w.heap.size + 1, 6, none⟩ = some (.float .f64 y.f) := cells_of hb2 6; have f7 : w1.cell? ⟨w.heap.size + 1, 7, none⟩ = some (.string y.s) := cells_of hb2 7; have f8 : w1.cell? ⟨w.heap.size + 1, 8, none⟩ = some (.slice y.ko y.kn y.kc) := cells_of hb2 8; have f9 : w1.cell? ⟨w.heap.size + 1, 9, none⟩ = some (.slice y.o y.m y.c) := cells_of hb2 9; have f10 : w1.cell? ⟨w.heap.size + 1, 10, none⟩ = some (.int .i64 n2) := cells_of hb2 10
  clear hb1 hb2 hs1
  have hC : Ext w1 w1.drew := (Ext.refl _).drew
  refine wp_region_script [0, 2, 5] [1] (fun w' => Ext w1 w') [(.read, 0), (.read, 2), (.one, 1), (.one, 3), (.one, 4), (.pure, 5)] (by kernel_rfl) (by kernel_rfl) ?_
  (apply scr_read'; (· rfl); (· rfl); (· first | exact hC | exact (Ext.refl _).drew); (· (intro w' hw'; have e0_ := hw'.keep e0; have e1_ := hw'.keep e1; have e2_ := hw'.keep e2; have e3_ := hw'.keep e3; have e4_ := hw'.keep e4; have e5_ := hw'.keep e5; have e6_ := hw'.keep e6; have e7_ := hw'.keep e7; have e8_ := hw'.keep e8; have e9_ := hw'.keep e9; have e10_ := hw'.keep e10; go_simp; try rfl)); (· (simp [go_sem]; try rfl)))
  (apply scr_read'; (· rfl); (· rfl); (· first | exact hC | exact (Ext.refl _).drew); (· (intro w' hw'; have f0_ := hw'.keep f0; have f1_ := hw'.keep f1; have f2_ := hw'.keep f2; have f3_ := hw'.keep f3; have f4_ := hw'.keep f4; have f5_ := hw'.keep f5; have f6_ := hw'.keep f6; have f7_ := hw'.keep f7; have f8_ := hw'.keep f8; have f9_ := hw'.keep f9; have f10_ := hw'.keep f10; go_simp; try rfl)); (· (simp [go_sem]; try rfl)))
  refine scr_one rfl rfl (fun K hK => ?_)
  go_simp
  refine elemRank_c _ ?_
  intro w2 hE2
  refine hK _ _ (fun _ => hC.trans hE2) ?_
  clear hK
  refine scr_one rfl rfl (fun K hK => ?_)
  go_simp
  refine elemRank_c _ ?_
  intro w3 hE3
  refine hK _ _ (fun h => by simp at h) ?_
  clear hK
  refine scr_one rfl rfl (fun K hK => ?_)
  go_simp
  refine specCompareInts_c _ ?_
  intro w3b hE3b
  refine hK _ _ (fun h => by simp at h) ?_
  clear hK
  have hE4 : Ext w1 w3b := hC.trans (hE2.trans (hE3.trans hE3b))
  replace e0 := hE4.keep e0; replace e1 := hE4.keep e1; replace e2 := hE4.keep e2; replace e3 := hE4.keep e3; replace e4 := hE4.keep e4; replace e5 := hE4.keep e5; replace e6 := hE4.keep e6; replace e7 := hE4.keep e7; replace e8 := hE4.keep e8; replace e9 := hE4.keep e9; replace e10 := hE4.keep e10; replace f0 := hE4.keep f0; replace f1 := hE4.keep f1; replace f2 := hE4.keep f2; replace f3 := hE4.keep f3; replace f4 := hE4.keep f4; replace f5 := hE4.keep f5; replace f6 := hE4.keep f6; replace f7 := hE4.keep f7; replace f8 := hE4.keep f8; replace f9 := hE4.keep f9; replace f10 := hE4.keep f10
  have hA := hE1.trans hE4
  clear hE4 hE1 hE2 hE3 hE3b hC
  by_cases hrk : rankOf kind = rankOf kind2
  rotate_left
  · obtain ⟨z, hz⟩ : ∃ z, cmpI (rankOf kind) (rankOf kind2) = z := ⟨_, rfl⟩
    have hz0 : z ≠ 0 := fun h => hrk (cmpI_zero.1 (hz.trans h))
    have hzb : (z == 0) = false := by simpa using hz0
    have hlaw := Lib.hid (rank_law ⟨kind, s, keys, l, v, n⟩ ⟨kind2, s2, keys2, l2, v2, n2⟩ hrk)
    rw [hz]
    have hz' := Lib.hid hz
    clear hrk hz
    (apply scr_pure'; (· rfl); (· rfl); (· (intro w'; go_simp; try rfl)); (· (simp [go_sem]; try rfl)))
    refine scr_end ?_
    simp only [Exit.then]
    go_wp2_with fail
    exact hR'.out.int (by rw [hlaw.out]; exact hz'.out) _ hA
  rw [cmpI_zero.2 hrk]
  have hrk' := Lib.hid hrk
  clear hrk
  (apply scr_pure'; (· rfl); (· rfl); (· (intro w'; go_simp; try rfl)); (· (simp [go_sem]; try rfl)))
  refine scr_end ?_
  simp only [Exit.then]
  go_wp2_with fail
  refine elemRank_c _ ?_
  intro w4 hE4
  replace e0 := hE4.keep e0; replace e1 := hE4.keep e1; replace e2 := hE4.keep e2; replace e3 := hE4.keep e3; replace e4 := hE4.keep e4; replace e5 := hE4.keep e5; replace e6 := hE4.keep e6; replace e7 := hE4.keep e7; replace e8 := hE4.keep e8; replace e9 := hE4.keep e9; replace e10 := hE4.keep e10; replace f0 := hE4.keep f0; replace f1 := hE4.keep f1; replace f2 := hE4.keep f2; replace f3 := hE4.keep f3; replace f4 := hE4.keep f4; replace f5 := hE4.keep f5; replace f6 := hE4.keep f6; replace f7 := hE4.keep f7; replace f8 := hE4.keep f8; replace f9 := hE4.keep f9; replace f10 := hE4.keep f10
  replace hA := hA.trans hE4
  clear hE4
  dsimp only
  have hk : rankOf kind = 1 ∨ rankOf kind = 2 ∨ rankOf kind = 3 ∨ ((rankOf kind == 1) = false ∧ (rankOf kind == 2) = false ∧ (rankOf kind == 3) = false) := by
    by_cases h1 : rankOf kind = 1 <;> by_cases h2 : rankOf kind = 2 <;> by_cases h3 : rankOf kind = 3 <;> simp [h1, h2, h3]
  rcases hk with hk | hk | hk | ⟨q1, q2, q3⟩
  · have hlaw := Lib.hid (rank_one ⟨kind, s, keys, l, v, n⟩ ⟨kind2, s2, keys2, l2, v2, n2⟩ hk (hrk'.out ▸ hk))
    rw [hk]
    clear hk
    go_wp2_with fail
    refine specCompareKeys_c (kEl.mv ha'.out (hA.mv _)) (kEl.mv hb'.out (hA.mv _)) _ ?_
    intro w5 hE5
    dsimp only
    go_wp2_with fail
    exact hR'.out.int hlaw.out _ (hA.trans hE5)
  · have hlaw := Lib.hid (rank_two ⟨kind, s, keys, l, v, n⟩ ⟨kind2, s2, keys2, l2, v2, n2⟩ hk (hrk'.out ▸ hk))
    rw [hk]
    clear hk
    go_wp2_with fail
    refine specCompareValues_c (cs := x.list) (ds := y.list) (hv'.out.mv (hA.mv _)) (hv2'.out.mv (hA.mv _)) _ ?_
    intro w5 hE5
    dsimp only
    go_wp2_with fail
    exact hR'.out.int hlaw.out _ (hA.trans hE5)
  · have hlaw := Lib.hid (rank_three ⟨kind, s, keys, l, v, n⟩ ⟨kind2, s2, keys2, l2, v2, n2⟩ hk (hrk'.out ▸ hk))
    rw [hk]
    clear hk
    go_wp2_with fail
    refine specCompareInts_c _ ?_
    intro w5 hE5
    dsimp only
    go_wp2_with fail
    exact hR'.out.int hlaw.out _ (hA.trans hE5)
  · have hlaw := Lib.hid (rank_none ⟨kind, s, keys, l, v, n⟩ ⟨kind2, s2, keys2, l2, v2, n2⟩ (by simpa using q1) (by simpa using q2) (by simpa using q3) hrk'.out)
    go_wp2_with fail
    refine specCompareStrings_c hsz _ ?_
    intro w5 hE5
    dsimp only
    go_wp2_with fail
    exact hR'.out.int hlaw.out _ (hA.trans hE5)
end Go.Proofs.YtihapgangilncaaGreat
namespace Go.Proofs.YtihapgangilncaaGreat
open Go.RowKit
set_option linter.unusedSimpArgs false

section
variable {P : Program}
theorem wpL_makeN {w : World} {ops : Array Oper} {rest : List Oper} {o : Oper} {a : Act} {Q : Exit → Act → World → Prop} (hgd : o.guard = none) (t : TypeId) (lo co : Operand) (ho : o.op = .makeSlice t lo co)
    {e : TypeId} {z : Value} {size bytes : Nat} (ht : P.underlying t = some (.slice e)) (hi : (P.info? e).map (fun i => (i.zero, i.size, i.bytes)) = some (some z, size, bytes))
    {n : Nat} (hl : a.eval lo = .int .i64 (n : Int)) (hc : a.eval co = .int .i64 (n : Int)) (hbytes : bytes * n ≤ 281474976710656) (h63 : n ≤ maxLen)
    (h : ∀ w' cur, w'.heap[w.heap.size]? = some (.cells cur e (0, 0)) → cur.size = n * size → Ext w w' → wpList P ops Q rest (a.put o.dst (.slice (some ⟨w.heap.size, 0, none⟩) n n)) w') : wpList P ops Q (o :: rest) a w := by
  obtain ⟨i, hi1, hz, hsize, hby⟩ := info_parts hi
  subst hby
  obtain ⟨w', hr, h2, h3⟩ := run_make_full (P := P) w 0 t e i z size ht hi1 hz hsize .i64 .i64 n hbytes h63 (Nat.zero_le _)
  refine wpList_plain hgd fun _ hK => ?_
  unfold Oper.wp execOp
  simp only [ho, Sem.run_bind, Sem.run_pure, Result.andThen_ok, hl, hc, hr]
  rcases h2.2 with ⟨e1, -⟩ | ⟨g, cap, cur, e1, -, hg, -, -, hcs, -⟩
  · cases e1
  · cases e1
    exact hK _ _ (h w' cur hg hcs (World.grownBy.ext h3))
theorem wpL_copy0 {w : World} {ops : Array Oper} {rest : List Oper} {o : Oper} {a : Act} {Q : Exit → Act → World → Prop} (hgd : o.guard = none) (d s : Operand) (dT sT : TypeId)
    (ho : o.op = .call { callee := .builtin .copy, args := #[d, s], argTypes := #[dT, sT] }) {elem : TypeId} (hu : P.underlying dT = some (.slice elem)) {sz : Nat} (hs : (P.info? elem).map (·.size) = some sz)
    {dp sp : Option Addr} {dLen dCap sLen sCap : Nat} (hd : a.eval d = .slice dp dLen dCap) (hsv : a.eval s = .slice sp sLen sCap) (hn : Nat.min sLen dLen = 0)
    (h : wpList P ops Q rest (a.put o.dst (goInt 0)) w) : wpList P ops Q (o :: rest) a w := by
  have hrun : (Builtin.copy_ #[dT, sT] o.type #[.slice dp dLen dCap, .slice sp sLen sCap]).run P w = .ok (goInt 0) w := by
    cases hq : P.info? elem with
    | none => simp [hq] at hs
    | some i =>
      have hl : ∀ (x : Addr), (loadCells x 0).run P w = .ok #[] w := fun x => by simpa using run_loadCells_list (P := P) w x [] (by simp)
      cases dp <;> cases sp <;> simp [Builtin.copy_, run_underlying hu, Builtin.lenOf, Builtin.firstCells, sizeOf, typeInfo, hq, hn, storeCells, hl]
  refine wpList_plain hgd fun K hK => ?_
  unfold Oper.wp
  simp [execOp, ho, resolve, invoke, builtin, hd, hsv, hrun, Result.andThen]
  exact hK _ _ h
end

/-- the cells of a slice, row by row -/
theorem IsSl.rows {α : Type} {k : Kind α} {bytes : Nat} {w : World} {X : List Nat} {v : Value} {us : List α} (h : IsSl k bytes w X v us) :
    ∃ o c b off, ∃ rows : List (List Value), v = .slice o us.length c ∧ us.length ≤ c ∧ us.length * bytes ≤ 140737488351232 ∧ (0 < us.length → o = some ⟨b, off, none⟩ ∧ b ∉ X) ∧ All2 (k.is w X) rows us ∧
      ∀ j y, rows.flatten[j]? = some y → w.cell? ⟨b, off + j, none⟩ = some y := by
  obtain ⟨o, c, b, off, h1, h2, h3, h4, h5⟩ := h.ex
  have key : ∀ m, m ≤ us.length → ∃ rows : List (List Value), All2 (k.is w X) rows (us.take m) ∧ rows.flatten.length = m * k.size ∧ ∀ j y, rows.flatten[j]? = some y → w.cell? ⟨b, off + j, none⟩ = some y := by
    intro m
    induction m with
    | zero => intro _; exact ⟨[], .nil, by simp, fun j y hj => by simp at hj⟩
    | succ m ih =>
      intro hm
      obtain ⟨rows, r1, r2, r3⟩ := ih (by omega)
      obtain ⟨cs, hc, hcs⟩ := h5 m (by omega)
      have hl := k.len hcs
      refine ⟨rows ++ [cs], ?_, ?_, fun j y hj => ?_⟩
      · rw [List.take_succ_eq_append_getElem (by omega)]
        exact r1.snoc hcs
      · rw [List.flatten_append, List.length_append, r2, Nat.add_mul]; simp [hl]
      · rw [List.flatten_append] at hj
        by_cases hlt : j < rows.flatten.length
        · rw [List.getElem?_append_left hlt] at hj
          exact r3 j y hj
        · rw [List.getElem?_append_right (by omega)] at hj
          simp only [List.flatten_cons, List.flatten_nil, List.append_nil] at hj
          have hjl : j - rows.flatten.length < k.size := by
            have := (List.getElem?_eq_some_iff.1 hj).1
            omega
          have := hc (j - rows.flatten.length) hjl
          rw [hj] at this
          rw [← this]
          congr 2
          rw [r2] at hlt ⊢
          omega
  obtain ⟨rows, r1, -, r3⟩ := key us.length (Nat.le_refl _)
  rw [List.take_of_length_le (Nat.le_refl _)] at r1
  exact ⟨o, c, b, off, rows, h1, h2, h3, h4, r1, r3⟩

theorem Tryz.infoFd : (Tryz.prog.info? 223).map (·.size) = some 2 := by kernel_rfl

set_option maxRecDepth 100000 in
set_option maxHeartbeats 4000000 in
theorem flCopy_c {w : World} {X : List Nat} {v : Value} {fs : EntsOfT T} (hv : IsSl kFd 32 w X v fs) (hX : Old X w) (R : Ending → World → Prop) (hR : ∀ w' v', Ext w w' → IsSl kFd 32 w' X v' fs → R (.returned v') w') :
    Calls Tryz.prog 144 #[v] w R := by
  obtain ⟨o, c, b, off, rows, rfl, l1, l2, l3, l4, l5⟩ := hv.rows
  have hrl := All2.mem_len (s := 2) (fun r a h => kFd.len h) l4
  have hfl : rows.flatten.length = fs.length * 2 := by rw [flat_len hrl, l4.length]
  have h1 : ∀ y ∈ rows.flatten, y.oneCell' = true := Row.flat l4
  have h63 : fs.length ≤ maxLen := by rw [maxLen_eq]; omega
  have hb48 : 32 * fs.length ≤ 281474976710656 := by omega
  have l3' := Lib.hid l3
  have l4' := Lib.hid l4
  have l5' := Lib.hid l5
  have hfl' := Lib.hid hfl
  have h1' := Lib.hid h1
  have h63' := Lib.hid h63
  have hX' := Lib.hid hX
  have hR' := Lib.hid hR
  have l2' := Lib.hid l2
  clear hv l3 l4 l5 hrl hfl h1 hX hR l2
  have hisz : (Tryz.prog.info? 223).map (·.size) = some 2 := Tryz.infoFd
  by_cases h0 : fs = []
  · subst h0
    go_enter Tryz.func144, Tryz.ntmps144
    go_wp2_with (first
      | (refine wpL_makeN rfl _ _ _ rfl Tryz.underlying169 Tryz.info223 (n := 0) rfl rfl (by omega) (by rw [maxLen_eq]; omega) ?_; intro w1 cur hb1 hsz1 hE1)
      | (refine wpL_copy0 rfl _ _ _ _ rfl Tryz.underlying169 hisz rfl rfl rfl ?_))
    exact hR'.out w1 _ hE1 ⟨_, _, 0, 0, rfl, Nat.le_refl _, by simp, fun h => by simp at h, fun i hi => by simp at hi⟩
  · have hpos : 0 < fs.length := List.length_pos_iff.2 h0
    obtain ⟨rfl, hbX⟩ := l3'.out hpos
    obtain ⟨n, hn⟩ : ∃ n, n = fs.length := ⟨_, rfl⟩
    have h63n : n ≤ maxLen := by rw [hn]; exact h63
    have hb48n : 32 * n ≤ 281474976710656 := by rw [hn]; exact hb48
    have hfln : rows.flatten.length = n * 2 := by rw [hn]; exact hfl'.out
    rw [← hn]
    have hn' := Lib.hid hn
    have hfln' := Lib.hid hfln
    clear h0 hn hfl' h63 hb48 hfln l1 hpos h63'
    go_enter Tryz.func144, Tryz.ntmps144
    go_wp2_with (first
      | (refine wpL_makeN rfl _ _ _ rfl Tryz.underlying169 Tryz.info223 (n := n) rfl rfl hb48n h63n ?_; intro w1 cur hb1 hsz1 hE1; have hb1' := Lib.hid hb1; have hsz1' := Lib.hid hsz1; clear hb1 hsz1)
      | (refine wpL_copyN rfl _ _ _ _ rfl Tryz.underlying169 hisz (g := w.heap.size) (off := 0) (dLen := n) (dCap := n) (ad := ⟨b, off, none⟩) (sLen := n) (sCap := c) (by first | rfl | (go_simp; try rfl)) (by first | rfl | (go_simp; try rfl)) (t := 223) hb1'.out rows.flatten (by rw [hfln'.out]; simp) (fun j y hj => by
            have e1 : (⟨b, off, none⟩ : Addr).add j = ⟨b, off + j, none⟩ := by unfold Addr.add; split <;> simp_all
            rw [e1]
            exact hE1.keep (l5'.out j y hj)) (by rw [hfln'.out, hsz1'.out]; omega) h1'.out ?_; intro w2 h2 g2))
    have hE2 : Ext w w2 := hE1.grown g2 (fun k hk => by cases hk; exact Nat.le_refl _)
    have hgX : w.heap.size ∉ X := fun h => by have := hX'.out _ h; omega
    have hcl : cur.toList.length = n * 2 := by rw [Array.length_toList]; exact hsz1'.out
    have hdn : cur.toList.drop (0 + rows.flatten.length) = [] := List.drop_eq_nil_of_le (by rw [hfln'.out, hcl]; omega)
    rw [hdn] at h2
    simp only [List.take_zero, List.nil_append, List.append_nil] at h2
    have hown : Own w2 223 2 (.slice (some ⟨w.heap.size, 0, none⟩) n n) n rows.flatten := ⟨hfln'.out, .inr ⟨w.heap.size, n, _, rfl, Nat.zero_le _, h2, Nat.le_refl _, h63n, by rw [List.size_toArray]; exact hfln'.out, List.take_of_length_le (by show rows.flatten.length ≤ _; rw [hfln'.out]; exact Nat.le_refl _)⟩⟩
    have hrow : Row kFd 223 w2 X (.slice (some ⟨w.heap.size, 0, none⟩) n n) fs := ⟨rows, by rw [← hn'.out]; exact hown, l4'.out.imp fun _ _ h => kFd.mv h ((hE2.mv X).more (n := w.heap.size) (Nat.le_refl _)), fun g hg => by cases hg; exact hgX⟩
    exact hR'.out w2 _ hE2 (hrow.isSl l2'.out)
end Go.Proofs.YtihapgangilncaaGreat
