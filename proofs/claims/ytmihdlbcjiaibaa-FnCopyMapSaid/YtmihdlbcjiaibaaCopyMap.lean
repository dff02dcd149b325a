/- CopyMap: Map.CopyInto, impl.CopyMap, zzFits20. -/
import Derived.Test.YtmihdlbcjiaibaaDeduceC
import Derived.Test.YtmihdlbcjiaibaaPar
namespace Go.Proofs.Ytmihdlbcjiaibaa
open Go.RowKit

set_option maxRecDepth 100000 in
set_option maxHeartbeats 4000000 in
theorem zzFits20_any {α : Type} {k : Kind α} {bytes : Nat} {w : World} {X : List Nat} {vs c1 c2 c3 c4 c5 c6 : Value} {rel : ByteArray} {ts : List α} (hs : IsSl k bytes w X vs ts) (R : Ending → World → Prop) (hR : ∀ b, Ends R w (.bool b)) :
    Calls Try.prog 20 #[.agg #[vs, c1, c2, c3, c4, c5, c6, .string rel]] w R := by
  obtain ⟨ko, kc, db, doff, rfl, -⟩ := hs.ex
  have hR' := Lib.hid hR
  clear hR hs
  go_enter Try.func20, Try.ntmps20
  go_wp2_with fail
  all_goals exact hR'.out _ _ (.alloc _ _)

theorem Try.info95 : (Try.prog.info? 95).map (fun i => (i.zero, i.size, i.bytes)) = some (some (.slice none 0 0), 1, 24) := by kernel_rfl
theorem Try.info105 : (Try.prog.info? 105).map (fun i => (i.zero, i.size, i.bytes)) = some (some (.string ⟨#[]⟩), 1, 16) := by kernel_rfl

set_option maxRecDepth 100000 in
set_option maxHeartbeats 8000000 in
set_option pp.maxSteps 1000000 in
set_option pp.deepTerms true in
theorem copyInto_c {w : World} {bx bd : Nat} {T T' : TypeId} {x0 x1 x2 x3 x4 x5 x6 x7 x8 y0 y1 y2 y3 y4 y5 y6 y7 y8 : Value} (hx : w.heap[bx]? = some (.cells #[x0, x1, x2, x3, x4, x5, x6, x7, x8] T (0, 0)))
    (hy : w.heap[bd]? = some (.cells #[y0, y1, y2, y3, y4, y5, y6, y7, y8] T' (0, 0))) (hne : bx ≠ bd) (ho : ∀ u ∈ [x0, x1, x2, x3, x4, x5, x6, x7, x8], u.oneCell' = true) (R : Ending → World → Prop)
    (hR : ∀ w', w'.heap[bd]? = some (.cells #[x0, x1, x2, x3, x4, x5, x6, x7, x8] T' (0, 0)) → w.grownBy w' (some bd) → R (.returned (.tuple #[])) w') :
    Calls Try.prog 53 #[.pointer (some ⟨bx, 0, none⟩), .pointer (some ⟨bd, 0, none⟩)] w R := by
  have hR' := Lib.hid hR
  simp only [listOne] at ho
  obtain ⟨o0, o1, o2, o3, o4, o5, o6, o7, o8, -⟩ := ho
  have c0 : w.cell? ⟨bx, 0, none⟩ = some (x0) := cells_of hx 0; have c1 : w.cell? ⟨bx, 1, none⟩ = some (x1) := cells_of hx 1; have c2 : w.cell? ⟨bx, 2, none⟩ = some (x2) := cells_of hx 2; have c3 : w.cell? ⟨bx, 3, none⟩ = some (x3) := cells_of hx 3; have c4 : w.cell? ⟨bx, 4, none⟩ = some (x4) := cells_of hx 4; have c5 : w.cell? ⟨bx, 5, none⟩ = some (x5) := cells_of hx 5; have c6 : w.cell? ⟨bx, 6, none⟩ = some (x6) := cells_of hx 6; have c7 : w.cell? ⟨bx, 7, none⟩ = some (x7) := cells_of hx 7; have c8 : w.cell? ⟨bx, 8, none⟩ = some (x8) := cells_of hx 8
  have hlb := (Array.getElem?_eq_some_iff.1 hx).1
  have hx' := Lib.hid hx
  clear hx hR
  go_enter Try.func53, Try.ntmps53
  go_wp2_with (first
    | (refine wpL_storeC rfl _ _ _ rfl Try.info94 (v := x0) (new := #[x0, y1, y2, y3, y4, y5, y6, y7, y8]) rfl rfl o0 hy (by simp) rfl ?_; intro w1 h1 g1; have hG1 := g1; replace c0 := grown_keep g1 c0 hne; replace c1 := grown_keep g1 c1 hne; replace c2 := grown_keep g1 c2 hne; replace c3 := grown_keep g1 c3 hne; replace c4 := grown_keep g1 c4 hne; replace c5 := grown_keep g1 c5 hne; replace c6 := grown_keep g1 c6 hne; replace c7 := grown_keep g1 c7 hne; replace c8 := grown_keep g1 c8 hne; clear hy g1)
    | (refine wpL_storeSeg (cells := #[x2, x3, x4, x5, x6, x7]) (new := #[x0, y1, x2, x3, x4, x5, x6, x7, y8]) rfl _ _ _ rfl Try.size104 rfl rfl h1 (by simp) (by simp [o2, o3, o4, o5, o6, o7]) rfl ?_; intro w2 h2 g2; have hG2 := hG1.trans g2; replace c0 := grown_keep g2 c0 hne; replace c1 := grown_keep g2 c1 hne; replace c2 := grown_keep g2 c2 hne; replace c3 := grown_keep g2 c3 hne; replace c4 := grown_keep g2 c4 hne; replace c5 := grown_keep g2 c5 hne; replace c6 := grown_keep g2 c6 hne; replace c7 := grown_keep g2 c7 hne; replace c8 := grown_keep g2 c8 hne; clear h1 g2 hG1)
    | (refine wpL_storeC rfl _ _ _ rfl Try.info95 (v := x1) (new := #[x0, x1, x2, x3, x4, x5, x6, x7, y8]) rfl rfl o1 h2 (by simp) rfl ?_; intro w3 h3 g3; have hG3 := hG2.trans g3; replace c0 := grown_keep g3 c0 hne; replace c1 := grown_keep g3 c1 hne; replace c2 := grown_keep g3 c2 hne; replace c3 := grown_keep g3 c3 hne; replace c4 := grown_keep g3 c4 hne; replace c5 := grown_keep g3 c5 hne; replace c6 := grown_keep g3 c6 hne; replace c7 := grown_keep g3 c7 hne; replace c8 := grown_keep g3 c8 hne; clear h2 g3 hG2)
    | (refine wpL_storeC rfl _ _ _ rfl Try.info105 (v := x8) (new := #[x0, x1, x2, x3, x4, x5, x6, x7, x8]) rfl rfl o8 h3 (by simp) rfl ?_; intro w4 h4 g4; have hG4 := hG3.trans g4))
  exact bodyPost_end (by simp [results, Try.results53, go_sem]) rfl (hR'.out w4 h4 hG4)

set_option maxRecDepth 100000 in
set_option maxHeartbeats 8000000 in
set_option pp.maxSteps 1000000 in
set_option pp.deepTerms true in
theorem implCopyMap_c {d : Nat} {w : World} {cs ds : List Value} {m n : MtOf A} (hm : (kMt (kA d)).is w [] cs m) (hn : (kMt (kA d)).is w [] ds n) (R : Ending → World → Prop)
    (hR : ∀ w' cs', Ext w w' → (kMt (kA d)).is w' [] cs' (frMt (frA d) (toMt (toA d) m)) → R (.returned (.agg cs'.toArray)) w') : Calls Try.prog 23 #[.agg cs.toArray, .agg ds.toArray] w R := by
  have hm' := Lib.hid hm
  have hn' := Lib.hid hn
  have hR' := Lib.hid hR
  obtain ⟨m0, m1, m2, m3, m4, m5, m6, m7, rfl⟩ := eight_of ((kMt (kA d)).len hm |>.trans (by simp [kMt, kA_size]))
  obtain ⟨n0, n1, n2, n3, n4, n5, n6, n7, rfl⟩ := eight_of ((kMt (kA d)).len hn |>.trans (by simp [kMt, kA_size]))
  have hmo := (kMt (kA d)).one hm
  have hno := (kMt (kA d)).one hn
  simp only [listOne] at hmo hno
  obtain ⟨o0, o1, o2, o3, o4, o5, o6, o7, -⟩ := hmo
  obtain ⟨q0, q1, q2, q3, q4, q5, q6, q7, -⟩ := hno
  clear hm hn hR
  go_enter Try.func23, Try.ntmps23
  go_wp2_with fail
  refine abs3 (G := fun wr => Code.wp _ _ _ _ wr) ?_
  intro w1 hE1 hb1 hb2 hb3 hs1
  have hl1 : w.heap.size + 2 < w1.heap.size := by omega
  clear hs1
  have c0 : w1.cell? ⟨w.heap.size, 0, none⟩ = some (m0) := cells_of hb1 0; have c1 : w1.cell? ⟨w.heap.size, 1, none⟩ = some (m1) := cells_of hb1 1; have c2 : w1.cell? ⟨w.heap.size, 2, none⟩ = some (m2) := cells_of hb1 2; have c3 : w1.cell? ⟨w.heap.size, 3, none⟩ = some (m3) := cells_of hb1 3; have c4 : w1.cell? ⟨w.heap.size, 4, none⟩ = some (m4) := cells_of hb1 4; have c5 : w1.cell? ⟨w.heap.size, 5, none⟩ = some (m5) := cells_of hb1 5; have c6 : w1.cell? ⟨w.heap.size, 6, none⟩ = some (m6) := cells_of hb1 6; have c7 : w1.cell? ⟨w.heap.size, 7, none⟩ = some (m7) := cells_of hb1 7
  have e0 : w1.cell? ⟨w.heap.size + 1, 0, none⟩ = some (n0) := cells_of hb2 0; have e1 : w1.cell? ⟨w.heap.size + 1, 1, none⟩ = some (n1) := cells_of hb2 1; have e2 : w1.cell? ⟨w.heap.size + 1, 2, none⟩ = some (n2) := cells_of hb2 2; have e3 : w1.cell? ⟨w.heap.size + 1, 3, none⟩ = some (n3) := cells_of hb2 3; have e4 : w1.cell? ⟨w.heap.size + 1, 4, none⟩ = some (n4) := cells_of hb2 4; have e5 : w1.cell? ⟨w.heap.size + 1, 5, none⟩ = some (n5) := cells_of hb2 5; have e6 : w1.cell? ⟨w.heap.size + 1, 6, none⟩ = some (n6) := cells_of hb2 6; have e7 : w1.cell? ⟨w.heap.size + 1, 7, none⟩ = some (n7) := cells_of hb2 7
  refine wp_region_par [0, 2] [1, 3, 4, 5] (fun w' => Ext w1 w') [(.read, 0), (.read, 2)] [1, 3, 4, 5] [(.one, 6), (.one, 7)] (by kernel_rfl) (by kernel_rfl) ?_
  (apply scr_read'; (· rfl); (· rfl); (· first | exact hC | exact (Ext.refl _).drew); (· (intro w' hw'; have c0_ := hw'.keep c0; have c1_ := hw'.keep c1; have c2_ := hw'.keep c2; have c3_ := hw'.keep c3; have c4_ := hw'.keep c4; have c5_ := hw'.keep c5; have c6_ := hw'.keep c6; have c7_ := hw'.keep c7; go_simp; try rfl)); (· (simp [go_sem]; try rfl)))
  have hC : Ext w1 w1.drew := (Ext.refl _).drew
  (apply scr_read'; (· rfl); (· rfl); (· first | exact hC | exact (Ext.refl _).drew); (· (intro w' hw'; have e0_ := hw'.keep e0; have e1_ := hw'.keep e1; have e2_ := hw'.keep e2; have e3_ := hw'.keep e3; have e4_ := hw'.keep e4; have e5_ := hw'.keep e5; have e6_ := hw'.keep e6; have e7_ := hw'.keep e7; go_simp; try rfl)); (· (simp [go_sem]; try rfl)))
  refine ⟨fun
    | 1 => .data (fun v w X => ∃ cs, v = .agg cs.toArray ∧ (ksMt (ksA d)).is w X cs (toMt (toA d) m))
    | 3 => .data (fun v w X => ∃ cs, v = .agg cs.toArray ∧ (ksMt (ksA d)).is w X cs (toMt (toA d) n))
    | 4 => .fresh 107 #[.slice none 0 0, .slice none 0 0, .pointer none, .pointer none, .pointer none, .pointer none, .pointer none, .bool false, .string ⟨#[]⟩]
    | 5 => .fresh 107 #[.slice none 0 0, .slice none 0 0, .pointer none, .pointer none, .pointer none, .pointer none, .pointer none, .bool false, .string ⟨#[]⟩]
    | _ => .data fun _ _ _ => True, [w.heap.size + 2], ?_, ?_, Old.cons hl1 (Old.nil _), fun w' h => hC.trans h, ?_, ?_⟩
  · intro i hi
    simp only [List.mem_cons, List.not_mem_nil, or_false] at hi
    rcases hi with rfl | rfl | rfl | rfl
    · exact fun v w X w' Y hm ⟨cs, e, h⟩ => ⟨cs, e, (ksMt (ksA d)).mv h hm⟩
    · exact fun v w X w' Y hm ⟨cs, e, h⟩ => ⟨cs, e, (ksMt (ksA d)).mv h hm⟩
    · trivial
    · trivial
  · intro i hi k T F h
    simp only [List.mem_cons, List.not_mem_nil, or_false] at hi
    rcases hi with rfl | rfl | rfl | rfl <;> cases h
  · intro i hi
    simp only [List.mem_cons, List.not_mem_nil, or_false] at hi
    rcases hi with rfl | rfl | rfl | rfl
    · intro vs w2 X hE hM hX _ _
      apply opv_one (dl := []); (· rfl); (· kernel_rfl); (· rfl); (· (first | rfl | (simp [Region.wanted, yielded, go_sem]; done) | (simp [Region.wanted, yielded, go_sem, *]; done))); intro K hK; go_simp
      refine toMap_c (cs := [m0, m1, m2, m3, m4, m5, m6, m7]) (toAtom_c d) ((kMt (kA d)).mv hm'.out ((((hE1.trans hC).mv _).more (Nat.le_add_right _ 2)).trans hM)) hX _ ?_
      intro w3 cs3 hE3 h3
      exact hK _ _ ⟨hE3, cs3, rfl, h3⟩
    · intro vs w2 X hE hM hX _ _
      apply opv_one (dl := []); (· rfl); (· kernel_rfl); (· rfl); (· (first | rfl | (simp [Region.wanted, yielded, go_sem]; done) | (simp [Region.wanted, yielded, go_sem, *]; done))); intro K hK; go_simp
      refine toMap_c (cs := [n0, n1, n2, n3, n4, n5, n6, n7]) (toAtom_c d) ((kMt (kA d)).mv hn'.out ((((hE1.trans hC).mv _).more (Nat.le_add_right _ 2)).trans hM)) hX _ ?_
      intro w3 cs3 hE3 h3
      exact hK _ _ ⟨hE3, cs3, rfl, h3⟩
    · intro vs w2 hE
      apply opv_one (dl := []); (· rfl); (· kernel_rfl); (· rfl); (· (first | rfl | (simp [Region.wanted, yielded, go_sem]; done) | (simp [Region.wanted, yielded, go_sem, *]; done))); intro K hK; go_simp
      exact hK _ _ ⟨rfl, rfl⟩
    · intro vs w2 hE
      apply opv_one (dl := []); (· rfl); (· kernel_rfl); (· rfl); (· (first | rfl | (simp [Region.wanted, yielded, go_sem]; done) | (simp [Region.wanted, yielded, go_sem, *]; done))); intro K hK; go_simp
      exact hK _ _ ⟨rfl, rfl⟩
  · intro vs w2 X bs hE hM hX hx0 hk hsep
    replace hx0 := hx0 (w.heap.size + 2) (by simp)
    obtain ⟨cs1, v1, d1⟩ := hk 1 (by simp)
    obtain ⟨cs3, v3, d3⟩ := hk 3 (by simp)
    obtain ⟨v4, l4, x4, h4⟩ := hk 4 (by simp)
    obtain ⟨v5, l5, x5, h5⟩ := hk 5 (by simp)
    have hne : bs 4 ≠ bs 5 := hsep 4 (by simp) 5 (by simp) rfl rfl (by decide)
    replace h4 := h4 (by intro s hs T' F; simp only [List.mem_cons, List.not_mem_nil, or_false] at hs; rcases hs with rfl | rfl | rfl | rfl <;> (intro h; cases h))
    replace h5 := h5 (by intro s hs T' F; simp only [List.mem_cons, List.not_mem_nil, or_false] at hs; rcases hs with rfl | rfl | rfl | rfl <;> (intro h; cases h))
    apply par_end
    · simp [putL, dstOf, v1, v3, v4, v5, go_sem]; rfl
    generalize bs 4 = b4 at *
    generalize bs 5 = b5 at *
    clear hk hsep
    obtain ⟨s0, s1, s2, s3, s4, s5, s6, s7, s8, rfl⟩ := nine_of ((ksMt (ksA d)).len d1 |>.trans (by simp [ksMt, ksA_size]))
    obtain ⟨t0, t1, t2, t3, t4, t5, t6, t7, t8, rfl⟩ := nine_of ((ksMt (ksA d)).len d3 |>.trans (by simp [ksMt, ksA_size]))
    have so := (ksMt (ksA d)).one d1
    have tt := (ksMt (ksA d)).one d3
    have d1' := Lib.hid d1
    clear d1 d3
    refine scr_one rfl rfl (fun K hK => ?_)
    refine wp_storeRow (cells := #[s0, s1, s2, s3, s4, s5, s6, s7, s8]) 107 _ _ rfl Try.size107 rfl rfl h4 rfl (by simpa using so) ?_
    intro w3 h6 g6
    have h5' := (g6.block _ (hX _ x5) (fun e => hne (Option.some.inj e).symm)).trans h5
    have hM3 : Mv w2 X w3 X := (Mv.refl _ _).grown g6 (fun j hj => by cases hj; exact x4)
    have hE3 : Ext w1.drew w3 := hE.grown g6 (fun j hj => by cases hj; exact l4)
    have d6 := Lib.hid ((ksMt (ksA d)).mv d1'.out hM3)
    refine hK _ _ (fun _ => hC.trans hE3) ?_
    clear hK
    refine scr_one rfl rfl (fun K hK => ?_)
    refine wp_storeRow (cells := #[t0, t1, t2, t3, t4, t5, t6, t7, t8]) 107 _ _ rfl Try.size107 rfl rfl h5' rfl (by simpa using tt) ?_
    intro w4 h7 g7
    have h6' := (g7.block _ (Nat.lt_of_lt_of_le (hX _ x4) g6.size) (fun e => hne (Option.some.inj e))).trans h6
    have hM4 : Mv w3 X w4 X := (Mv.refl _ _).grown g7 (fun j hj => by cases hj; exact x5)
    have hE4 : Ext w1.drew w4 := hE3.grown g7 (fun j hj => by cases hj; exact l5)
    have d7 := Lib.hid ((ksMt (ksA d)).mv d6.out hM4)
    refine hK _ _ (fun _ => hC.trans hE4) ?_
    clear hK
    refine scr_end ?_
    simp only [Exit.then]
    have hX4 : Old X w4 := hX.le (Nat.le_trans g6.size g7.size)
    have hw1 : Ext w w4 := hE1.trans (hC.trans hE4)
    clear h4 h5 h5' h6 g6 g7 d1' d6 hM3 hM4 hE3 hM v1 v3 v4 v5 hX
    have hr := (hC.trans hE4).below.block _ hl1 |>.trans hb3
    have l5' : w.heap.size + 2 ≠ b5 := by have : w1.drew.heap.size = w1.heap.size := rfl; omega
    clear hE hb1 hb2 hb3
    go_wp2_with fail
    refine copyInto_c h6' h7 hne (by simpa using so) _ ?_
    intro w5 h8 g8
    have hr5 := (g8.block _ (by have := hE4.size; have : w1.drew.heap.size = w1.heap.size := rfl; omega) (fun e => l5' (Option.some.inj e))).trans hr
    have hw5 : Ext w w5 := hw1.grown g8 (fun j hj => by cases hj; have := hE1.size; have : w1.drew.heap.size = w1.heap.size := rfl; omega)
    have d8 := Lib.hid ((ksMt (ksA d)).mv d7.out (((Mv.refl w4 X).grown g8 (fun j hj => by cases hj; exact x5)).less (Z := [w.heap.size + 2]) (by simpa using hx0)))
    clear g8 d7 hr hE4 so tt h6' h7
    dsimp only
    go_wp2_with fail
    refine fromMapType_c (X := [w.heap.size + 2]) (fromAtom_c d) (IsP.of_block h8 (by simpa using Ne.symm l5') d8.out) (Old.cons (Array.getElem?_eq_some_iff.1 hr5).1 (Old.nil _)) _ ?_
    intro w6 cs6 hE6 h6
    have hr6 := (hE6.below.block _ (Array.getElem?_eq_some_iff.1 hr5).1).trans hr5
    have hw6 := hw5.trans hE6
    obtain ⟨z0, z1, z2, z3, z4, z5, z6, z7, rfl⟩ := eight_of ((kMt (kA d)).len h6 |>.trans (by simp [kMt, kA_size]))
    have zo := (kMt (kA d)).one h6
    have h6' := Lib.hid h6
    clear h6 h8 hr5 hE6 d8
    dsimp only
    go_wp2_with (refine wpL_storeRow (cells := #[z0, z1, z2, z3, z4, z5, z6, z7]) rfl 46 _ _ rfl Try.size46 rfl rfl hr6 rfl (by simpa using zo) ?_; intro w7 h9 g9)
    have r0 : w7.cell? ⟨w.heap.size + 2, 0, none⟩ = some (z0) := cells_of h9 0; have r1 : w7.cell? ⟨w.heap.size + 2, 1, none⟩ = some (z1) := cells_of h9 1; have r2 : w7.cell? ⟨w.heap.size + 2, 2, none⟩ = some (z2) := cells_of h9 2; have r3 : w7.cell? ⟨w.heap.size + 2, 3, none⟩ = some (z3) := cells_of h9 3; have r4 : w7.cell? ⟨w.heap.size + 2, 4, none⟩ = some (z4) := cells_of h9 4; have r5 : w7.cell? ⟨w.heap.size + 2, 5, none⟩ = some (z5) := cells_of h9 5; have r6 : w7.cell? ⟨w.heap.size + 2, 6, none⟩ = some (z6) := cells_of h9 6; have r7 : w7.cell? ⟨w.heap.size + 2, 7, none⟩ = some (z7) := cells_of h9 7
    have hw7 : Ext w w7 := hw6.grown g9 (fun j hj => by cases hj; omega)
    have d9 := (kMt (kA d)).mv h6'.out (((Mv.refl w6 [w.heap.size + 2]).grown g9 (fun j hj => by cases hj; simp)).less (Z := []) (by simp))
    refine bodyPost_ret (by simp [results, Try.results23, go_sem, r0, r1, r2, r3, r4, r5, r6, r7]; try rfl) rfl ?_
    exact hR'.out w7 _ hw7 d9
end Go.Proofs.Ytmihdlbcjiaibaa
