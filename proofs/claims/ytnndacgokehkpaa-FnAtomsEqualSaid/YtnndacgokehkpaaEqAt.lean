/- impl.EqualAtoms: what it computes. -/
import Derived.Test.YtnndacgokehkpaaSchEq
namespace Go.Proofs.Ytnndacgokehkpaa
open Go.RowKit
set_option linter.unusedSimpArgs false

theorem AtP.of_block {α : Type} {k : Kind α} {w : World} {b : Nat} {cs : List Value} {T : TypeId} {fr : Nat × Nat} {a : α} (hb : w.heap[b]? = some (.cells cs.toArray T fr)) (h : k.is w [] cs a) : AtP k w b 0 a :=
  ⟨cs, fun j _ => by rw [cells_of hb, Nat.zero_add]; simp, h⟩

set_option maxRecDepth 100000 in
set_option maxHeartbeats 8000000 in
set_option pp.maxSteps 1000000 in
set_option pp.deepTerms true in
theorem equalAtoms_c {d : Nat} {w : World} {cs ds : List Value} {a b : A} (ha : (kA d).is w [] cs a) (hb : (kA d).is w [] ds b) (q1 : BareS d (toA d a)) (q2 : BareS d (toA d b)) (R : Ending → World → Prop)
    (hR : Ends R w (.bool (eqA d (toA d a) (toA d b)))) : Calls Try.prog 12 #[.agg cs.toArray, .agg ds.toArray] w R := by
  obtain ⟨m0, m1, m2, rfl, o0, o1, o2⟩ := kA_three ha
  obtain ⟨n0, n1, n2, rfl, u0, u1, u2⟩ := kA_three hb
  have hm' := Lib.hid ha
  have hn' := Lib.hid hb
  have hR' := Lib.hid hR
  have q1' := Lib.hid q1
  have q2' := Lib.hid q2
  clear ha hb hR q1 q2
  go_enter Try.func12, Try.ntmps12
  go_wp2_with fail
  refine abs2 (G := fun wr => Code.wp _ _ _ _ wr) ?_
  intro w1 hE1 hb1 hb2 hs1
  clear hs1
  have c0 : w1.cell? ⟨w.heap.size, 0, none⟩ = some (m0) := cells_of hb1 0; have c1 : w1.cell? ⟨w.heap.size, 1, none⟩ = some (m1) := cells_of hb1 1; have c2 : w1.cell? ⟨w.heap.size, 2, none⟩ = some (m2) := cells_of hb1 2
  have e0 : w1.cell? ⟨w.heap.size + 1, 0, none⟩ = some (n0) := cells_of hb2 0; have e1 : w1.cell? ⟨w.heap.size + 1, 1, none⟩ = some (n1) := cells_of hb2 1; have e2 : w1.cell? ⟨w.heap.size + 1, 2, none⟩ = some (n2) := cells_of hb2 2
  refine wp_region_par [0, 2] [1, 3, 4, 5] (fun w' => Ext w1 w') [(.read, 0), (.read, 2)] [1, 3, 4, 5] [(.one, 6), (.one, 7)] (by kernel_rfl) (by kernel_rfl) ?_
  (apply scr_read'; (· rfl); (· rfl); (· first | exact hC | exact (Ext.refl _).drew); (· (intro w' hw'; have c0_ := hw'.keep c0; have c1_ := hw'.keep c1; have c2_ := hw'.keep c2; go_simp; try rfl)); (· (simp [go_sem]; try rfl)))
  have hC : Ext w1 w1.drew := (Ext.refl _).drew
  (apply scr_read'; (· rfl); (· rfl); (· first | exact hC | exact (Ext.refl _).drew); (· (intro w' hw'; have e0_ := hw'.keep e0; have e1_ := hw'.keep e1; have e2_ := hw'.keep e2; go_simp; try rfl)); (· (simp [go_sem]; try rfl)))
  refine ⟨fun
    | 1 => .data (fun v w X => ∃ cs, v = .agg cs.toArray ∧ (ksA d).is w X cs (toA d a))
    | 3 => .data (fun v w X => ∃ cs, v = .agg cs.toArray ∧ (ksA d).is w X cs (toA d b))
    | 4 => .fresh 74 #[.pointer none, .pointer none, .pointer none]
    | 5 => .fresh 74 #[.pointer none, .pointer none, .pointer none]
    | _ => .data fun _ _ _ => True, [], ?_, ?_, Old.nil _, fun w' h => hC.trans h, ?_, ?_⟩
  · intro i hi
    simp only [List.mem_cons, List.not_mem_nil, or_false] at hi
    rcases hi with rfl | rfl | rfl | rfl
    · exact fun v w X w' Y hm ⟨cs, e, h⟩ => ⟨cs, e, (ksA d).mv h hm⟩
    · exact fun v w X w' Y hm ⟨cs, e, h⟩ => ⟨cs, e, (ksA d).mv h hm⟩
    · trivial
    · trivial
  · intro i hi k T F h
    simp only [List.mem_cons, List.not_mem_nil, or_false] at hi
    rcases hi with rfl | rfl | rfl | rfl <;> cases h
  · intro i hi
    simp only [List.mem_cons, List.not_mem_nil, or_false] at hi
    rcases hi with rfl | rfl | rfl | rfl
    · intro vs w2 X hE hM hX _ _
      apply opv_one (dl := []); (· rfl); (· kernel_rfl); (· (simp only [putL]; try rfl)); (· (first | rfl | (simp [Region.wanted, yielded, go_sem]; done) | (simp [Region.wanted, yielded, go_sem, *]; done))); intro K hK; go_simp
      refine toAtom_c d _ X [m0, m1, m2] a ((kA d).mv hm'.out (((hE1.trans hC).mv _).trans hM)) hX _ ?_
      intro w3 cs3 hE3 h3
      exact hK _ _ ⟨hE3, cs3, rfl, h3⟩
    · intro vs w2 X hE hM hX _ _
      apply opv_one (dl := []); (· rfl); (· kernel_rfl); (· (simp only [putL]; try rfl)); (· (first | rfl | (simp [Region.wanted, yielded, go_sem]; done) | (simp [Region.wanted, yielded, go_sem, *]; done))); intro K hK; go_simp
      refine toAtom_c d _ X [n0, n1, n2] b ((kA d).mv hn'.out (((hE1.trans hC).mv _).trans hM)) hX _ ?_
      intro w3 cs3 hE3 h3
      exact hK _ _ ⟨hE3, cs3, rfl, h3⟩
    · intro vs w2 hE
      apply opv_one (dl := []); (· rfl); (· kernel_rfl); (· (simp only [putL]; try rfl)); (· (first | rfl | (simp [Region.wanted, yielded, go_sem]; done) | (simp [Region.wanted, yielded, go_sem, *]; done))); intro K hK; go_simp
      exact hK _ _ ⟨rfl, rfl⟩
    · intro vs w2 hE
      apply opv_one (dl := []); (· rfl); (· kernel_rfl); (· (simp only [putL]; try rfl)); (· (first | rfl | (simp [Region.wanted, yielded, go_sem]; done) | (simp [Region.wanted, yielded, go_sem, *]; done))); intro K hK; go_simp
      exact hK _ _ ⟨rfl, rfl⟩
  · intro vs w2 X bs hE hM hX hx0 hk hsep
    obtain ⟨cs1, v1, d1⟩ := hk 1 (by simp)
    obtain ⟨cs3, v3, d3⟩ := hk 3 (by simp)
    obtain ⟨v4, l4, x4, h4⟩ := hk 4 (by simp)
    obtain ⟨v5, l5, x5, h5⟩ := hk 5 (by simp)
    have hne : bs 4 ≠ bs 5 := hsep 4 (by simp) 5 (by simp) rfl rfl (by decide)
    replace h4 := h4 (by intro s hs T' F; simp only [List.mem_cons, List.not_mem_nil, or_false] at hs; rcases hs with rfl | rfl | rfl | rfl <;> (intro h; cases h))
    replace h5 := h5 (by intro s hs T' F; simp only [List.mem_cons, List.not_mem_nil, or_false] at hs; rcases hs with rfl | rfl | rfl | rfl <;> (intro h; cases h))
    apply par_end
    · simp [putL, dstOf, v1, v3, v4, v5, go_sem]; rfl
    generalize bs 4 = b4 at *
    generalize bs 5 = b5 at *
    clear hk hsep
    obtain ⟨s0, s1, s2, rfl⟩ := three_of ((ksA d).len d1 |>.trans (ksA_size d))
    obtain ⟨t0, t1, t2, rfl⟩ := three_of ((ksA d).len d3 |>.trans (ksA_size d))
    have so := (ksA d).one d1
    have tt := (ksA d).one d3
    have d1' := Lib.hid d1
    have d3' := Lib.hid d3
    clear d1 d3
    refine scr_one rfl rfl (fun K hK => ?_)
    refine wp_storeRow (cells := #[s0, s1, s2]) 74 _ _ rfl Try.size74 rfl rfl h4 rfl (by simpa using so) ?_
    intro w3 h6 g6
    have h5' := (g6.block _ (hX _ x5) (fun e => hne (Option.some.inj e).symm)).trans h5
    have hM3 : Mv w2 X w3 X := (Mv.refl _ _).grown g6 (fun j hj => by cases hj; exact x4)
    have hE3 : Ext w1.drew w3 := hE.grown g6 (fun j hj => by cases hj; exact l4)
    have d6 := Lib.hid ((ksA d).mv d1'.out hM3)
    have p6 := Lib.hid ((ksA d).mv d3'.out hM3)
    refine hK _ _ (fun _ => hC.trans hE3) ?_
    clear hK
    refine scr_one rfl rfl (fun K hK => ?_)
    refine wp_storeRow (cells := #[t0, t1, t2]) 74 _ _ rfl Try.size74 rfl rfl h5' rfl (by simpa using tt) ?_
    intro w4 h7 g7
    have h6' := (g7.block _ (Nat.lt_of_lt_of_le (hX _ x4) g6.size) (fun e => hne (Option.some.inj e))).trans h6
    have hM4 : Mv w3 X w4 X := (Mv.refl _ _).grown g7 (fun j hj => by cases hj; exact x5)
    have hE4 : Ext w1.drew w4 := hE3.grown g7 (fun j hj => by cases hj; exact l5)
    have d7 := Lib.hid ((ksA d).mv ((ksA d).mv d6.out hM4) ((Mv.refl _ _).less (Z := []) (by simp)))
    have p7 := Lib.hid ((ksA d).mv ((ksA d).mv p6.out hM4) ((Mv.refl _ _).less (Z := []) (by simp)))
    refine hK _ _ (fun _ => hC.trans hE4) ?_
    clear hK
    refine scr_end ?_
    simp only [Exit.then]
    have hw1 : Ext w w4 := hE1.trans (hC.trans hE4)
    clear h4 h5 h5' h6 g6 g7 d1' d3' d6 p6 hM3 hM4 hE3 hM v1 v3 v4 v5 hX hE hb1 hb2
    go_wp2_with fail
    refine atomEq_c d _ b4 0 b5 0 _ _ (AtP.of_block h6' d7.out) (AtP.of_block h7 p7.out) q1'.out q2'.out _ ?_
    intro w5 hE5
    dsimp only
    go_wp2_with fail
    exact hR'.out _ (hw1.trans hE5)
end Go.Proofs.Ytnndacgokehkpaa
