/- impl.toMap. -/
import Derived.Test.YtnndacgokehkpaaConv2
namespace Go.Proofs.Ytnndacgokehkpaa
open Go.RowKit

theorem Try.size67 : (Try.prog.info? 67).map (·.size) = some 8 := by kernel_rfl
theorem Try.size105 : (Try.prog.info? 105).map (·.size) = some 9 := by kernel_rfl
theorem Try.info102 : (Try.prog.info? 102).map (fun i => (i.zero, i.size, i.bytes)) = some (some (.slice none 0 0), 1, 24) := by kernel_rfl
theorem Try.info123 : (Try.prog.info? 123).map (fun i => (i.zero, i.size, i.bytes)) = some (some (.agg #[.string ⟨#[]⟩, .pointer none, .pointer none, .pointer none, .pointer none, .pointer none, .bool false, .nilIface]), 8, 80) := by kernel_rfl
theorem kFt_eight {d : Nat} {w : World} {X : List Nat} {cs : List Value} {r : FtOf A} (h : (kFt (kA d)).is w X cs r) : ∃ a0 a1 a2 a3 a4 a5 a6 a7, cs = [a0, a1, a2, a3, a4, a5, a6, a7] ∧ (∀ u ∈ cs, u.oneCell' = true) := by
  obtain ⟨a0, a1, a2, a3, a4, a5, a6, a7, rfl⟩ := eight_of (by rw [(kFt (kA d)).len h]; simp [kFt, kA_size])
  exact ⟨a0, a1, a2, a3, a4, a5, a6, a7, rfl, (kFt (kA d)).one h⟩
theorem ksFt_eight {d : Nat} {w : World} {X : List Nat} {cs : List Value} {r : SFt SA} (h : (ksFt (ksA d)).is w X cs r) : ∃ a0 a1 a2 a3 a4 a5 a6 a7, cs = [a0, a1, a2, a3, a4, a5, a6, a7] := by
  obtain ⟨a0, a1, a2, a3, a4, a5, a6, a7, rfl⟩ := eight_of (by rw [(ksFt (ksA d)).len h]; simp [ksFt, ksA_size])
  exact ⟨a0, a1, a2, a3, a4, a5, a6, a7, rfl⟩

set_option maxRecDepth 100000 in
set_option maxHeartbeats 16000000 in
set_option pp.maxSteps 1000000 in
set_option pp.deepTerms true in
theorem toMap_c {d : Nat} (ih : ToAtomC d) {w : World} {X : List Nat} {cs : List Value} {l : MtOf A} (hl : (kMt (kA d)).is w X cs l) (hX : Old X w) (R : Ending → World → Prop)
    (hR : ∀ w' cs', Ext w w' → (ksMt (ksA d)).is w' X cs' (toMt (toA d) l) → R (.returned (.agg cs'.toArray)) w') : Calls Try.prog 43 #[.agg cs.toArray] w R := by
  obtain ⟨vk, rs, rfl, hk, hr, hl⟩ := hl
  obtain ⟨fields, type, rel⟩ := l
  dsimp only at hr hk hl ⊢
  obtain ⟨a0, a1, a2, a3, a4, a5, rfl, o0, o1, o2, o3, o4, o5⟩ := kRf_six hr
  obtain ⟨ko, kc, db, doff, rfl, k1, k2, k3, k4⟩ := id hk.ex
  have e8 : (kFt (kA d)).size = 8 := by simp [kFt, kA_size]
  rw [e8] at k4
  have hr' := Lib.hid hr
  have hk3 := Lib.hid k3
  have hk4 := Lib.hid k4
  have hR' := Lib.hid hR
  have hX' := Lib.hid hX
  have hih := Lib.hid ih
  clear hr hR hX hk k1 k3 k4 e8 ih
  simp only [List.cons_append, List.nil_append]
  go_enter Try.func43, Try.ntmps43
  go_wp2_with fail
  refine abs2 (G := Code.wp _ _ _ _) ?_
  intro w1 hE1 hb1 hb2 hs1
  have c0 := cells_of hb1 0
  have c1 := cells_of hb1 1
  have c2 := cells_of hb1 2
  have c3 := cells_of hb1 3
  have c4 := cells_of hb1 4
  have c5 := cells_of hb1 5
  have c6 := cells_of hb1 6
  have c7 := cells_of hb1 7
  simp only [List.getElem?_toArray, List.getElem?_cons_zero, List.getElem?_cons_succ] at c0 c1 c2 c3 c4 c5 c6 c7
  refine wp_region_tree [0, 1, 3, 4, 5] [2, 6] (fun w' => Ext w1 w') (.pure 0 (.read 1 (.pure 3 (.read 4 (.two 2 6 (.pure 5 (.one 6 (.one 7 .nil))) (.one 2 (.pure 5 (.one 7 .nil)))))))) (by kernel_rfl) (by kernel_rfl) ?_
  (apply tr_pure; (· rfl); (· rfl); (· (intro w'; go_simp; try rfl)); (· (simp [go_sem]; try rfl)))
  (apply tr_read; (· rfl); (· rfl); (· first | exact hC | exact (Ext.refl _).drew); (· (intro w' hw'; have c1_ := hw'.keep c1; have c2_ := hw'.keep c2; have c3_ := hw'.keep c3; have c4_ := hw'.keep c4; have c5_ := hw'.keep c5; have c6_ := hw'.keep c6; go_simp; try rfl)); (· (simp [go_sem]; try rfl)))
  (apply tr_pure; (· rfl); (· rfl); (· (intro w'; go_simp; try rfl)); (· (simp [go_sem]; try rfl)))
  (apply tr_read; (· rfl); (· rfl); (· first | exact hC | exact (Ext.refl _).drew); (· (intro w' hw'; have c7_ := hw'.keep c7; go_simp; try rfl)); (· (simp [go_sem]; try rfl)))
  refine tr_two ?_ ?_
  focus (
    refine tr_one rfl rfl (fun K hK => ?_)
    go_simp
    refine toRef_c hih.out (X := w.heap.size :: (w.heap.size + 1) :: X) ((kRf (kA d)).mv hr'.out (((hE1.drew.mv X).more (n := w.heap.size + 1) (by omega)).more (Nat.le_refl _))) (.cons (by simp; omega) (.cons (by simp; omega) (hX'.out.le hE1.drew.size))) _ ?_
    intro w2 cs2 hE2 hy
    obtain ⟨p0, p1, p2, p3, p4, p5, rfl, u0, u1, u2, u3, u4, u5⟩ := ksRf_six hy
    have hw2 := (Ext.refl w1).drew.trans hE2
    refine hK _ _ (fun _ => hw2) ?_
    clear hK
    (apply tr_pure; (· rfl); (· rfl); (· (intro w'; go_simp; try rfl)); (· (simp [go_sem]; try rfl)))
    refine tr_one rfl rfl (fun K hK => ?_)
    go_simp
    refine hK _ _ (fun _ => hw2.push _) ?_
    clear hK
    refine tr_one rfl rfl (fun K hK => ?_)
    refine wp_storeRow (cells := #[.slice none 0 0, .slice none 0 0, p0, p1, p2, p3, p4, p5, .string rel]) 105 _ _ rfl Try.size105 (by go_simp) (by go_simp) (alloc_new _ _ rfl) rfl (by simp [u0, u1, u2, u3, u4, u5, str_one, slice_one]) ?_
    intro w4 h4 g4
    refine hK _ _ (fun h => by simp at h) ?_
    clear hK
    refine tr_end ?_
    simp only [Exit.then]
    have hE3 : Ext w1 w4 := (hw2.push _).grown g4 (fun k hk => by cases hk; exact hw2.size)
    have hy4 : (ksRf (ksA d)).is w4 (w2.heap.size :: w.heap.size :: (w.heap.size + 1) :: X) [p0, p1, p2, p3, p4, p5] (toRf (toA d) type) := (ksRf (ksA d)).mv hy (((Ext.alloc w2 _).mv _).more (Nat.le_refl _) |>.grown g4 (by intro k hk; cases hk; simp))
    have hBs : w1.heap.size ≤ w2.heap.size := hw2.size
    have hB2 : w.heap.size + 2 ≤ w2.heap.size := by omega
    have e1 : w4.heap[w.heap.size + 1]? = _ := (g4.block _ (by simp; omega) (by simp; omega)).trans ((alloc_old w2 _ (by omega)).trans ((hw2.below.block _ (by omega)).trans hb2))
    generalize w2.heap.size = B at h4 hy4 hBs hB2 ⊢
    clear hy g4 hw2 hE2 hBs)
  rotate_left
  focus (
    refine tr_one rfl rfl (fun K hK => ?_)
    go_simp
    refine hK _ _ (fun _ => (Ext.refl w1).drew.push _) ?_
    clear hK
    refine tr_one rfl rfl (fun K hK => ?_)
    go_simp
    refine toRef_c hih.out (X := w1.heap.size :: w.heap.size :: (w.heap.size + 1) :: X) ((kRf (kA d)).mv hr'.out ((((((hE1.drew.push _).mv X).more (n := w.heap.size + 1) (by omega)).more (Nat.le_refl _))).more (by omega))) (.cons (by simp) (.cons (by simp; omega) (.cons (by simp; omega) (hX'.out.le (hE1.drew.push _).size)))) _ ?_
    intro w2 cs2 hE2 hy
    obtain ⟨p0, p1, p2, p3, p4, p5, rfl, u0, u1, u2, u3, u4, u5⟩ := ksRf_six hy
    have hw2 := ((Ext.refl w1).drew.push _).trans hE2
    refine hK _ _ (fun _ => hw2) ?_
    clear hK
    (apply tr_pure; (· rfl); (· rfl); (· (intro w'; go_simp; try rfl)); (· (simp [go_sem]; try rfl)))
    refine tr_one rfl rfl (fun K hK => ?_)
    have hbB : w2.heap[w1.heap.size]? = _ := (hE2.below.block _ (by simp)).trans (alloc_new w1.drew _ rfl)
    refine wp_storeRow (cells := #[.slice none 0 0, .slice none 0 0, p0, p1, p2, p3, p4, p5, .string rel]) 105 _ _ rfl Try.size105 (by go_simp) (by go_simp) hbB rfl (by simp [u0, u1, u2, u3, u4, u5, str_one, slice_one]) ?_
    intro w4 h4 g4
    refine hK _ _ (fun h => by simp at h) ?_
    clear hK
    refine tr_end ?_
    simp only [Exit.then]
    have hE3 : Ext w1 w4 := hw2.grown g4 (fun k hk => by cases hk; exact Nat.le_refl _)
    have hy4 : (ksRf (ksA d)).is w4 (w1.heap.size :: w.heap.size :: (w.heap.size + 1) :: X) [p0, p1, p2, p3, p4, p5] (toRf (toA d) type) := (ksRf (ksA d)).mv hy ((Mv.refl _ _).grown g4 (by intro k hk; cases hk; simp))
    have e1 : w4.heap[w.heap.size + 1]? = _ := (g4.block _ (by have := hw2.size; omega) (by simp; omega)).trans ((hw2.below.block _ (by omega)).trans hb2)
    clear hy g4 hw2 hE2 hbB
    obtain ⟨B, hBB⟩ : ∃ B, w.heap.size + 2 = B := ⟨_, rfl⟩
    rw [hs1] at h4 hy4
    rw [hBB] at h4 hy4 ⊢
    have hB2 : w.heap.size + 2 ≤ B := by omega
    clear hBB)
  all_goals (
    have hy4' := Lib.hid hy4
    have h4' := Lib.hid h4
    have e1' := Lib.hid e1
    have f0 : w4.cell? ⟨w.heap.size, 0, none⟩ = some (.slice ko fields.length kc) := hE3.keep c0
    have hE := hE1.trans hE3
    clear hy4 e1 c0 c1 c2 c3 c4 c5 c6 c7 hb1 hb2
    go_wp2_with fail
    have hlf : ∀ n, ((fields.take n).map (toFt (toA d))).length ≤ fields.length := fun n => by rw [List.length_map, List.length_take]; omega
    have hlf' := Lib.hid hlf
    clear hlf h4 f0
    have hBl := (Array.getElem?_eq_some_iff.1 h4'.out).1
    have ux5 := u5
    go_loopw [15] (fun i wr => ∃ (k : Nat) (v : Value), k ≤ fields.length ∧ i = .int .i64 k ∧ Ext w wr ∧ w4.heap.size ≤ wr.heap.size ∧ wr.heap[B]? = some (.cells #[v, .slice none 0 0, p0, p1, p2, p3, p4, p5, .string rel] 105 (0, 0)) ∧
        wr.heap[w.heap.size + 1]? = w4.heap[w.heap.size + 1]? ∧ (∀ g, v.ownBlock = some g → w.heap.size ≤ g) ∧
        Row (ksFt (ksA d)) 123 wr (B :: w.heap.size :: (w.heap.size + 1) :: X) v ((fields.take k).map (toFt (toA d))) ∧ Hid ((ksRf (ksA d)).is wr (vb v ++ (B :: w.heap.size :: (w.heap.size + 1) :: X)) [p0, p1, p2, p3, p4, p5] (toRf (toA d) type)))
      (fun i _ => fields.length - (intOf i).toNat)
    case atStart => exact ⟨0, _, Nat.zero_le _, rfl, hE, Nat.le_refl _, h4'.out, rfl, fun g hg => by simp [Value.ownBlock] at hg, Row.nil _ _ _ _, hy4'⟩
    case round =>
      obtain ⟨k, v, hk, rfl, hEr, hsz, hB, hr1, hgv, hrow, hyr⟩ := hrel
      by_cases hlt : k < fields.length
      · obtain ⟨cs', hc, hcs⟩ := hk4.out k hlt
        obtain ⟨rfl, hdX⟩ := hk3.out (by omega)
        obtain ⟨t0, t1, t2, t3, t4, t5, t6, t7, rfl, hto⟩ := kFt_eight hcs
        have m0 := hEr.keep (hc 0 (by omega))
        have m1 := hEr.keep (hc 1 (by omega))
        have m2 := hEr.keep (hc 2 (by omega))
        have m3 := hEr.keep (hc 3 (by omega))
        have m4 := hEr.keep (hc 4 (by omega))
        have m5 := hEr.keep (hc 5 (by omega))
        have m6 := hEr.keep (hc 6 (by omega))
        have m7 := hEr.keep (hc 7 (by omega))
        simp only [Nat.add_zero] at m0
        have hv0 : wr.cell? ⟨B, 0, none⟩ = some v := cells_of hB 0
        have hvo := hrow.one
        have hcs' := Lib.hid hcs
        have hto' := Lib.hid hto
        have hB' := Lib.hid hB
        have hr1' := Lib.hid hr1
        clear hcs hc hto hB hr1
        have n0 := hto'.out t0 (by simp)
        have n1 := hto'.out t1 (by simp)
        have n2 := hto'.out t2 (by simp)
        have n3 := hto'.out t3 (by simp)
        have n4 := hto'.out t4 (by simp)
        have n5 := hto'.out t5 (by simp)
        have n6 := hto'.out t6 (by simp)
        have n7 := hto'.out t7 (by simp)
        go_wp2_with (refine wpL_storeRow (cells := #[t0, t1, t2, t3, t4, t5, t6, t7]) rfl 67 _ _ rfl Try.size67 rfl rfl (alloc_new _ _ rfl) rfl (by simp [n0, n1, n2, n3, n4, n5, n6, n7]) ?_; intro w5 h5 g5)
        clear m0 m1 m2 m3 m4 m5 m6 m7
        have hE5 : Ext wr w5 := ((Ext.refl wr).push _).grown g5 (fun k hk => by cases hk; exact Nat.le_refl _)
        have hBr := (Array.getElem?_eq_some_iff.1 hB'.out).1
        have hB5 : w5.heap[B]? = _ := (hE5.below.block _ hBr).trans hB'.out
        have hv5 : w5.cell? ⟨B, 0, none⟩ = some v := cells_of hB5 0
        have hrow5 := hrow.ext hE5
        have s0 : w5.cell? ⟨wr.heap.size, 0, none⟩ = some t0 := cells_of h5 0
        have s1 : w5.cell? ⟨wr.heap.size, 1, none⟩ = some t1 := cells_of h5 1
        have s2 : w5.cell? ⟨wr.heap.size, 2, none⟩ = some t2 := cells_of h5 2
        have s3 : w5.cell? ⟨wr.heap.size, 3, none⟩ = some t3 := cells_of h5 3
        have s4 : w5.cell? ⟨wr.heap.size, 4, none⟩ = some t4 := cells_of h5 4
        have s5 : w5.cell? ⟨wr.heap.size, 5, none⟩ = some t5 := cells_of h5 5
        have s6 : w5.cell? ⟨wr.heap.size, 6, none⟩ = some t6 := cells_of h5 6
        have s7 : w5.cell? ⟨wr.heap.size, 7, none⟩ = some t7 := cells_of h5 7
        refine wp_region_script [0, 1, 2, 6] [3, 4] (fun w' => Ext w5 w') [(.pure, 0), (.read, 1), (.read, 2), (.one, 3), (.one, 4), (.one, 5), (.pure, 6), (.one, 7)] (by kernel_rfl) (by kernel_rfl) ?_
        (apply scr_pure'; (· rfl); (· rfl); (· (intro w'; go_simp; try rfl)); (· (simp [go_sem]; try rfl)))
        (apply scr_read'; (· rfl); (· rfl); (· first | exact hC | exact (Ext.refl _).drew); (· (intro w' hw'; have hv5_ := hw'.keep hv5; go_simp; try rfl)); (· (simp [go_sem]; try rfl)))
        (apply scr_read'; (· rfl); (· rfl); (· first | exact hC | exact (Ext.refl _).drew); (· (intro w' hw'; have s0_ := hw'.keep s0; have s1_ := hw'.keep s1; have s2_ := hw'.keep s2; have s3_ := hw'.keep s3; have s4_ := hw'.keep s4; have s5_ := hw'.keep s5; have s6_ := hw'.keep s6; have s7_ := hw'.keep s7; go_simp; try rfl)); (· (simp [go_sem]; try rfl)))
        refine scr_one rfl rfl (fun K hK => ?_)
        go_simp
        have hXX : Old (B :: w.heap.size :: (w.heap.size + 1) :: X) w5.drew := .cons (by have := hE5.size; simp; omega) (.cons (by have := hE5.size; simp; omega) (.cons (by have := hE5.size; simp; omega) (hX'.out.le (hEr.trans hE5).drew.size)))
        refine toField_c hih.out (X := vb v ++ (B :: w.heap.size :: (w.heap.size + 1) :: X)) ((kFt (kA d)).mv hcs'.out ((((((hEr.trans hE5).drew.mv X).more (n := w.heap.size + 1) (by omega)).more (Nat.le_refl _)).more (by omega)).moreL fun z hz => hgv z (by simpa [vb] using hz))) ((hrow5.ext (Ext.refl w5).drew).old hXX) _ ?_
        intro w6 cs6 hE6 hy6
        obtain ⟨j0, j1, j2, j3, j4, j5, j6, j7, rfl⟩ := ksFt_eight hy6
        have hy6' := Lib.hid hy6
        have hjo := Lib.hid ((ksFt (ksA d)).one hy6)
        clear hy6
        have hw6 := (Ext.refl w5).drew.trans hE6
        refine hK _ _ (fun _ => hw6) ?_
        clear hK
        refine scr_one rfl rfl (fun K hK => ?_)
        go_simp
        refine hK _ _ (fun _ => hw6.push _) ?_
        clear hK
        refine scr_one rfl rfl (fun K hK => ?_)
        have e8 : (ksFt (ksA d)).size = 8 := by simp [ksFt, ksA_size]
        have hl1 : ((fields.take k).map (toFt (toA d))).length = k := by rw [List.length_map, List.length_take]; omega
        have hb3 : ((fields.take k).map (toFt (toA d))).length + 1 ≤ fields.length := by rw [hl1]; omega
        have hE6' := hE5.trans hw6
        refine wp_rowApp (c := #[j0, j1, j2, j3, j4, j5, j6, j7]) hrow5 hw6 (hXX.le hE6.size) hy6'.out _ _ _ rfl Try.underlying102 (by rw [e8]; exact Try.info123) (by rw [e8]; rfl) (by rw [e8]; decide) (by go_simp) (by go_simp) (Nat.le_trans (Nat.mul_le_mul_right 80 hb3) (by omega)) (by rw [maxLen_eq]; omega) ?_
        intro v' w7 hrow7 hg7 hne7 hd7
        refine hK _ _ (fun h => by simp at h) ?_
        clear hK
        (apply scr_pure'; (· rfl); (· rfl); (· (intro w'; go_simp; try rfl)); (· (simp [go_sem]; try rfl)))
        have hBl5 := (Array.getElem?_eq_some_iff.1 hB5).1
        have h7 : w7.heap[B]? = _ := (hg7.block _ (by have := hw6.size; omega) (hrow5.notin (by simp))).trans ((hw6.below.block _ hBl5).trans hB5)
        have h7r : w7.heap[w.heap.size + 1]? = _ := (hg7.block _ (by have := hw6.size; omega) (hrow5.notin (by simp))).trans (((hE5.trans hw6).below.block _ (by omega)).trans hr1'.out)
        refine scr_one rfl rfl (fun K hK => ?_)
        refine wp_store1 _ _ _ rfl Try.info102 (p := ⟨B, 0, none⟩) (v := v') rfl rfl hrow7.one (by rw [cells_of h7 0]; rfl) (frozen_of_row _ _ _ _ _ h7) ?_
        refine hK _ _ (fun h => by simp at h) ?_
        clear hK
        obtain ⟨h8, g8, hs8⟩ := set_facts (off := 0) v' h7
        generalize w7.setCell ⟨B, 0, none⟩ v' = w8 at h8 g8 hs8 ⊢
        refine scr_end ?_
        simp only [Exit.inBlock, Exit.then]
        go_wp2_with fail
        go_roundw
        case rel =>
          have hvn : ∀ g, v'.ownBlock = some g → w.heap.size ≤ g := fun g hg => by
            rcases hd7 g hg with h | h
            · exact hgv g h
            · have := hEr.size; have := hE6'.size; omega
          refine ⟨k + 1, v', by omega, by go_num, ((hEr.trans hE6').grown hg7 hgv).grown g8 (fun j hj => by cases hj; omega), by have := hE6'.size; have := hg7.size; have := g8.size; omega, h8, (g8.block _ (by have := hg7.size; have := hw6.size; omega) (by simp; omega)).trans h7r, hvn, ?_, ?_⟩
          · have e : (fields.take (k + 1)).map (toFt (toA d)) = (fields.take k).map (toFt (toA d)) ++ [toFt (toA d) (fields[k])] := by
              rw [List.take_succ_eq_append_getElem hlt, List.map_append, List.map_singleton]
            rw [e]
            exact hrow7.keep g8 (by simp)
          · exact (ksRf (ksA d)).mv hyr.out (((hE6'.mv _).trans (Mv.app hg7 hd7)).grown g8 (by intro j hj; cases hj; simp))
        case measure => simp [intOf]; omega
      · have ek : k = fields.length := by omega
        have hvo := hrow.one
        have r2 : wr.heap[w.heap.size + 1]? = _ := hr1.trans e1'.out
        have v0 : wr.cell? ⟨B, 0, none⟩ = some v := cells_of hB 0
        have v1 : wr.cell? ⟨B, 1, none⟩ = some (.slice none 0 0) := cells_of hB 1
        have v2 : wr.cell? ⟨B, 2, none⟩ = some p0 := cells_of hB 2
        have v3 : wr.cell? ⟨B, 3, none⟩ = some p1 := cells_of hB 3
        have v4 : wr.cell? ⟨B, 4, none⟩ = some p2 := cells_of hB 4
        have v5 : wr.cell? ⟨B, 5, none⟩ = some p3 := cells_of hB 5
        have v6 : wr.cell? ⟨B, 6, none⟩ = some p4 := cells_of hB 6
        have v7 : wr.cell? ⟨B, 7, none⟩ = some p5 := cells_of hB 7
        have v8 : wr.cell? ⟨B, 8, none⟩ = some (.string rel) := cells_of hB 8
        have ek' := Lib.hid ek
        clear ek
        go_wp2_with (refine wpL_storeRow (cells := #[v, .slice none 0 0, p0, p1, p2, p3, p4, p5, .string rel]) rfl 105 _ _ rfl Try.size105 rfl rfl r2 rfl (by simp [u0, u1, u2, u3, u4, ux5, str_one, slice_one, hvo]) ?_; intro w6 h6 g6)
        go_simp
        have z0 := cells_of h6 0
        have z1 := cells_of h6 1
        have z2 := cells_of h6 2
        have z3 := cells_of h6 3
        have z4 := cells_of h6 4
        have z5 := cells_of h6 5
        have z6 := cells_of h6 6
        have z7 := cells_of h6 7
        have z8 := cells_of h6 8
        simp only [List.getElem?_toArray, List.getElem?_cons_zero, List.getElem?_cons_succ] at z0 z1 z2 z3 z4 z5 z6 z7 z8
        refine bodyPost_ret (by simp [results, Try.results43, go_sem, z0, z1, z2, z3, z4, z5, z6, z7, z8]; try rfl) rfl ?_
        rw [List.take_of_length_le (by have := ek'.out; omega)] at hrow
        have hm : Mv wr (vb v ++ (B :: w.heap.size :: (w.heap.size + 1) :: X)) w6 (vb v ++ (B :: w.heap.size :: (w.heap.size + 1) :: X)) := (Mv.refl _ _).grown g6 (by intro k hk; cases hk; simp)
        refine hR'.out w6 [_, _, _, _, _, _, _, _, _] (hEr.grown g6 (fun k hk => by cases hk; omega)) ⟨v, [p0, p1, p2, p3, p4, p5], rfl, ?_, (ksRf (ksA d)).mv hyr.out (hm.less fun b hb => by simp [hb]), hl⟩
        exact ((hrow.keep g6 (by simp)).less (fun b hb => by simp [hb])).isSl (by show ((fields.map _).length) * 144 ≤ _; rw [List.length_map]; exact k2))

end Go.Proofs.Ytnndacgokehkpaa
