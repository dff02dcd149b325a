/- spec.ElemSet: the reference's set of elements. -/
import Derived.Test.YtihapgangilncaaGreatKDBSearchN
import Derived.Test.YtihapgangilncaaGreatKDSetOps
import Derived.Test.YtihapgangilncaaGreatKDSetM
import Derived.Test.YtihapgangilncaaGreatKDToSet
namespace Go.Proofs.YtihapgangilncaaGreat
open Go.RowKit
set_option linter.unusedSimpArgs false


def zeroEl : EL := ⟨0, ⟨#[]⟩, [], [], vzero, 0⟩
theorem zeroEl_is (w : World) (X : List Nat) : kEl.is w X [.int .i64 0, .string ⟨#[]⟩, .slice none 0 0, .slice none 0 0, .int .i64 0, .int .i64 0, .float .f64 0, .string ⟨#[]⟩, .slice none 0 0, .slice none 0 0, .int .i64 0] zeroEl :=
  ⟨_, _, [_, _, _, _, _, _], rfl, (show (Lit.int .i64 0).wf = true by decide), (show (Lit.int .i64 0).wf = true by decide), Nat.zero_le _, IsStrs.nil _ _, IsVs.nil _ _, vzero_is _ _⟩

/-- a row whose last place is free, cell by cell -/
theorem Row.open {w : World} {X : List Nat} {v : Value} {us : List EL} (h : Row kEl 47 w X v (us ++ [zeroEl])) : ∃ g cap cur, ∃ rows : List (List Value), v = .slice (some ⟨g, 0, none⟩) (us.length + 1) cap ∧ g ∉ X ∧ w.heap[g]? = some (.cells cur 47 (0, 0)) ∧ us.length + 1 ≤ cap ∧ cap ≤ maxLen ∧ cur.size = cap * 11 ∧
    All2 (kEl.is w (g :: X)) rows us ∧ cur.toList.take (us.length * 11) = rows.flatten := by
  obtain ⟨rows, hown, hall, hnx⟩ := h.ex
  have hlen : (us ++ [zeroEl]).length = us.length + 1 := by simp
  rw [hlen] at hown
  have hrl := hall.length
  rw [hlen] at hrl
  have hml := All2.mem_len (s := 11) (fun r a h => kEl.len h) hall
  rcases hown.2 with ⟨rfl, e2⟩ | ⟨g, cap, cur, rfl, -, hg, hnc, hcm, hcz, hct⟩
  · omega
  · refine ⟨g, cap, cur, rows.take us.length, rfl, hnx g rfl, hg, hnc, hcm, hcz, ?_, ?_⟩
    · have := hall.take us.length
      rw [List.take_left] at this
      simpa [vb, Value.ownBlock] using this
    · rw [← flat_take us.length hml]
      rw [← hct, List.take_take]
      congr 1
      exact (Nat.min_eq_left (Nat.mul_le_mul_right 11 (Nat.le_succ _))).symm

set_option maxRecDepth 100000 in
set_option maxHeartbeats 16000000 in
set_option pp.maxSteps 1000000 in
set_option pp.deepTerms true in
theorem specElemSet_c {G : PEl → Prop} (hT : TransOn G) (hGb : ∀ x, G x → FromEl x) {w : World} {X : List Nat} {lv : Value} {l : List EL} (hl : IsSl kEl 168 w X lv l) (hX : Old X w) (hG : ∀ e ∈ l, G (toE e)) (hbytes : (l.length + 1) * 168 ≤ 140737488351232)
    (R : Ending → World → Prop) (hR : ∀ w' v', Ext w w' → IsSl kEl 168 w' X v' ((esOf (l.map toE)).map backE) → R (.returned v') w') :
    Calls Tryz.prog 15 #[lv] w R := by
  obtain ⟨o, c, b, off, rfl, l2, l3, l4, l5⟩ := id hl.ex
  have l4' := Lib.hid l4
  have l5' := Lib.hid l5
  have hX' := Lib.hid hX
  have hG' := Lib.hid hG
  have hGb' := Lib.hid hGb
  have hR' := Lib.hid hR
  have hbytes' := Lib.hid hbytes
  have hmb : (l.length : Int) ≤ 140737488351232 := by omega
  have hb168 : Hid (∀ n : Nat, n < l.length → (n + 1) * 168 ≤ 140737488351232) := Lib.hid fun n hn => Nat.le_trans (Nat.mul_le_mul_right 168 (Nat.succ_le_succ (Nat.le_of_lt hn))) hbytes
  clear hR hX hl l4 l5 hG hGb hbytes l2 l3
  go_enter Tryz.func15, Tryz.ntmps15
  go_wp2_with fail
  have hrow0 : Hid (Row kEl 47 w X (.slice none 0 0) ((esOf ((l.take 0).map toE)).map backE)) := Lib.hid (Row.nil _ _ _ _)
  go_loopw [3, 5, 6, 9] (fun v _ _ i wr => ∃ k : Nat, k ≤ l.length ∧ i = .int .i64 k ∧ Ext w wr ∧ Hid (∀ g, v.ownBlock = some g → w.heap.size ≤ g) ∧ Hid (Row kEl 47 wr X v ((esOf ((l.take k).map toE)).map backE))) (fun _ _ _ i _ => l.length - (intOf i).toNat)
  case atStart => exact ⟨0, Nat.zero_le _, rfl, Ext.refl _, Lib.hid (fun g hg => by simp [Value.ownBlock] at hg), hrow0⟩
  case round =>
    obtain ⟨k, hk, rfl, hEr, hgv, hrow⟩ := hrel
    rename World => wr
    clear hrow0
    by_cases hlt : k < l.length
    · obtain ⟨cs, hc, hcs⟩ := l5'.out k hlt
      obtain ⟨rfl, -⟩ := l4'.out (by omega)
      have hone := kEl.one hcs
      obtain ⟨c0, c1, c2, c3, c4, c5, c6, c7, c8, c9, c10, rfl⟩ := kEl_eleven hcs
      have q0 := hEr.keep (hc 0 (by decide))
      have q1 := hEr.keep (hc 1 (by decide))
      have q2 := hEr.keep (hc 2 (by decide))
      have q3 := hEr.keep (hc 3 (by decide))
      have q4 := hEr.keep (hc 4 (by decide))
      have q5 := hEr.keep (hc 5 (by decide))
      have q6 := hEr.keep (hc 6 (by decide))
      have q7 := hEr.keep (hc 7 (by decide))
      have q8 := hEr.keep (hc 8 (by decide))
      have q9 := hEr.keep (hc 9 (by decide))
      have q10 := hEr.keep (hc 10 (by decide))
      simp only [show kEl.size = 11 from rfl, Nat.add_zero] at q0 q1 q2 q3 q4 q5 q6 q7 q8 q9 q10
      have hi1 : (k : Int) < (l.length : Int) := by omega
      have hkm : (k : Int) + 1 ≤ 9223372036854775807 := by omega
      have hcs' := Lib.hid hcs
      have hone' := Lib.hid hone
      have hfx := esOf_facts hT (l := (l.take k).map toE) (fun x hx => by
        obtain ⟨e, he, rfl⟩ := List.mem_map.1 hx
        exact hG'.out e (List.mem_of_mem_take he))
      have hlk : ((l.take k).map toE).length = k := by rw [List.length_map, List.length_take]; omega
      rw [hlk] at hfx
      have htk := Lib.hid (show (l.take (k + 1)).map toE = (l.take k).map toE ++ [toE (l[k]'hlt)] by rw [List.take_succ_eq_append_getElem hlt, List.map_append]; rfl)
      have hGk := Lib.hid (hG'.out _ (List.getElem_mem hlt))
      obtain ⟨e, he⟩ : ∃ e, l[k]'hlt = e := ⟨_, rfl⟩
      rw [he] at htk hGk hcs'
      obtain ⟨us, hus⟩ : ∃ us, esOf ((l.take k).map toE) = us := ⟨_, rfl⟩
      rw [hus] at hfx hrow
      have hnb := hb168.out k hlt
      have hsl := hrow.out.isSl (bytes := 168) (by rw [List.length_map]; exact Nat.le_trans (Nat.mul_le_mul_right 168 hfx.2.2) (Nat.le_trans (Nat.mul_le_mul_right 168 (Nat.le_succ k)) hnb))
      obtain ⟨n, hn⟩ : ∃ n, us.length = n := ⟨_, rfl⟩
      obtain ⟨vo, vc, vbk, voff, hv, v2, v3, v4, v5⟩ := id hsl.ex
      rw [List.length_map, hn] at hv v2 v4
      have hnk : n ≤ k := by rw [← hn]; exact hfx.2.2
      have hnI : (n : Int) ≤ 140737488351232 := by omega
      subst hv
      have hus' := Lib.hid hus
      have hfx' := Lib.hid hfx
      have hn' := Lib.hid hn
      have v4' := Lib.hid v4
      have v5' := Lib.hid v5
      have hnb' := Lib.hid hnb
      clear hc hcs hone hus hfx hlk he hn v4 v5 v3 hsl hnb
      go_wp2_with (first | (refine wpL_storeRow (cells := #[c0, c1, c2, c3, c4, c5, c6, c7, c8, c9, c10]) (b := wr.heap.size) rfl 47 _ _ rfl Tryz.size47 rfl rfl ((push_get _ _ _).trans (if_pos rfl)) rfl (by simpa using hone'.out) ?_; intro w5 h5 g5; have hEx : Ext wr w5 := ((Ext.refl wr).push _).grown g5 (fun k hk => by cases hk; exact Nat.le_refl _); have s0 : w5.cell? ⟨wr.heap.size, 0, none⟩ = some (c0) := cells_of h5 0; have s1 : w5.cell? ⟨wr.heap.size, 1, none⟩ = some (c1) := cells_of h5 1; have s2 : w5.cell? ⟨wr.heap.size, 2, none⟩ = some (c2) := cells_of h5 2; have s3 : w5.cell? ⟨wr.heap.size, 3, none⟩ = some (c3) := cells_of h5 3; have s4 : w5.cell? ⟨wr.heap.size, 4, none⟩ = some (c4) := cells_of h5 4; have s5 : w5.cell? ⟨wr.heap.size, 5, none⟩ = some (c5) := cells_of h5 5; have s6 : w5.cell? ⟨wr.heap.size, 6, none⟩ = some (c6) := cells_of h5 6; have s7 : w5.cell? ⟨wr.heap.size, 7, none⟩ = some (c7) := cells_of h5 7; have s8 : w5.cell? ⟨wr.heap.size, 8, none⟩ = some (c8) := cells_of h5 8; have s9 : w5.cell? ⟨wr.heap.size, 9, none⟩ = some (c9) := cells_of h5 9; have s10 : w5.cell? ⟨wr.heap.size, 10, none⟩ = some (c10) := cells_of h5 10; have hl5 := Lib.hid (Array.getElem?_eq_some_iff.1 h5).1; clear q0 q1 q2 q3 q4 q5 q6 q7 q8 q9 q10 h5 g5))
      have hcs5 : Hid (kEl.is w5 X [c0, c1, c2, c3, c4, c5, c6, c7, c8, c9, c10] e) := Lib.hid (kEl.mv hcs'.out ((hEr.trans hEx).mv X))
      go_loopw [6] (fun i wq => ∃ j : Nat, j ≤ n ∧ i = .int .i64 j ∧ Ext w5 wq ∧ Hid (∀ i (h : i < us.length), j ≤ i → 0 < cmpPe us[i] (toE e))) (fun i _ => (intOf i).toNat)
      case atStart => exact ⟨n, Nat.le_refl _, rfl, Ext.refl _, Lib.hid fun i h hi => by have := hn'.out; omega⟩
      case round =>
        obtain ⟨j, hj, rfl, hEq, hhi⟩ := hrel
        rename World => wq
        replace s0 := hEq.keep s0; replace s1 := hEq.keep s1; replace s2 := hEq.keep s2; replace s3 := hEq.keep s3; replace s4 := hEq.keep s4; replace s5 := hEq.keep s5; replace s6 := hEq.keep s6; replace s7 := hEq.keep s7; replace s8 := hEq.keep s8; replace s9 := hEq.keep s9; replace s10 := hEq.keep s10
        by_cases hj0 : j = 0
        · have hjz : ¬ (0 : Int) < (j : Int) := by omega
          have hjzb : decide ((0 : Int) < (j : Int)) = false := by simp [hj0]
          have hw01 : IntKind.i64.wrap 1 = 1 := by decide
          go_wp2_with fail
          refine wp_region_script [0, 1, 2, 3, 4, 5, 6, 7, 8, 10, 11] [] (fun w' => Ext wq w') [(.pure, 0), (.pure, 1), (.pure, 2), (.pure, 3), (.pure, 4), (.pure, 5), (.pure, 6), (.read, 7), (.read, 8), (.one, 9), (.pure, 10), (.pure, 11)] (by kernel_rfl) (by kernel_rfl) ?_
          have hC : Ext wq wq.drew := (Ext.refl wq).drew
          iterate 7 (first | (apply scr_pG; (· rfl); (· (first | rfl | (simp [Region.wanted, yielded, go_sem]; done) | (simp [Region.wanted, yielded, go_sem, *]; done))); (· (intro w'; go_simp; try rfl)); (· (simp [go_sem]; try rfl))) | (apply scr_p0; (· rfl); (· (first | rfl | (simp [Region.wanted, yielded, go_sem]; done) | (simp [Region.wanted, yielded, go_sem, *]; done))); (· (simp [go_sem]; try rfl))))
          (first | (apply scr_rG; (· rfl); (· (first | rfl | (simp [Region.wanted, yielded, go_sem]; done) | (simp [Region.wanted, yielded, go_sem, *]; done))); (· first | exact hC | exact (Ext.refl _).drew); (· (intro w' hw'; have s0_ := hw'.keep s0; go_simp; try rfl)); (· (simp [go_sem]; try rfl))) | (apply scr_r0G; (· rfl); (· (first | rfl | (simp [Region.wanted, yielded, go_sem]; done) | (simp [Region.wanted, yielded, go_sem, *]; done))); (· first | exact hC | exact (Ext.refl _).drew); (· (simp [go_sem]; try rfl))))
          (first | (apply scr_rG; (· rfl); (· (first | rfl | (simp [Region.wanted, yielded, go_sem]; done) | (simp [Region.wanted, yielded, go_sem, *]; done))); (· first | exact hC | exact (Ext.refl _).drew); (· (intro w' hw'; have s0_ := hw'.keep s0; go_simp; try rfl)); (· (simp [go_sem]; try rfl))) | (apply scr_r0G; (· rfl); (· (first | rfl | (simp [Region.wanted, yielded, go_sem]; done) | (simp [Region.wanted, yielded, go_sem, *]; done))); (· first | exact hC | exact (Ext.refl _).drew); (· (simp [go_sem]; try rfl))))
          refine scr_one0 rfl (by simp [Region.wanted, yielded, go_sem, hj0]) (fun h => by simp at h) (by simp [go_sem]; rfl) ?_
          iterate 2 (first | (apply scr_pG; (· rfl); (· (first | rfl | (simp [Region.wanted, yielded, go_sem]; done) | (simp [Region.wanted, yielded, go_sem, *]; done))); (· (intro w'; go_simp; try rfl)); (· (simp [go_sem]; try rfl))) | (apply scr_p0; (· rfl); (· (first | rfl | (simp [Region.wanted, yielded, go_sem]; done) | (simp [Region.wanted, yielded, go_sem, *]; done))); (· (simp [go_sem]; try rfl))))
          refine scr_end ?_
          simp only [Exit.then]
          replace s0 := hC.keep s0; replace s1 := hC.keep s1; replace s2 := hC.keep s2; replace s3 := hC.keep s3; replace s4 := hC.keep s4; replace s5 := hC.keep s5; replace s6 := hC.keep s6; replace s7 := hC.keep s7; replace s8 := hC.keep s8; replace s9 := hC.keep s9; replace s10 := hC.keep s10
          go_wp2_with fail
          refine wp_region_script [0, 1, 2, 3, 4, 5, 6, 7, 8, 10, 11] [] (fun w' => Ext wq.drew w') [(.pure, 0), (.pure, 1), (.pure, 2), (.pure, 3), (.pure, 4), (.pure, 5), (.pure, 6), (.read, 7), (.read, 8), (.one, 9), (.pure, 10), (.pure, 11)] (by kernel_rfl) (by kernel_rfl) ?_
          have hC2 : Ext wq.drew wq.drew.drew := (Ext.refl _).drew
          iterate 7 (first | (apply scr_pG; (· rfl); (· (first | rfl | (simp [Region.wanted, yielded, go_sem]; done) | (simp [Region.wanted, yielded, go_sem, *]; done))); (· (intro w'; go_simp; try rfl)); (· (simp [go_sem]; try rfl))) | (apply scr_p0; (· rfl); (· (first | rfl | (simp [Region.wanted, yielded, go_sem]; done) | (simp [Region.wanted, yielded, go_sem, *]; done))); (· (simp [go_sem]; try rfl))))
          (first | (apply scr_rG; (· rfl); (· (first | rfl | (simp [Region.wanted, yielded, go_sem]; done) | (simp [Region.wanted, yielded, go_sem, *]; done))); (· first | exact hC | exact (Ext.refl _).drew); (· (intro w' hw'; have s0_ := hw'.keep s0; go_simp; try rfl)); (· (simp [go_sem]; try rfl))) | (apply scr_r0G; (· rfl); (· (first | rfl | (simp [Region.wanted, yielded, go_sem]; done) | (simp [Region.wanted, yielded, go_sem, *]; done))); (· first | exact hC | exact (Ext.refl _).drew); (· (simp [go_sem]; try rfl))))
          (first | (apply scr_rG; (· rfl); (· (first | rfl | (simp [Region.wanted, yielded, go_sem]; done) | (simp [Region.wanted, yielded, go_sem, *]; done))); (· first | exact hC | exact (Ext.refl _).drew); (· (intro w' hw'; have s0_ := hw'.keep s0; go_simp; try rfl)); (· (simp [go_sem]; try rfl))) | (apply scr_r0G; (· rfl); (· (first | rfl | (simp [Region.wanted, yielded, go_sem]; done) | (simp [Region.wanted, yielded, go_sem, *]; done))); (· first | exact hC | exact (Ext.refl _).drew); (· (simp [go_sem]; try rfl))))
          refine scr_one0 rfl (by simp [Region.wanted, yielded, go_sem, hj0]) (fun h => by simp at h) (by simp [go_sem]; rfl) ?_
          iterate 2 (first | (apply scr_pG; (· rfl); (· (first | rfl | (simp [Region.wanted, yielded, go_sem]; done) | (simp [Region.wanted, yielded, go_sem, *]; done))); (· (intro w'; go_simp; try rfl)); (· (simp [go_sem]; try rfl))) | (apply scr_p0; (· rfl); (· (first | rfl | (simp [Region.wanted, yielded, go_sem]; done) | (simp [Region.wanted, yielded, go_sem, *]; done))); (· (simp [go_sem]; try rfl))))
          refine scr_end ?_
          simp only [Exit.then]
          replace s0 := hC2.keep s0; replace s1 := hC2.keep s1; replace s2 := hC2.keep s2; replace s3 := hC2.keep s3; replace s4 := hC2.keep s4; replace s5 := hC2.keep s5; replace s6 := hC2.keep s6; replace s7 := hC2.keep s7; replace s8 := hC2.keep s8; replace s9 := hC2.keep s9; replace s10 := hC2.keep s10
          have hE5z := Lib.hid (hEq.trans (hC.trans hC2))
          obtain ⟨wz, hwz⟩ : ∃ wz, wq.drew.drew = wz := ⟨_, rfl⟩
          rw [hwz] at hE5z s0 s1 s2 s3 s4 s5 s6 s7 s8 s9 s10 ⊢
          clear hwz hC hC2 hEq
          have hput : Hid (esIns us (toE e) = us.take j ++ toE e :: us.drop j) := Lib.hid (esIns_put (by omega) (fun h => by omega) (mono_of hT hfx'.out.1 hfx'.out.2.1 hGk.out) (fun i h hi => hhi.out i h hi))
          have hlm : (us.map backE).length = n := by rw [List.length_map]; exact hn'.out
          have hlm' := Lib.hid hlm
          have hEzz := Lib.hid (hEx.trans hE5z.out)
          have hXz := Lib.hid (hX'.out.le (hEr.trans hEzz.out).size)
          clear hlm
          go_wp2_with (at_builtin; refine wpL_rowApp (c := #[.int .i64 0, .string ⟨#[]⟩, .slice none 0 0, .slice none 0 0, .int .i64 0, .int .i64 0, .float .f64 0, .string ⟨#[]⟩, .slice none 0 0, .slice none 0 0, .int .i64 0]) rfl hrow.out hEzz.out hXz.out (zeroEl_is _ _) _ _ _ rfl Tryz.underlying22 Tryz.info47 rfl (by decide) rfl rfl (by rw [hlm'.out]; exact Nat.le_trans (Nat.mul_le_mul_right 168 (Nat.succ_le_succ hnk)) (Nat.le_trans hnb'.out (by decide))) (by rw [hlm'.out, maxLen_eq]; omega) ?_; intro v8 w8 hr8 hg8 hne8 hd8; have hr8' := Lib.hid hr8; have hg8' := Lib.hid hg8; have hd8' := Lib.hid hd8; clear hr8 hg8 hne8 hd8)
          obtain ⟨g, cap, cur, rows, hv8, hgX, hgb, hnc, hcm, hcz, hall, htkc⟩ := hr8'.out.open
          rw [hlm'.out] at hv8 hnc htkc
          subst hv8
          have hgw : w.heap.size ≤ g := by
            rcases hd8'.out g rfl with h | h
            · exact hgv.out g h
            · exact Nat.le_trans (hEr.trans hEzz.out).size h
          have hzb : wz.heap.size ≤ w8.heap.size := hg8'.out.size
          have hbx : ¬ wr.heap.size = g := fun e => by
            have hlt5 := Nat.lt_of_lt_of_le hl5.out hE5z.out.size
            rcases hd8'.out g rfl with h | h
            · have := hrow.out.lt h; omega
            · omega
          have hbv : ∀ i, w8.cell? ⟨wr.heap.size, i, none⟩ = wz.cell? ⟨wr.heap.size, i, none⟩ := fun i => World.cell?_of_block (hg8'.out.block _ (Nat.lt_of_lt_of_le hl5.out hE5z.out.size) (fun e => absurd (hrow.out.lt e.symm) (Nat.lt_irrefl _)))
          replace s0 := (hbv 0).trans s0
          replace s1 := (hbv 1).trans s1
          replace s2 := (hbv 2).trans s2
          replace s3 := (hbv 3).trans s3
          replace s4 := (hbv 4).trans s4
          replace s5 := (hbv 5).trans s5
          replace s6 := (hbv 6).trans s6
          replace s7 := (hbv 7).trans s7
          replace s8 := (hbv 8).trans s8
          replace s9 := (hbv 9).trans s9
          replace s10 := (hbv 10).trans s10
          have hEw8 : Ext w w8 := (hEr.trans hEzz.out).grown hg8'.out hgv.out
          have hEw8' := Lib.hid hEw8
          have hgb' := Lib.hid hgb
          have hcm' := Lib.hid hcm
          have hcz' := Lib.hid hcz
          have hall' := Lib.hid hall
          have htkc' := Lib.hid htkc
          have hzb' := Lib.hid hzb
          clear hbv hEw8 hgb hcm hcz hall htkc hr8' hd8' hg8' hzb
          have hsz11 : (Tryz.prog.info? 47).map (·.size) = some 11 := by kernel_rfl
          have hw47 : IntKind.i64.wrap ((j : Int) + 1) = (j : Int) + 1 := IntWalk.i64_in _ (by omega)
          have b3 : (j : Int) + 1 ≤ (n : Int) + 1 := by omega
          have b4 : (0 : Int) ≤ (j : Int) + 1 := by omega
          have b5 : (j : Int) ≤ (n : Int) + 1 := by omega
          have b6 : (j : Int) ≤ (n : Int) := by omega
          have b9 : ((j : Int) + 1).toNat = j + 1 := by omega
          have b8 : ¬ cap = j := by omega
          have b30 : (1 : Int) ≤ (n : Int) + 1 := by omega
          have hrl : rows.flatten.length = n * 11 := by
            rw [flat_len (All2.mem_len (s := 11) (fun r a h => kEl.len h) hall'.out), hall'.out.length, hlm'.out]
          have hrl' := Lib.hid hrl
          clear hrl
          by_cases hlast : j = n
          · subst hlast
            by_cases hcn : cap = j + 1
            · subst hcn
              refine wp_region_script [0, 1, 2, 3, 4, 5, 6] [] (fun w' => Ext w8 w') [(.pure, 0), (.pure, 1), (.pure, 2), (.pure, 3), (.pure, 4), (.pure, 5), (.pure, 6), (.one, 7)] (by kernel_rfl) (by kernel_rfl) ?_
              iterate 7 (apply scr_pure'; (· rfl); (· rfl); (· (intro w'; go_simp; try rfl)); (· (simp [go_sem]; try rfl)))
              refine scr_one rfl rfl (fun K hK => ?_)
              refine wp_copy0 _ _ _ _ rfl Tryz.underlying22 hsz11 (dp := some ⟨g, 0, none⟩) (dCap := 0) (sp := some ⟨g, j * 11, none⟩) (sCap := 1) (dLen := 0) (sLen := 1) (by go_simp; try rfl) (by go_simp; try rfl) (by simp) ?_
              refine hK _ _ (fun h => by simp at h) ?_
              clear hK
              refine scr_end ?_
              simp only [Exit.then]
              obtain ⟨w9, hw9⟩ : ∃ w9, w8.drew = w9 := ⟨_, rfl⟩
              have h9 : w9.heap[g]? = some (.cells cur 47 (0, 0)) := by rw [← hw9]; exact hgb'.out
              have hE9 : Ext w w9 := by rw [← hw9]; exact hEw8'.out.drew
              have hE89 : Ext w8 w9 := by rw [← hw9]; exact (Ext.refl w8).drew
              have hmv9 : Mv w8 (g :: X) w9 (g :: X) := hE89.mv _
              rw [hw9]
              replace s0 := hE89.keep s0; replace s1 := hE89.keep s1; replace s2 := hE89.keep s2; replace s3 := hE89.keep s3; replace s4 := hE89.keep s4; replace s5 := hE89.keep s5; replace s6 := hE89.keep s6; replace s7 := hE89.keep s7; replace s8 := hE89.keep s8; replace s9 := hE89.keep s9; replace s10 := hE89.keep s10
              clear hE89
              obtain ⟨fin1, hfin1⟩ : ∃ f : Array Value, cur = f := ⟨_, rfl⟩
              have hf9 : fin1.toList = cur.toList.take (j * 11 + 11) ++ rows.flatten.drop (j * 11) ++ cur.toList.drop (j * 11 + 11 + (rows.flatten.drop (j * 11)).length) := by
                rw [← hfin1, List.drop_eq_nil_of_le (by rw [hrl'.out]; exact Nat.le_refl _)]
                simp
              rw [hfin1] at h9
              clear hfin1 hw9
              have hgl9 := (Array.getElem?_eq_some_iff.1 h9).1
              have h9' := Lib.hid h9
              have hf9' := Lib.hid hf9
              have hE9' := Lib.hid hE9
              have hmv9' := Lib.hid hmv9
              clear h9 hf9 hE9 hmv9
              go_wp2_with fail
              refine cleanElem_c (X := g :: X) (cs := [c0, c1, c2, c3, c4, c5, c6, c7, c8, c9, c10]) (kEl.mv hcs'.out ((hE9'.out.mv X).more hgw)) (Old.cons hgl9 (hX'.out.le hE9'.out.size)) _ ?_
              intro w10 qs hE10 hq
              obtain ⟨d0, d1, d2, d3, d4, d5, d6, d7, d8, d9, d10, rfl⟩ := kEl_eleven hq
              have hqone := Lib.hid (kEl.one hq)
              have hq' := Lib.hid hq
              have h10 := Lib.hid ((hE10.below.block g hgl9).trans h9'.out)
              have hE10' := Lib.hid hE10
              have hif : j * 11 + 11 ≤ fin1.size := by
                have := congrArg List.length hf9'.out
                rw [Array.length_toList] at this
                simp only [List.length_append, List.length_take, List.length_drop, Array.length_toList, hcz'.out, hrl'.out] at this
                have h1 := Nat.mul_le_mul_right 11 hj
                have h2 := Nat.mul_le_mul_right 11 hnc
                omega
              have hif' := Lib.hid hif
              clear hq hE10 hif s0 s1 s2 s3 s4 s5 s6 s7 s8 s9 s10
              dsimp only
              go_wp2_with (refine wpL_storeSeg (cells := #[d0, d1, d2, d3, d4, d5, d6, d7, d8, d9, d10]) (b := g) (off := j * 11) (old := fin1) (new := (fin1.toList.take (j * 11) ++ [d0, d1, d2, d3, d4, d5, d6, d7, d8, d9, d10] ++ fin1.toList.drop (j * 11 + 11)).toArray) rfl 47 _ _ rfl Tryz.size47 (by first | rfl | (go_simp; try rfl)) (by first | rfl | (go_simp; try rfl)) h10.out (by show j * 11 + 11 ≤ fin1.size; exact hif'.out) hqone.out rfl ?_; intro w11 h11 g11; have h11' := Lib.hid h11; have g11' := Lib.hid g11; clear h11 g11)
              go_roundw
              case rel =>
                refine ⟨k + 1, by omega, by go_num, ?_, ?_, Lib.hid ?_⟩
                · exact (hE9'.out.trans hE10'.out).grown g11'.out (fun k hk => by cases hk; exact hgw)
                · exact Lib.hid fun g' hg' => by
                    simp only [Value.ownBlock, Option.some.injEq] at hg'
                    omega
                · have hmv11 : Mv w8 (g :: X) w11 (g :: X) := (hmv9'.out.ext hE10'.out).grown g11'.out (fun k hk => by cases hk; simp)
                  have hrs := row_shift (k := kEl) (e := 47) (w11 := w11) (X := X) (g := g) (cap := j + 1) (n := j) (j := j) (cur := cur) (fin := (fin1.toList.take (j * 11) ++ [d0, d1, d2, d3, d4, d5, d6, d7, d8, d9, d10] ++ fin1.toList.drop (j * 11 + 11)).toArray) (V := [d0, d1, d2, d3, d4, d5, d6, d7, d8, d9, d10]) (rows := rows) (us := us.map backE) (u := cleanEl e) hlm'.out (hall'.out.imp fun _ _ h => kEl.mv h hmv11) htkc'.out hj
                    (kEl.mv hq'.out ((Mv.refl w10 (g :: X)).grown g11'.out (fun k hk => by cases hk; simp))) hcz'.out hnc hcm'.out hgX h11'.out (by
                      show _ = (cur.toList.take (j * 11 + 11) ++ rows.flatten.drop (j * 11) ++ cur.toList.drop (j * 11 + 11 + (rows.flatten.drop (j * 11)).length)).take (j * 11) ++ [d0, d1, d2, d3, d4, d5, d6, d7, d8, d9, d10] ++ (cur.toList.take (j * 11 + 11) ++ rows.flatten.drop (j * 11) ++ cur.toList.drop (j * 11 + 11 + (rows.flatten.drop (j * 11)).length)).drop (j * 11 + 11)
                      rw [← hf9'.out])
                  rw [htk.out, esOf_snoc, hus'.out, hput.out, List.map_append, List.map_cons, List.map_take, List.map_drop, ← cleanEl_back]
                  (have ez : j = 0 := hj0); rw [ez] at hrs ⊢; exact hrs
              case measure => simp [intOf]; omega
            · have b7 : ¬ cap = j + 1 := hcn
              have b71 : ¬ cap = 1 := by omega
              refine wp_region_script [0, 1, 2, 3, 4, 5, 6] [] (fun w' => Ext w8 w') [(.pure, 0), (.pure, 1), (.pure, 2), (.pure, 3), (.pure, 4), (.pure, 5), (.pure, 6), (.one, 7)] (by kernel_rfl) (by kernel_rfl) ?_
              iterate 7 (apply scr_pure'; (· rfl); (· rfl); (· (intro w'; go_simp; try rfl)); (· (simp [go_sem]; try rfl)))
              refine scr_one rfl rfl (fun K hK => ?_)
              refine wp_copy0 _ _ _ _ rfl Tryz.underlying22 hsz11 (dp := some ⟨g, (j + 1) * 11, none⟩) (dCap := cap - (j + 1)) (sp := some ⟨g, j * 11, none⟩) (sCap := cap - j) (dLen := 0) (sLen := 1) (by go_simp; try rfl) (by go_simp; try rfl) (by simp) ?_
              refine hK _ _ (fun h => by simp at h) ?_
              clear hK
              refine scr_end ?_
              simp only [Exit.then]
              obtain ⟨w9, hw9⟩ : ∃ w9, w8.drew = w9 := ⟨_, rfl⟩
              have h9 : w9.heap[g]? = some (.cells cur 47 (0, 0)) := by rw [← hw9]; exact hgb'.out
              have hE9 : Ext w w9 := by rw [← hw9]; exact hEw8'.out.drew
              have hE89 : Ext w8 w9 := by rw [← hw9]; exact (Ext.refl w8).drew
              have hmv9 : Mv w8 (g :: X) w9 (g :: X) := hE89.mv _
              rw [hw9]
              replace s0 := hE89.keep s0; replace s1 := hE89.keep s1; replace s2 := hE89.keep s2; replace s3 := hE89.keep s3; replace s4 := hE89.keep s4; replace s5 := hE89.keep s5; replace s6 := hE89.keep s6; replace s7 := hE89.keep s7; replace s8 := hE89.keep s8; replace s9 := hE89.keep s9; replace s10 := hE89.keep s10
              clear hE89
              obtain ⟨fin1, hfin1⟩ : ∃ f : Array Value, cur = f := ⟨_, rfl⟩
              have hf9 : fin1.toList = cur.toList.take (j * 11 + 11) ++ rows.flatten.drop (j * 11) ++ cur.toList.drop (j * 11 + 11 + (rows.flatten.drop (j * 11)).length) := by
                rw [← hfin1, List.drop_eq_nil_of_le (by rw [hrl'.out]; exact Nat.le_refl _)]
                simp
              rw [hfin1] at h9
              clear hfin1 hw9
              have hgl9 := (Array.getElem?_eq_some_iff.1 h9).1
              have h9' := Lib.hid h9
              have hf9' := Lib.hid hf9
              have hE9' := Lib.hid hE9
              have hmv9' := Lib.hid hmv9
              clear h9 hf9 hE9 hmv9
              go_wp2_with fail
              refine cleanElem_c (X := g :: X) (cs := [c0, c1, c2, c3, c4, c5, c6, c7, c8, c9, c10]) (kEl.mv hcs'.out ((hE9'.out.mv X).more hgw)) (Old.cons hgl9 (hX'.out.le hE9'.out.size)) _ ?_
              intro w10 qs hE10 hq
              obtain ⟨d0, d1, d2, d3, d4, d5, d6, d7, d8, d9, d10, rfl⟩ := kEl_eleven hq
              have hqone := Lib.hid (kEl.one hq)
              have hq' := Lib.hid hq
              have h10 := Lib.hid ((hE10.below.block g hgl9).trans h9'.out)
              have hE10' := Lib.hid hE10
              have hif : j * 11 + 11 ≤ fin1.size := by
                have := congrArg List.length hf9'.out
                rw [Array.length_toList] at this
                simp only [List.length_append, List.length_take, List.length_drop, Array.length_toList, hcz'.out, hrl'.out] at this
                have h1 := Nat.mul_le_mul_right 11 hj
                have h2 := Nat.mul_le_mul_right 11 hnc
                omega
              have hif' := Lib.hid hif
              clear hq hE10 hif s0 s1 s2 s3 s4 s5 s6 s7 s8 s9 s10
              dsimp only
              go_wp2_with (refine wpL_storeSeg (cells := #[d0, d1, d2, d3, d4, d5, d6, d7, d8, d9, d10]) (b := g) (off := j * 11) (old := fin1) (new := (fin1.toList.take (j * 11) ++ [d0, d1, d2, d3, d4, d5, d6, d7, d8, d9, d10] ++ fin1.toList.drop (j * 11 + 11)).toArray) rfl 47 _ _ rfl Tryz.size47 (by first | rfl | (go_simp; try rfl)) (by first | rfl | (go_simp; try rfl)) h10.out (by show j * 11 + 11 ≤ fin1.size; exact hif'.out) hqone.out rfl ?_; intro w11 h11 g11; have h11' := Lib.hid h11; have g11' := Lib.hid g11; clear h11 g11)
              go_roundw
              case rel =>
                refine ⟨k + 1, by omega, by go_num, ?_, ?_, Lib.hid ?_⟩
                · exact (hE9'.out.trans hE10'.out).grown g11'.out (fun k hk => by cases hk; exact hgw)
                · exact Lib.hid fun g' hg' => by
                    simp only [Value.ownBlock, Option.some.injEq] at hg'
                    omega
                · have hmv11 : Mv w8 (g :: X) w11 (g :: X) := (hmv9'.out.ext hE10'.out).grown g11'.out (fun k hk => by cases hk; simp)
                  have hrs := row_shift (k := kEl) (e := 47) (w11 := w11) (X := X) (g := g) (cap := cap) (n := j) (j := j) (cur := cur) (fin := (fin1.toList.take (j * 11) ++ [d0, d1, d2, d3, d4, d5, d6, d7, d8, d9, d10] ++ fin1.toList.drop (j * 11 + 11)).toArray) (V := [d0, d1, d2, d3, d4, d5, d6, d7, d8, d9, d10]) (rows := rows) (us := us.map backE) (u := cleanEl e) hlm'.out (hall'.out.imp fun _ _ h => kEl.mv h hmv11) htkc'.out hj
                    (kEl.mv hq'.out ((Mv.refl w10 (g :: X)).grown g11'.out (fun k hk => by cases hk; simp))) hcz'.out hnc hcm'.out hgX h11'.out (by
                      show _ = (cur.toList.take (j * 11 + 11) ++ rows.flatten.drop (j * 11) ++ cur.toList.drop (j * 11 + 11 + (rows.flatten.drop (j * 11)).length)).take (j * 11) ++ [d0, d1, d2, d3, d4, d5, d6, d7, d8, d9, d10] ++ (cur.toList.take (j * 11 + 11) ++ rows.flatten.drop (j * 11) ++ cur.toList.drop (j * 11 + 11 + (rows.flatten.drop (j * 11)).length)).drop (j * 11 + 11)
                      rw [← hf9'.out])
                  rw [htk.out, esOf_snoc, hus'.out, hput.out, List.map_append, List.map_cons, List.map_take, List.map_drop, ← cleanEl_back]
                  (have ez : j = 0 := hj0); rw [ez] at hrs ⊢; exact hrs
              case measure => simp [intOf]; omega
          · have hlt9 : j < n := by omega
            have b7 : ¬ cap = j + 1 := by omega
            have b71 : ¬ cap = 1 := by omega
            refine wp_region_script [0, 1, 2, 3, 4, 5, 6] [] (fun w' => Ext w8 w') [(.pure, 0), (.pure, 1), (.pure, 2), (.pure, 3), (.pure, 4), (.pure, 5), (.pure, 6), (.one, 7)] (by kernel_rfl) (by kernel_rfl) ?_
            iterate 7 (apply scr_pure'; (· rfl); (· rfl); (· (intro w'; go_simp; try rfl)); (· (simp [go_sem]; try rfl)))
            refine scr_one rfl rfl (fun K hK => ?_)
            have hgc : ∀ i y, rows.flatten[i]? = some y → w8.drew.cell? ⟨g, i, none⟩ = some y := fun i y hi => by
              rw [cells_of (w := w8.drew) (b := g) hgb'.out]
              rw [← htkc'.out, List.getElem?_take] at hi
              split at hi
              · simpa using hi
              · cases hi
            have hml11 := Nat.mul_le_mul_right 11 hlt9
            have hmc11 := Nat.mul_le_mul_right 11 hnc
            refine wp_copyN _ _ _ _ rfl Tryz.underlying22 hsz11 (off := (j + 1) * 11) (dLen := n - j) (dCap := cap - (j + 1)) (ad := ⟨g, j * 11, none⟩) (sLen := n + 1 - j) (sCap := cap - j) (by go_simp; try rfl) (by go_simp; try rfl) (cur := cur) (t := 47) hgb'.out (rows.flatten.drop (j * 11)) (by rw [List.length_drop, hrl'.out, ← Nat.sub_mul]; congr 1; simp only [Nat.min_def]; split <;> omega)
              (fun i y hi => by
                have e1 : (⟨g, j * 11, none⟩ : Addr).add i = ⟨g, j * 11 + i, none⟩ := by unfold Addr.add; split <;> simp_all
                rw [e1]
                exact hgc _ _ (by rwa [List.getElem?_drop] at hi))
              (by rw [List.length_drop, hrl'.out, hcz'.out]; omega) (fun y hy => Row.flat hall'.out y (List.mem_of_mem_drop hy)) ?_
            intro w9 h9 g9
            refine hK _ _ (fun h => by simp at h) ?_
            clear hK hgc hml11 hmc11
            refine scr_end ?_
            simp only [Exit.then]
            rw [show (j + 1) * 11 = j * 11 + 11 by omega] at h9
            obtain ⟨fin1, hfin1⟩ : ∃ f : Array Value, (cur.toList.take (j * 11 + 11) ++ rows.flatten.drop (j * 11) ++ cur.toList.drop (j * 11 + 11 + (rows.flatten.drop (j * 11)).length)).toArray = f := ⟨_, rfl⟩
            rw [hfin1] at h9
            have hf9 : fin1.toList = cur.toList.take (j * 11 + 11) ++ rows.flatten.drop (j * 11) ++ cur.toList.drop (j * 11 + 11 + (rows.flatten.drop (j * 11)).length) := by rw [← hfin1]
            have hE9 : Ext w w9 := hEw8'.out.drew.grown g9 (fun k hk => by cases hk; exact hgw)
            have hmv9 : Mv w8 (g :: X) w9 (g :: X) := ((Mv.refl w8 (g :: X)).ext (Ext.refl w8).drew).grown g9 (fun k hk => by cases hk; simp)
            have hE8d : Ext w8 w8.drew := (Ext.refl w8).drew
            replace s0 := hE8d.keep s0; replace s1 := hE8d.keep s1; replace s2 := hE8d.keep s2; replace s3 := hE8d.keep s3; replace s4 := hE8d.keep s4; replace s5 := hE8d.keep s5; replace s6 := hE8d.keep s6; replace s7 := hE8d.keep s7; replace s8 := hE8d.keep s8; replace s9 := hE8d.keep s9; replace s10 := hE8d.keep s10
            replace s0 := grown_keep g9 s0 hbx; replace s1 := grown_keep g9 s1 hbx; replace s2 := grown_keep g9 s2 hbx; replace s3 := grown_keep g9 s3 hbx; replace s4 := grown_keep g9 s4 hbx; replace s5 := grown_keep g9 s5 hbx; replace s6 := grown_keep g9 s6 hbx; replace s7 := grown_keep g9 s7 hbx; replace s8 := grown_keep g9 s8 hbx; replace s9 := grown_keep g9 s9 hbx; replace s10 := grown_keep g9 s10 hbx
            clear hfin1 g9 hE8d
            have hgl9 := (Array.getElem?_eq_some_iff.1 h9).1
            have h9' := Lib.hid h9
            have hf9' := Lib.hid hf9
            have hE9' := Lib.hid hE9
            have hmv9' := Lib.hid hmv9
            clear h9 hf9 hE9 hmv9
            go_wp2_with fail
            refine cleanElem_c (X := g :: X) (cs := [c0, c1, c2, c3, c4, c5, c6, c7, c8, c9, c10]) (kEl.mv hcs'.out ((hE9'.out.mv X).more hgw)) (Old.cons hgl9 (hX'.out.le hE9'.out.size)) _ ?_
            intro w10 qs hE10 hq
            obtain ⟨d0, d1, d2, d3, d4, d5, d6, d7, d8, d9, d10, rfl⟩ := kEl_eleven hq
            have hqone := Lib.hid (kEl.one hq)
            have hq' := Lib.hid hq
            have h10 := Lib.hid ((hE10.below.block g hgl9).trans h9'.out)
            have hE10' := Lib.hid hE10
            have hif : j * 11 + 11 ≤ fin1.size := by
              have := congrArg List.length hf9'.out
              rw [Array.length_toList] at this
              simp only [List.length_append, List.length_take, List.length_drop, Array.length_toList, hcz'.out, hrl'.out] at this
              have h1 := Nat.mul_le_mul_right 11 hj
              have h2 := Nat.mul_le_mul_right 11 hnc
              omega
            have hif' := Lib.hid hif
            clear hq hE10 hif s0 s1 s2 s3 s4 s5 s6 s7 s8 s9 s10
            dsimp only
            go_wp2_with (refine wpL_storeSeg (cells := #[d0, d1, d2, d3, d4, d5, d6, d7, d8, d9, d10]) (b := g) (off := j * 11) (old := fin1) (new := (fin1.toList.take (j * 11) ++ [d0, d1, d2, d3, d4, d5, d6, d7, d8, d9, d10] ++ fin1.toList.drop (j * 11 + 11)).toArray) rfl 47 _ _ rfl Tryz.size47 (by first | rfl | (go_simp; try rfl)) (by first | rfl | (go_simp; try rfl)) h10.out (by show j * 11 + 11 ≤ fin1.size; exact hif'.out) hqone.out rfl ?_; intro w11 h11 g11; have h11' := Lib.hid h11; have g11' := Lib.hid g11; clear h11 g11)
            go_roundw
            case rel =>
              refine ⟨k + 1, by omega, by go_num, ?_, ?_, Lib.hid ?_⟩
              · exact (hE9'.out.trans hE10'.out).grown g11'.out (fun k hk => by cases hk; exact hgw)
              · exact Lib.hid fun g' hg' => by
                  simp only [Value.ownBlock, Option.some.injEq] at hg'
                  omega
              · have hmv11 : Mv w8 (g :: X) w11 (g :: X) := (hmv9'.out.ext hE10'.out).grown g11'.out (fun k hk => by cases hk; simp)
                have hrs := row_shift (k := kEl) (e := 47) (w11 := w11) (X := X) (g := g) (cap := cap) (n := n) (j := j) (cur := cur) (fin := (fin1.toList.take (j * 11) ++ [d0, d1, d2, d3, d4, d5, d6, d7, d8, d9, d10] ++ fin1.toList.drop (j * 11 + 11)).toArray) (V := [d0, d1, d2, d3, d4, d5, d6, d7, d8, d9, d10]) (rows := rows) (us := us.map backE) (u := cleanEl e) hlm'.out (hall'.out.imp fun _ _ h => kEl.mv h hmv11) htkc'.out hj
                  (kEl.mv hq'.out ((Mv.refl w10 (g :: X)).grown g11'.out (fun k hk => by cases hk; simp))) hcz'.out hnc hcm'.out hgX h11'.out (by
                    show _ = (cur.toList.take (j * 11 + 11) ++ rows.flatten.drop (j * 11) ++ cur.toList.drop (j * 11 + 11 + (rows.flatten.drop (j * 11)).length)).take (j * 11) ++ [d0, d1, d2, d3, d4, d5, d6, d7, d8, d9, d10] ++ (cur.toList.take (j * 11 + 11) ++ rows.flatten.drop (j * 11) ++ cur.toList.drop (j * 11 + 11 + (rows.flatten.drop (j * 11)).length)).drop (j * 11 + 11)
                    rw [← hf9'.out])
                rw [htk.out, esOf_snoc, hus'.out, hput.out, List.map_append, List.map_cons, List.map_take, List.map_drop, ← cleanEl_back]
                (have ez : j = 0 := hj0); rw [ez] at hrs ⊢; exact hrs
            case measure => simp [intOf]; omega
        · obtain ⟨m, hm⟩ : ∃ m, j = m + 1 := ⟨j - 1, by omega⟩
          have hmn : m < us.length := by have := hn'.out; omega
          obtain ⟨ds, hd, hds⟩ := v5'.out m (by simpa using hmn)
          rw [List.getElem_map] at hds
          obtain ⟨rfl, -⟩ := v4'.out (by omega)
          obtain ⟨d0, d1, d2, d3, d4, d5, d6, d7, d8, d9, d10, rfl⟩ := kEl_eleven hds
          have g0 := (hEx.trans hEq).keep (hd 0 (by decide))
          have g1 := (hEx.trans hEq).keep (hd 1 (by decide))
          have g2 := (hEx.trans hEq).keep (hd 2 (by decide))
          have g3 := (hEx.trans hEq).keep (hd 3 (by decide))
          have g4 := (hEx.trans hEq).keep (hd 4 (by decide))
          have g5 := (hEx.trans hEq).keep (hd 5 (by decide))
          have g6 := (hEx.trans hEq).keep (hd 6 (by decide))
          have g7 := (hEx.trans hEq).keep (hd 7 (by decide))
          have g8 := (hEx.trans hEq).keep (hd 8 (by decide))
          have g9 := (hEx.trans hEq).keep (hd 9 (by decide))
          have g10 := (hEx.trans hEq).keep (hd 10 (by decide))
          simp only [show kEl.size = 11 from rfl, Nat.add_zero] at g0 g1 g2 g3 g4 g5 g6 g7 g8 g9 g10
          have hjp : (0 : Int) < (j : Int) := by omega
          have hjn : 0 < j := by omega
          have hj1 : ¬ j = 0 := by omega
          have hwm : IntKind.i64.wrap ((j : Int) - 1) = (m : Int) := by rw [IntWalk.i64_in _ (by omega)]; omega
          have hmI : (m : Int) < (n : Int) := by omega
          have hm0 : (0 : Int) ≤ (m : Int) := by omega
          obtain ⟨z, hz⟩ : ∃ z, cmpPe us[m] (toE e) = z := ⟨_, rfl⟩
          have hds' := Lib.hid hds
          have hmn' := Lib.hid hmn
          have hz' := Lib.hid hz
          have hm' := Lib.hid hm
          clear hd hds hz hm hj0
          go_wp2_with fail
          refine wp_region_script [0, 1, 2, 3, 4, 5, 6, 7, 8, 10, 11] [] (fun w' => Ext wq w') [(.pure, 0), (.pure, 1), (.pure, 2), (.pure, 3), (.pure, 4), (.pure, 5), (.pure, 6), (.read, 7), (.read, 8), (.one, 9), (.pure, 10), (.pure, 11)] (by kernel_rfl) (by kernel_rfl) ?_
          iterate 7 (first | (apply scr_pG; (· rfl); (· (first | rfl | (simp [Region.wanted, yielded, go_sem]; done) | (simp [Region.wanted, yielded, go_sem, *]; done))); (· (intro w'; go_simp; try rfl)); (· (simp [go_sem]; try rfl))) | (apply scr_p0; (· rfl); (· (first | rfl | (simp [Region.wanted, yielded, go_sem]; done) | (simp [Region.wanted, yielded, go_sem, *]; done))); (· (simp [go_sem]; try rfl))))
          (first | (apply scr_rG; (· rfl); (· (first | rfl | (simp [Region.wanted, yielded, go_sem]; done) | (simp [Region.wanted, yielded, go_sem, *]; done))); (· first | exact hC | exact (Ext.refl _).drew); (· (intro w' hw'; have g0_ := hw'.keep g0; have g1_ := hw'.keep g1; have g2_ := hw'.keep g2; have g3_ := hw'.keep g3; have g4_ := hw'.keep g4; have g5_ := hw'.keep g5; have g6_ := hw'.keep g6; have g7_ := hw'.keep g7; have g8_ := hw'.keep g8; have g9_ := hw'.keep g9; have g10_ := hw'.keep g10; go_simp; try rfl)); (· (simp [go_sem]; try rfl))) | (apply scr_r0G; (· rfl); (· (first | rfl | (simp [Region.wanted, yielded, go_sem]; done) | (simp [Region.wanted, yielded, go_sem, *]; done))); (· first | exact hC | exact (Ext.refl _).drew); (· (simp [go_sem]; try rfl))))
          (first | (apply scr_rG; (· rfl); (· (first | rfl | (simp [Region.wanted, yielded, go_sem]; done) | (simp [Region.wanted, yielded, go_sem, *]; done))); (· first | exact hC | exact (Ext.refl _).drew); (· (intro w' hw'; have s0_ := hw'.keep s0; have s1_ := hw'.keep s1; have s2_ := hw'.keep s2; have s3_ := hw'.keep s3; have s4_ := hw'.keep s4; have s5_ := hw'.keep s5; have s6_ := hw'.keep s6; have s7_ := hw'.keep s7; have s8_ := hw'.keep s8; have s9_ := hw'.keep s9; have s10_ := hw'.keep s10; go_simp; try rfl)); (· (simp [go_sem]; try rfl))) | (apply scr_r0G; (· rfl); (· (first | rfl | (simp [Region.wanted, yielded, go_sem]; done) | (simp [Region.wanted, yielded, go_sem, *]; done))); (· first | exact hC | exact (Ext.refl _).drew); (· (simp [go_sem]; try rfl))))
          refine scr_oneG rfl (by simp [Region.wanted, yielded, go_sem]) (fun K hK => ?_)
          go_simp
          refine specCompareElems_c (X := X) (Y := X) (kEl.mv hds'.out (((hEx.trans hEq).drew).mv X)) (kEl.mv hcs5.out (hEq.drew.mv X)) _ ?_
          rw [cmpPe_back (hGb'.out _ (hfx'.out.2.1 _ (List.getElem_mem hmn'.out))), hz'.out]
          intro w6 hE6
          refine hK _ _ (fun h => by simp at h) ?_
          clear hK
          have hE56 := Lib.hid (hEq.trans ((Ext.refl wq).drew.trans hE6))
          have hqq := (Ext.refl wq).drew.trans hE6
          replace s0 := hqq.keep s0; replace s1 := hqq.keep s1; replace s2 := hqq.keep s2; replace s3 := hqq.keep s3; replace s4 := hqq.keep s4; replace s5 := hqq.keep s5; replace s6 := hqq.keep s6; replace s7 := hqq.keep s7; replace s8 := hqq.keep s8; replace s9 := hqq.keep s9; replace s10 := hqq.keep s10; replace g0 := hqq.keep g0; replace g1 := hqq.keep g1; replace g2 := hqq.keep g2; replace g3 := hqq.keep g3; replace g4 := hqq.keep g4; replace g5 := hqq.keep g5; replace g6 := hqq.keep g6; replace g7 := hqq.keep g7; replace g8 := hqq.keep g8; replace g9 := hqq.keep g9; replace g10 := hqq.keep g10
          clear hE6 hEq
          by_cases hz0 : 0 < z
          · iterate 2 (first | (apply scr_pG; (· rfl); (· (first | rfl | (simp [Region.wanted, yielded, go_sem]; done) | (simp [Region.wanted, yielded, go_sem, *]; done))); (· (intro w'; go_simp; try rfl)); (· (simp [go_sem]; try rfl))) | (apply scr_p0; (· rfl); (· (first | rfl | (simp [Region.wanted, yielded, go_sem]; done) | (simp [Region.wanted, yielded, go_sem, *]; done))); (· (simp [go_sem]; try rfl))))
            refine scr_end ?_
            simp only [Exit.then]
            have hE56' := hE56.out
            clear g0 g1 g2 g3 g4 g5 g6 g7 g8 g9 g10 s0 s1 s2 s3 s4 s5 s6 s7 s8 s9 s10 hqq hEr hEx
            go_wp2_with fail
            go_roundw
            case rel =>
              refine ⟨m, by have := hm'.out; omega, by go_num, hE56', Lib.hid fun i h hi => ?_⟩
              by_cases ei : i = m
              · subst ei; rw [hz'.out]; exact hz0
              · exact hhi.out i h (by have := hm'.out; omega)
            case measure => have := hm'.out; simp [intOf, hwm]; omega
          · iterate 2 (first | (apply scr_pG; (· rfl); (· (first | rfl | (simp [Region.wanted, yielded, go_sem]; done) | (simp [Region.wanted, yielded, go_sem, *]; done))); (· (intro w'; go_simp; try rfl)); (· (simp [go_sem]; try rfl))) | (apply scr_p0; (· rfl); (· (first | rfl | (simp [Region.wanted, yielded, go_sem]; done) | (simp [Region.wanted, yielded, go_sem, *]; done))); (· (simp [go_sem]; try rfl))))
            refine scr_end ?_
            simp only [Exit.then]
            clear hqq
            go_wp2_with fail
            refine wp_region_script [0, 1, 2, 3, 4, 5, 6, 7, 8, 10, 11] [] (fun w' => Ext w6 w') [(.pure, 0), (.pure, 1), (.pure, 2), (.pure, 3), (.pure, 4), (.pure, 5), (.pure, 6), (.read, 7), (.read, 8), (.one, 9), (.pure, 10), (.pure, 11)] (by kernel_rfl) (by kernel_rfl) ?_
            iterate 7 (first | (apply scr_pG; (· rfl); (· (first | rfl | (simp [Region.wanted, yielded, go_sem]; done) | (simp [Region.wanted, yielded, go_sem, *]; done))); (· (intro w'; go_simp; try rfl)); (· (simp [go_sem]; try rfl))) | (apply scr_p0; (· rfl); (· (first | rfl | (simp [Region.wanted, yielded, go_sem]; done) | (simp [Region.wanted, yielded, go_sem, *]; done))); (· (simp [go_sem]; try rfl))))
            (first | (apply scr_rG; (· rfl); (· (first | rfl | (simp [Region.wanted, yielded, go_sem]; done) | (simp [Region.wanted, yielded, go_sem, *]; done))); (· first | exact hC | exact (Ext.refl _).drew); (· (intro w' hw'; have g0_ := hw'.keep g0; have g1_ := hw'.keep g1; have g2_ := hw'.keep g2; have g3_ := hw'.keep g3; have g4_ := hw'.keep g4; have g5_ := hw'.keep g5; have g6_ := hw'.keep g6; have g7_ := hw'.keep g7; have g8_ := hw'.keep g8; have g9_ := hw'.keep g9; have g10_ := hw'.keep g10; go_simp; try rfl)); (· (simp [go_sem]; try rfl))) | (apply scr_r0G; (· rfl); (· (first | rfl | (simp [Region.wanted, yielded, go_sem]; done) | (simp [Region.wanted, yielded, go_sem, *]; done))); (· first | exact hC | exact (Ext.refl _).drew); (· (simp [go_sem]; try rfl))))
            (first | (apply scr_rG; (· rfl); (· (first | rfl | (simp [Region.wanted, yielded, go_sem]; done) | (simp [Region.wanted, yielded, go_sem, *]; done))); (· first | exact hC | exact (Ext.refl _).drew); (· (intro w' hw'; have s0_ := hw'.keep s0; have s1_ := hw'.keep s1; have s2_ := hw'.keep s2; have s3_ := hw'.keep s3; have s4_ := hw'.keep s4; have s5_ := hw'.keep s5; have s6_ := hw'.keep s6; have s7_ := hw'.keep s7; have s8_ := hw'.keep s8; have s9_ := hw'.keep s9; have s10_ := hw'.keep s10; go_simp; try rfl)); (· (simp [go_sem]; try rfl))) | (apply scr_r0G; (· rfl); (· (first | rfl | (simp [Region.wanted, yielded, go_sem]; done) | (simp [Region.wanted, yielded, go_sem, *]; done))); (· first | exact hC | exact (Ext.refl _).drew); (· (simp [go_sem]; try rfl))))
            refine scr_oneG rfl (by simp [Region.wanted, yielded, go_sem]) (fun K hK => ?_)
            go_simp
            refine specCompareElems_c (X := X) (Y := X) (kEl.mv hds'.out (((hEx.trans hE56.out).drew).mv X)) (kEl.mv hcs5.out (hE56.out.drew.mv X)) _ ?_
            rw [cmpPe_back (hGb'.out _ (hfx'.out.2.1 _ (List.getElem_mem hmn'.out))), hz'.out]
            intro wz hEz
            refine hK _ _ (fun h => by simp at h) ?_
            clear hK
            have hE5z := Lib.hid (hE56.out.trans ((Ext.refl w6).drew.trans hEz))
            have hqq := (Ext.refl w6).drew.trans hEz
            replace s0 := hqq.keep s0; replace s1 := hqq.keep s1; replace s2 := hqq.keep s2; replace s3 := hqq.keep s3; replace s4 := hqq.keep s4; replace s5 := hqq.keep s5; replace s6 := hqq.keep s6; replace s7 := hqq.keep s7; replace s8 := hqq.keep s8; replace s9 := hqq.keep s9; replace s10 := hqq.keep s10
            clear hqq g0 g1 g2 g3 g4 g5 g6 g7 g8 g9 g10 hEz
            by_cases hz1 : z = 0
            · have hzb : (z == 0) = true := by rw [hz1]; rfl
              iterate 2 (first | (apply scr_pG; (· rfl); (· (first | rfl | (simp [Region.wanted, yielded, go_sem]; done) | (simp [Region.wanted, yielded, go_sem, *]; done))); (· (intro w'; go_simp; try rfl)); (· (simp [go_sem]; try rfl))) | (apply scr_p0; (· rfl); (· (first | rfl | (simp [Region.wanted, yielded, go_sem]; done) | (simp [Region.wanted, yielded, go_sem, *]; done))); (· (simp [go_sem]; try rfl))))
              refine scr_end ?_
              simp only [Exit.then]
              clear s0 s1 s2 s3 s4 s5 s6 s7 s8 s9 s10
              have hEzz := Lib.hid (hEx.trans hE5z.out)
              have hEwz := Lib.hid (hEr.trans hEzz.out)
              clear hEr hEx
              go_wp2_with fail
              go_roundw
              case rel =>
                have hhas := esIns_has hT hfx'.out.1 hfx'.out.2.1 hGk.out hmn'.out (hz'.out.trans hz1)
                refine ⟨k + 1, by omega, by go_num, hEwz.out, hgv, Lib.hid ?_⟩
                rw [htk.out, esOf_snoc, hus'.out, hhas]
                exact hrow.out.ext hEzz.out
              case measure => simp [intOf]; omega
            · have hzb : (z == 0) = false := by rw [beq_eq_false_iff_ne]; exact hz1
              iterate 2 (first | (apply scr_pG; (· rfl); (· (first | rfl | (simp [Region.wanted, yielded, go_sem]; done) | (simp [Region.wanted, yielded, go_sem, *]; done))); (· (intro w'; go_simp; try rfl)); (· (simp [go_sem]; try rfl))) | (apply scr_p0; (· rfl); (· (first | rfl | (simp [Region.wanted, yielded, go_sem]; done) | (simp [Region.wanted, yielded, go_sem, *]; done))); (· (simp [go_sem]; try rfl))))
              refine scr_end ?_
              simp only [Exit.then]
              have hput : Hid (esIns us (toE e) = us.take j ++ toE e :: us.drop j) := Lib.hid (esIns_put (by have := hm'.out; omega) (fun h => by
                have e1 : us[j - 1]'(by have := hm'.out; have := hmn'.out; omega) = us[m]'hmn'.out := by congr 1; have := hm'.out; omega
                rw [e1, hz'.out]; omega) (mono_of hT hfx'.out.1 hfx'.out.2.1 hGk.out) (fun i h hi => hhi.out i h hi))
              have hlm : (us.map backE).length = n := by rw [List.length_map]; exact hn'.out
              have hlm' := Lib.hid hlm
              have hEzz := Lib.hid (hEx.trans hE5z.out)
              have hXz := Lib.hid (hX'.out.le (hEr.trans hEzz.out).size)
              clear hlm
              go_wp2_with (at_builtin; refine wpL_rowApp (c := #[.int .i64 0, .string ⟨#[]⟩, .slice none 0 0, .slice none 0 0, .int .i64 0, .int .i64 0, .float .f64 0, .string ⟨#[]⟩, .slice none 0 0, .slice none 0 0, .int .i64 0]) rfl hrow.out hEzz.out hXz.out (zeroEl_is _ _) _ _ _ rfl Tryz.underlying22 Tryz.info47 rfl (by decide) rfl rfl (by rw [hlm'.out]; exact Nat.le_trans (Nat.mul_le_mul_right 168 (Nat.succ_le_succ hnk)) (Nat.le_trans hnb'.out (by decide))) (by rw [hlm'.out, maxLen_eq]; omega) ?_; intro v8 w8 hr8 hg8 hne8 hd8; have hr8' := Lib.hid hr8; have hg8' := Lib.hid hg8; have hd8' := Lib.hid hd8; clear hr8 hg8 hne8 hd8)
              obtain ⟨g, cap, cur, rows, hv8, hgX, hgb, hnc, hcm, hcz, hall, htkc⟩ := hr8'.out.open
              rw [hlm'.out] at hv8 hnc htkc
              subst hv8
              have hgw : w.heap.size ≤ g := by
                rcases hd8'.out g rfl with h | h
                · exact hgv.out g h
                · exact Nat.le_trans (hEr.trans hEzz.out).size h
              have hzb : wz.heap.size ≤ w8.heap.size := hg8'.out.size
              have hbx : ¬ wr.heap.size = g := fun e => by
                have hlt5 := Nat.lt_of_lt_of_le hl5.out hE5z.out.size
                rcases hd8'.out g rfl with h | h
                · have := hrow.out.lt h; omega
                · omega
              have hbv : ∀ i, w8.cell? ⟨wr.heap.size, i, none⟩ = wz.cell? ⟨wr.heap.size, i, none⟩ := fun i => World.cell?_of_block (hg8'.out.block _ (Nat.lt_of_lt_of_le hl5.out hE5z.out.size) (fun e => absurd (hrow.out.lt e.symm) (Nat.lt_irrefl _)))
              replace s0 := (hbv 0).trans s0
              replace s1 := (hbv 1).trans s1
              replace s2 := (hbv 2).trans s2
              replace s3 := (hbv 3).trans s3
              replace s4 := (hbv 4).trans s4
              replace s5 := (hbv 5).trans s5
              replace s6 := (hbv 6).trans s6
              replace s7 := (hbv 7).trans s7
              replace s8 := (hbv 8).trans s8
              replace s9 := (hbv 9).trans s9
              replace s10 := (hbv 10).trans s10
              have hEw8 : Ext w w8 := (hEr.trans hEzz.out).grown hg8'.out hgv.out
              have hEw8' := Lib.hid hEw8
              have hgb' := Lib.hid hgb
              have hcm' := Lib.hid hcm
              have hcz' := Lib.hid hcz
              have hall' := Lib.hid hall
              have htkc' := Lib.hid htkc
              have hzb' := Lib.hid hzb
              clear hbv hEw8 hgb hcm hcz hall htkc hr8' hd8' hg8' hzb
              have hsz11 : (Tryz.prog.info? 47).map (·.size) = some 11 := by kernel_rfl
              have hw47 : IntKind.i64.wrap ((j : Int) + 1) = (j : Int) + 1 := IntWalk.i64_in _ (by omega)
              have b3 : (j : Int) + 1 ≤ (n : Int) + 1 := by omega
              have b4 : (0 : Int) ≤ (j : Int) + 1 := by omega
              have b5 : (j : Int) ≤ (n : Int) + 1 := by omega
              have b6 : (j : Int) ≤ (n : Int) := by omega
              have b9 : ((j : Int) + 1).toNat = j + 1 := by omega
              have b8 : ¬ cap = j := by omega
              have hrl : rows.flatten.length = n * 11 := by
                rw [flat_len (All2.mem_len (s := 11) (fun r a h => kEl.len h) hall'.out), hall'.out.length, hlm'.out]
              have hrl' := Lib.hid hrl
              clear hrl
              by_cases hlast : j = n
              · subst hlast
                by_cases hcn : cap = j + 1
                · subst hcn
                  refine wp_region_script [0, 1, 2, 3, 4, 5, 6] [] (fun w' => Ext w8 w') [(.pure, 0), (.pure, 1), (.pure, 2), (.pure, 3), (.pure, 4), (.pure, 5), (.pure, 6), (.one, 7)] (by kernel_rfl) (by kernel_rfl) ?_
                  iterate 7 (apply scr_pure'; (· rfl); (· rfl); (· (intro w'; go_simp; try rfl)); (· (simp [go_sem]; try rfl)))
                  refine scr_one rfl rfl (fun K hK => ?_)
                  refine wp_copy0 _ _ _ _ rfl Tryz.underlying22 hsz11 (dp := some ⟨g, 0, none⟩) (dCap := 0) (sp := some ⟨g, j * 11, none⟩) (sCap := 1) (dLen := 0) (sLen := 1) (by go_simp; try rfl) (by go_simp; try rfl) (by simp) ?_
                  refine hK _ _ (fun h => by simp at h) ?_
                  clear hK
                  refine scr_end ?_
                  simp only [Exit.then]
                  obtain ⟨w9, hw9⟩ : ∃ w9, w8.drew = w9 := ⟨_, rfl⟩
                  have h9 : w9.heap[g]? = some (.cells cur 47 (0, 0)) := by rw [← hw9]; exact hgb'.out
                  have hE9 : Ext w w9 := by rw [← hw9]; exact hEw8'.out.drew
                  have hE89 : Ext w8 w9 := by rw [← hw9]; exact (Ext.refl w8).drew
                  have hmv9 : Mv w8 (g :: X) w9 (g :: X) := hE89.mv _
                  rw [hw9]
                  replace s0 := hE89.keep s0; replace s1 := hE89.keep s1; replace s2 := hE89.keep s2; replace s3 := hE89.keep s3; replace s4 := hE89.keep s4; replace s5 := hE89.keep s5; replace s6 := hE89.keep s6; replace s7 := hE89.keep s7; replace s8 := hE89.keep s8; replace s9 := hE89.keep s9; replace s10 := hE89.keep s10
                  clear hE89
                  obtain ⟨fin1, hfin1⟩ : ∃ f : Array Value, cur = f := ⟨_, rfl⟩
                  have hf9 : fin1.toList = cur.toList.take (j * 11 + 11) ++ rows.flatten.drop (j * 11) ++ cur.toList.drop (j * 11 + 11 + (rows.flatten.drop (j * 11)).length) := by
                    rw [← hfin1, List.drop_eq_nil_of_le (by rw [hrl'.out]; exact Nat.le_refl _)]
                    simp
                  rw [hfin1] at h9
                  clear hfin1 hw9
                  have hgl9 := (Array.getElem?_eq_some_iff.1 h9).1
                  have h9' := Lib.hid h9
                  have hf9' := Lib.hid hf9
                  have hE9' := Lib.hid hE9
                  have hmv9' := Lib.hid hmv9
                  clear h9 hf9 hE9 hmv9
                  go_wp2_with fail
                  refine cleanElem_c (X := g :: X) (cs := [c0, c1, c2, c3, c4, c5, c6, c7, c8, c9, c10]) (kEl.mv hcs'.out ((hE9'.out.mv X).more hgw)) (Old.cons hgl9 (hX'.out.le hE9'.out.size)) _ ?_
                  intro w10 qs hE10 hq
                  obtain ⟨d0, d1, d2, d3, d4, d5, d6, d7, d8, d9, d10, rfl⟩ := kEl_eleven hq
                  have hqone := Lib.hid (kEl.one hq)
                  have hq' := Lib.hid hq
                  have h10 := Lib.hid ((hE10.below.block g hgl9).trans h9'.out)
                  have hE10' := Lib.hid hE10
                  have hif : j * 11 + 11 ≤ fin1.size := by
                    have := congrArg List.length hf9'.out
                    rw [Array.length_toList] at this
                    simp only [List.length_append, List.length_take, List.length_drop, Array.length_toList, hcz'.out, hrl'.out] at this
                    have h1 := Nat.mul_le_mul_right 11 hj
                    have h2 := Nat.mul_le_mul_right 11 hnc
                    omega
                  have hif' := Lib.hid hif
                  clear hq hE10 hif s0 s1 s2 s3 s4 s5 s6 s7 s8 s9 s10
                  dsimp only
                  go_wp2_with (refine wpL_storeSeg (cells := #[d0, d1, d2, d3, d4, d5, d6, d7, d8, d9, d10]) (b := g) (off := j * 11) (old := fin1) (new := (fin1.toList.take (j * 11) ++ [d0, d1, d2, d3, d4, d5, d6, d7, d8, d9, d10] ++ fin1.toList.drop (j * 11 + 11)).toArray) rfl 47 _ _ rfl Tryz.size47 (by first | rfl | (go_simp; try rfl)) (by first | rfl | (go_simp; try rfl)) h10.out (by show j * 11 + 11 ≤ fin1.size; exact hif'.out) hqone.out rfl ?_; intro w11 h11 g11; have h11' := Lib.hid h11; have g11' := Lib.hid g11; clear h11 g11)
                  go_roundw
                  case rel =>
                    refine ⟨k + 1, by omega, by go_num, ?_, ?_, Lib.hid ?_⟩
                    · exact (hE9'.out.trans hE10'.out).grown g11'.out (fun k hk => by cases hk; exact hgw)
                    · exact Lib.hid fun g' hg' => by
                        simp only [Value.ownBlock, Option.some.injEq] at hg'
                        omega
                    · have hmv11 : Mv w8 (g :: X) w11 (g :: X) := (hmv9'.out.ext hE10'.out).grown g11'.out (fun k hk => by cases hk; simp)
                      have hrs := row_shift (k := kEl) (e := 47) (w11 := w11) (X := X) (g := g) (cap := j + 1) (n := j) (j := j) (cur := cur) (fin := (fin1.toList.take (j * 11) ++ [d0, d1, d2, d3, d4, d5, d6, d7, d8, d9, d10] ++ fin1.toList.drop (j * 11 + 11)).toArray) (V := [d0, d1, d2, d3, d4, d5, d6, d7, d8, d9, d10]) (rows := rows) (us := us.map backE) (u := cleanEl e) hlm'.out (hall'.out.imp fun _ _ h => kEl.mv h hmv11) htkc'.out hj
                        (kEl.mv hq'.out ((Mv.refl w10 (g :: X)).grown g11'.out (fun k hk => by cases hk; simp))) hcz'.out hnc hcm'.out hgX h11'.out (by
                          show _ = (cur.toList.take (j * 11 + 11) ++ rows.flatten.drop (j * 11) ++ cur.toList.drop (j * 11 + 11 + (rows.flatten.drop (j * 11)).length)).take (j * 11) ++ [d0, d1, d2, d3, d4, d5, d6, d7, d8, d9, d10] ++ (cur.toList.take (j * 11 + 11) ++ rows.flatten.drop (j * 11) ++ cur.toList.drop (j * 11 + 11 + (rows.flatten.drop (j * 11)).length)).drop (j * 11 + 11)
                          rw [← hf9'.out])
                      rw [htk.out, esOf_snoc, hus'.out, hput.out, List.map_append, List.map_cons, List.map_take, List.map_drop, ← cleanEl_back]
                      exact hrs
                  case measure => simp [intOf]; omega
                · have b7 : ¬ cap = j + 1 := hcn
                  refine wp_region_script [0, 1, 2, 3, 4, 5, 6] [] (fun w' => Ext w8 w') [(.pure, 0), (.pure, 1), (.pure, 2), (.pure, 3), (.pure, 4), (.pure, 5), (.pure, 6), (.one, 7)] (by kernel_rfl) (by kernel_rfl) ?_
                  iterate 7 (apply scr_pure'; (· rfl); (· rfl); (· (intro w'; go_simp; try rfl)); (· (simp [go_sem]; try rfl)))
                  refine scr_one rfl rfl (fun K hK => ?_)
                  refine wp_copy0 _ _ _ _ rfl Tryz.underlying22 hsz11 (dp := some ⟨g, (j + 1) * 11, none⟩) (dCap := cap - (j + 1)) (sp := some ⟨g, j * 11, none⟩) (sCap := cap - j) (dLen := 0) (sLen := 1) (by go_simp; try rfl) (by go_simp; try rfl) (by simp) ?_
                  refine hK _ _ (fun h => by simp at h) ?_
                  clear hK
                  refine scr_end ?_
                  simp only [Exit.then]
                  obtain ⟨w9, hw9⟩ : ∃ w9, w8.drew = w9 := ⟨_, rfl⟩
                  have h9 : w9.heap[g]? = some (.cells cur 47 (0, 0)) := by rw [← hw9]; exact hgb'.out
                  have hE9 : Ext w w9 := by rw [← hw9]; exact hEw8'.out.drew
                  have hE89 : Ext w8 w9 := by rw [← hw9]; exact (Ext.refl w8).drew
                  have hmv9 : Mv w8 (g :: X) w9 (g :: X) := hE89.mv _
                  rw [hw9]
                  replace s0 := hE89.keep s0; replace s1 := hE89.keep s1; replace s2 := hE89.keep s2; replace s3 := hE89.keep s3; replace s4 := hE89.keep s4; replace s5 := hE89.keep s5; replace s6 := hE89.keep s6; replace s7 := hE89.keep s7; replace s8 := hE89.keep s8; replace s9 := hE89.keep s9; replace s10 := hE89.keep s10
                  clear hE89
                  obtain ⟨fin1, hfin1⟩ : ∃ f : Array Value, cur = f := ⟨_, rfl⟩
                  have hf9 : fin1.toList = cur.toList.take (j * 11 + 11) ++ rows.flatten.drop (j * 11) ++ cur.toList.drop (j * 11 + 11 + (rows.flatten.drop (j * 11)).length) := by
                    rw [← hfin1, List.drop_eq_nil_of_le (by rw [hrl'.out]; exact Nat.le_refl _)]
                    simp
                  rw [hfin1] at h9
                  clear hfin1 hw9
                  have hgl9 := (Array.getElem?_eq_some_iff.1 h9).1
                  have h9' := Lib.hid h9
                  have hf9' := Lib.hid hf9
                  have hE9' := Lib.hid hE9
                  have hmv9' := Lib.hid hmv9
                  clear h9 hf9 hE9 hmv9
                  go_wp2_with fail
                  refine cleanElem_c (X := g :: X) (cs := [c0, c1, c2, c3, c4, c5, c6, c7, c8, c9, c10]) (kEl.mv hcs'.out ((hE9'.out.mv X).more hgw)) (Old.cons hgl9 (hX'.out.le hE9'.out.size)) _ ?_
                  intro w10 qs hE10 hq
                  obtain ⟨d0, d1, d2, d3, d4, d5, d6, d7, d8, d9, d10, rfl⟩ := kEl_eleven hq
                  have hqone := Lib.hid (kEl.one hq)
                  have hq' := Lib.hid hq
                  have h10 := Lib.hid ((hE10.below.block g hgl9).trans h9'.out)
                  have hE10' := Lib.hid hE10
                  have hif : j * 11 + 11 ≤ fin1.size := by
                    have := congrArg List.length hf9'.out
                    rw [Array.length_toList] at this
                    simp only [List.length_append, List.length_take, List.length_drop, Array.length_toList, hcz'.out, hrl'.out] at this
                    have h1 := Nat.mul_le_mul_right 11 hj
                    have h2 := Nat.mul_le_mul_right 11 hnc
                    omega
                  have hif' := Lib.hid hif
                  clear hq hE10 hif s0 s1 s2 s3 s4 s5 s6 s7 s8 s9 s10
                  dsimp only
                  go_wp2_with (refine wpL_storeSeg (cells := #[d0, d1, d2, d3, d4, d5, d6, d7, d8, d9, d10]) (b := g) (off := j * 11) (old := fin1) (new := (fin1.toList.take (j * 11) ++ [d0, d1, d2, d3, d4, d5, d6, d7, d8, d9, d10] ++ fin1.toList.drop (j * 11 + 11)).toArray) rfl 47 _ _ rfl Tryz.size47 (by first | rfl | (go_simp; try rfl)) (by first | rfl | (go_simp; try rfl)) h10.out (by show j * 11 + 11 ≤ fin1.size; exact hif'.out) hqone.out rfl ?_; intro w11 h11 g11; have h11' := Lib.hid h11; have g11' := Lib.hid g11; clear h11 g11)
                  go_roundw
                  case rel =>
                    refine ⟨k + 1, by omega, by go_num, ?_, ?_, Lib.hid ?_⟩
                    · exact (hE9'.out.trans hE10'.out).grown g11'.out (fun k hk => by cases hk; exact hgw)
                    · exact Lib.hid fun g' hg' => by
                        simp only [Value.ownBlock, Option.some.injEq] at hg'
                        omega
                    · have hmv11 : Mv w8 (g :: X) w11 (g :: X) := (hmv9'.out.ext hE10'.out).grown g11'.out (fun k hk => by cases hk; simp)
                      have hrs := row_shift (k := kEl) (e := 47) (w11 := w11) (X := X) (g := g) (cap := cap) (n := j) (j := j) (cur := cur) (fin := (fin1.toList.take (j * 11) ++ [d0, d1, d2, d3, d4, d5, d6, d7, d8, d9, d10] ++ fin1.toList.drop (j * 11 + 11)).toArray) (V := [d0, d1, d2, d3, d4, d5, d6, d7, d8, d9, d10]) (rows := rows) (us := us.map backE) (u := cleanEl e) hlm'.out (hall'.out.imp fun _ _ h => kEl.mv h hmv11) htkc'.out hj
                        (kEl.mv hq'.out ((Mv.refl w10 (g :: X)).grown g11'.out (fun k hk => by cases hk; simp))) hcz'.out hnc hcm'.out hgX h11'.out (by
                          show _ = (cur.toList.take (j * 11 + 11) ++ rows.flatten.drop (j * 11) ++ cur.toList.drop (j * 11 + 11 + (rows.flatten.drop (j * 11)).length)).take (j * 11) ++ [d0, d1, d2, d3, d4, d5, d6, d7, d8, d9, d10] ++ (cur.toList.take (j * 11 + 11) ++ rows.flatten.drop (j * 11) ++ cur.toList.drop (j * 11 + 11 + (rows.flatten.drop (j * 11)).length)).drop (j * 11 + 11)
                          rw [← hf9'.out])
                      rw [htk.out, esOf_snoc, hus'.out, hput.out, List.map_append, List.map_cons, List.map_take, List.map_drop, ← cleanEl_back]
                      exact hrs
                  case measure => simp [intOf]; omega
              · have hlt9 : j < n := by omega
                have b7 : ¬ cap = j + 1 := by omega
                refine wp_region_script [0, 1, 2, 3, 4, 5, 6] [] (fun w' => Ext w8 w') [(.pure, 0), (.pure, 1), (.pure, 2), (.pure, 3), (.pure, 4), (.pure, 5), (.pure, 6), (.one, 7)] (by kernel_rfl) (by kernel_rfl) ?_
                iterate 7 (apply scr_pure'; (· rfl); (· rfl); (· (intro w'; go_simp; try rfl)); (· (simp [go_sem]; try rfl)))
                refine scr_one rfl rfl (fun K hK => ?_)
                have hgc : ∀ i y, rows.flatten[i]? = some y → w8.drew.cell? ⟨g, i, none⟩ = some y := fun i y hi => by
                  rw [cells_of (w := w8.drew) (b := g) hgb'.out]
                  rw [← htkc'.out, List.getElem?_take] at hi
                  split at hi
                  · simpa using hi
                  · cases hi
                have hml11 := Nat.mul_le_mul_right 11 hlt9
                have hmc11 := Nat.mul_le_mul_right 11 hnc
                refine wp_copyN _ _ _ _ rfl Tryz.underlying22 hsz11 (off := (j + 1) * 11) (dLen := n - j) (dCap := cap - (j + 1)) (ad := ⟨g, j * 11, none⟩) (sLen := n + 1 - j) (sCap := cap - j) (by go_simp; try rfl) (by go_simp; try rfl) (cur := cur) (t := 47) hgb'.out (rows.flatten.drop (j * 11)) (by rw [List.length_drop, hrl'.out, ← Nat.sub_mul]; congr 1; simp only [Nat.min_def]; split <;> omega)
                  (fun i y hi => by
                    have e1 : (⟨g, j * 11, none⟩ : Addr).add i = ⟨g, j * 11 + i, none⟩ := by unfold Addr.add; split <;> simp_all
                    rw [e1]
                    exact hgc _ _ (by rwa [List.getElem?_drop] at hi))
                  (by rw [List.length_drop, hrl'.out, hcz'.out]; omega) (fun y hy => Row.flat hall'.out y (List.mem_of_mem_drop hy)) ?_
                intro w9 h9 g9
                refine hK _ _ (fun h => by simp at h) ?_
                clear hK hgc hml11 hmc11
                refine scr_end ?_
                simp only [Exit.then]
                rw [show (j + 1) * 11 = j * 11 + 11 by omega] at h9
                obtain ⟨fin1, hfin1⟩ : ∃ f : Array Value, (cur.toList.take (j * 11 + 11) ++ rows.flatten.drop (j * 11) ++ cur.toList.drop (j * 11 + 11 + (rows.flatten.drop (j * 11)).length)).toArray = f := ⟨_, rfl⟩
                rw [hfin1] at h9
                have hf9 : fin1.toList = cur.toList.take (j * 11 + 11) ++ rows.flatten.drop (j * 11) ++ cur.toList.drop (j * 11 + 11 + (rows.flatten.drop (j * 11)).length) := by rw [← hfin1]
                have hE9 : Ext w w9 := hEw8'.out.drew.grown g9 (fun k hk => by cases hk; exact hgw)
                have hmv9 : Mv w8 (g :: X) w9 (g :: X) := ((Mv.refl w8 (g :: X)).ext (Ext.refl w8).drew).grown g9 (fun k hk => by cases hk; simp)
                have hE8d : Ext w8 w8.drew := (Ext.refl w8).drew
                replace s0 := hE8d.keep s0; replace s1 := hE8d.keep s1; replace s2 := hE8d.keep s2; replace s3 := hE8d.keep s3; replace s4 := hE8d.keep s4; replace s5 := hE8d.keep s5; replace s6 := hE8d.keep s6; replace s7 := hE8d.keep s7; replace s8 := hE8d.keep s8; replace s9 := hE8d.keep s9; replace s10 := hE8d.keep s10
                replace s0 := grown_keep g9 s0 hbx; replace s1 := grown_keep g9 s1 hbx; replace s2 := grown_keep g9 s2 hbx; replace s3 := grown_keep g9 s3 hbx; replace s4 := grown_keep g9 s4 hbx; replace s5 := grown_keep g9 s5 hbx; replace s6 := grown_keep g9 s6 hbx; replace s7 := grown_keep g9 s7 hbx; replace s8 := grown_keep g9 s8 hbx; replace s9 := grown_keep g9 s9 hbx; replace s10 := grown_keep g9 s10 hbx
                clear hfin1 g9 hE8d
                have hgl9 := (Array.getElem?_eq_some_iff.1 h9).1
                have h9' := Lib.hid h9
                have hf9' := Lib.hid hf9
                have hE9' := Lib.hid hE9
                have hmv9' := Lib.hid hmv9
                clear h9 hf9 hE9 hmv9
                go_wp2_with fail
                refine cleanElem_c (X := g :: X) (cs := [c0, c1, c2, c3, c4, c5, c6, c7, c8, c9, c10]) (kEl.mv hcs'.out ((hE9'.out.mv X).more hgw)) (Old.cons hgl9 (hX'.out.le hE9'.out.size)) _ ?_
                intro w10 qs hE10 hq
                obtain ⟨d0, d1, d2, d3, d4, d5, d6, d7, d8, d9, d10, rfl⟩ := kEl_eleven hq
                have hqone := Lib.hid (kEl.one hq)
                have hq' := Lib.hid hq
                have h10 := Lib.hid ((hE10.below.block g hgl9).trans h9'.out)
                have hE10' := Lib.hid hE10
                have hif : j * 11 + 11 ≤ fin1.size := by
                  have := congrArg List.length hf9'.out
                  rw [Array.length_toList] at this
                  simp only [List.length_append, List.length_take, List.length_drop, Array.length_toList, hcz'.out, hrl'.out] at this
                  have h1 := Nat.mul_le_mul_right 11 hj
                  have h2 := Nat.mul_le_mul_right 11 hnc
                  omega
                have hif' := Lib.hid hif
                clear hq hE10 hif s0 s1 s2 s3 s4 s5 s6 s7 s8 s9 s10
                dsimp only
                go_wp2_with (refine wpL_storeSeg (cells := #[d0, d1, d2, d3, d4, d5, d6, d7, d8, d9, d10]) (b := g) (off := j * 11) (old := fin1) (new := (fin1.toList.take (j * 11) ++ [d0, d1, d2, d3, d4, d5, d6, d7, d8, d9, d10] ++ fin1.toList.drop (j * 11 + 11)).toArray) rfl 47 _ _ rfl Tryz.size47 (by first | rfl | (go_simp; try rfl)) (by first | rfl | (go_simp; try rfl)) h10.out (by show j * 11 + 11 ≤ fin1.size; exact hif'.out) hqone.out rfl ?_; intro w11 h11 g11; have h11' := Lib.hid h11; have g11' := Lib.hid g11; clear h11 g11)
                go_roundw
                case rel =>
                  refine ⟨k + 1, by omega, by go_num, ?_, ?_, Lib.hid ?_⟩
                  · exact (hE9'.out.trans hE10'.out).grown g11'.out (fun k hk => by cases hk; exact hgw)
                  · exact Lib.hid fun g' hg' => by
                      simp only [Value.ownBlock, Option.some.injEq] at hg'
                      omega
                  · have hmv11 : Mv w8 (g :: X) w11 (g :: X) := (hmv9'.out.ext hE10'.out).grown g11'.out (fun k hk => by cases hk; simp)
                    have hrs := row_shift (k := kEl) (e := 47) (w11 := w11) (X := X) (g := g) (cap := cap) (n := n) (j := j) (cur := cur) (fin := (fin1.toList.take (j * 11) ++ [d0, d1, d2, d3, d4, d5, d6, d7, d8, d9, d10] ++ fin1.toList.drop (j * 11 + 11)).toArray) (V := [d0, d1, d2, d3, d4, d5, d6, d7, d8, d9, d10]) (rows := rows) (us := us.map backE) (u := cleanEl e) hlm'.out (hall'.out.imp fun _ _ h => kEl.mv h hmv11) htkc'.out hj
                      (kEl.mv hq'.out ((Mv.refl w10 (g :: X)).grown g11'.out (fun k hk => by cases hk; simp))) hcz'.out hnc hcm'.out hgX h11'.out (by
                        show _ = (cur.toList.take (j * 11 + 11) ++ rows.flatten.drop (j * 11) ++ cur.toList.drop (j * 11 + 11 + (rows.flatten.drop (j * 11)).length)).take (j * 11) ++ [d0, d1, d2, d3, d4, d5, d6, d7, d8, d9, d10] ++ (cur.toList.take (j * 11 + 11) ++ rows.flatten.drop (j * 11) ++ cur.toList.drop (j * 11 + 11 + (rows.flatten.drop (j * 11)).length)).drop (j * 11 + 11)
                        rw [← hf9'.out])
                    rw [htk.out, esOf_snoc, hus'.out, hput.out, List.map_append, List.map_cons, List.map_take, List.map_drop, ← cleanEl_back]
                    exact hrs
                case measure => simp [intOf]; omega
    · have ek : k = l.length := by omega
      subst ek
      have hi1 : ¬ (l.length : Int) < (l.length : Int) := by omega
      have hfin := hrow.out.isSl (bytes := 168) (by
        have := (esOf_facts hT (l := (l.take l.length).map toE) (fun x hx => by
          obtain ⟨e, he, rfl⟩ := List.mem_map.1 hx
          exact hG'.out e (List.mem_of_mem_take he))).2.2
        rw [List.length_map, List.length_take] at this
        rw [List.length_map]
        have := hbytes'.out
        omega)
      rw [List.take_of_length_le (Nat.le_refl _)] at hfin
      have hfin' := Lib.hid hfin
      clear hfin hrow
      go_wp2_with fail
      exact hR'.out wr _ hEr hfin'.out
end Go.Proofs.YtihapgangilncaaGreat
