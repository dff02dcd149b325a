/- impl.Resolve of a reference by name (printed by gen_resolve.py). -/
import Derived.Test.YtmihdlbcjiaibaaNamedE
namespace Go.Proofs.Ytmihdlbcjiaibaa
open Go.RowKit

set_option maxRecDepth 100000 in
set_option maxHeartbeats 8000000 in
set_option pp.maxSteps 1000000 in
set_option pp.deepTerms true in
theorem implResolve_c {d : Nat} {w : World} {X : List Nat} {vs : Value} {ts : List (TdOf A)} {name : ByteArray} (hs : IsSl (kTd (kA (d + 1))) 80 w X vs ts) (hX : Old X w) (hnm : name.size ≤ 140737488351232) (R : Ending → World → Prop)
    (hR1 : ∀ w' c1 c2 c3 u, lastTd name ts = some u → Ext w w' → (kA (d + 1)).is w' X [c1, c2, c3] (frA (d + 1) (toA (d + 1) u.atom)) → R (.returned (.tuple #[.agg #[c1, c2, c3], .bool true])) w')
    (hR0 : lastTd name ts = none → ∀ w' r0 r1 r2, r0.oneCell' = true → r1.oneCell' = true → r2.oneCell' = true → Ext w w' → R (.returned (.tuple #[.agg #[r0, r1, r2], .bool false])) w') :
    Calls Try.prog 27 #[.agg #[vs], .agg #[.bool true, .string name, .string ⟨#[]⟩, .slice none 0 0, .slice none 0 0, .string ⟨#[]⟩]] w R := by
  have hkr : ∀ w X, (kRf (kA (d + 1))).is w X [.bool true, .string name, .string ⟨#[]⟩, .slice none 0 0, .slice none 0 0, .string ⟨#[]⟩] ⟨true, name, .mk ⟨#[]⟩ [] [], ⟨#[]⟩⟩ := fun w X => ⟨[.string ⟨#[]⟩, .slice none 0 0, .slice none 0 0], rfl, ⟨_, _, rfl, Nat.zero_le _, IsSl.nil _ _ _ _, IsSl.nil _ _ _ _⟩, hnm, Nat.zero_le _⟩
  have hvo := hs.one
  have hs' := Lib.hid hs
  have hR1' := Lib.hid hR1
  have hR0' := Lib.hid hR0
  have hX' := Lib.hid hX
  clear hR1 hR0 hX hs
  go_enter Try.func27, Try.ntmps27
  go_wp2_with fail
  refine abs3 (G := Code.wp _ _ _ _) ?_
  intro w1 hE1 hb1 hb2 hz hs1
  have c0 : w1.cell? ⟨w.heap.size, 0, none⟩ = some vs := cells_of hb1 0
  have b0 : w1.cell? ⟨w.heap.size + 1, 0, none⟩ = some (.bool true) := cells_of hb2 0
  have b1 : w1.cell? ⟨w.heap.size + 1, 1, none⟩ = some (.string name) := cells_of hb2 1
  have b2 : w1.cell? ⟨w.heap.size + 1, 2, none⟩ = some (.string ⟨#[]⟩) := cells_of hb2 2
  have b3 : w1.cell? ⟨w.heap.size + 1, 3, none⟩ = some (.slice none 0 0) := cells_of hb2 3
  have b4 : w1.cell? ⟨w.heap.size + 1, 4, none⟩ = some (.slice none 0 0) := cells_of hb2 4
  have b5 : w1.cell? ⟨w.heap.size + 1, 5, none⟩ = some (.string ⟨#[]⟩) := cells_of hb2 5
  have hsz : w.heap.size + 3 ≤ w1.heap.size := by omega
  have hz' := Lib.hid hz
  have hM1 : Mv w X w1.drew ((w.heap.size + 2) :: X) := (hE1.drew.mv X).more (n := w.heap.size + 2) (by omega)
  have hO1 : Old ((w.heap.size + 2) :: X) w1.drew := .cons (by show _ < w1.heap.size; omega) (hX'.out.le hE1.drew.size)
  clear hb1 hb2 hz hs1
  refine wp_region_tree [0, 2, 5, 6, 7, 10] [1, 8] (fun w' => Ext w1 w') (.read 0 (.read 2 (.two 1 8 (.two 3 8 (.two 4 8 (.pure 5 (.pure 6 (.pure 7 (.one 8 (.one 9 (.pure 10 .nil)))))) (.one 4 (.pure 5 (.pure 6 (.pure 7 (.one 9 (.pure 10 .nil))))))) (.one 3 (.one 4 (.pure 5 (.pure 6 (.pure 7 (.one 9 (.pure 10 .nil)))))))) (.one 1 (.one 3 (.one 4 (.pure 5 (.pure 6 (.pure 7 (.one 9 (.pure 10 .nil))))))))))) (by kernel_rfl) (by kernel_rfl) ?_
  (apply tr_read; (· rfl); (· rfl); (· first | exact hC | exact (Ext.refl _).drew); (· (intro w' hw'; have c0_ := hw'.keep c0; go_simp; try rfl)); (· (simp [go_sem]; try rfl)))
  (apply tr_read; (· rfl); (· rfl); (· first | exact hC | exact (Ext.refl _).drew); (· (intro w' hw'; have b0_ := hw'.keep b0; have b1_ := hw'.keep b1; have b2_ := hw'.keep b2; have b3_ := hw'.keep b3; have b4_ := hw'.keep b4; have b5_ := hw'.keep b5; go_simp; try rfl)); (· (simp [go_sem]; try rfl)))
  have hM := hM1
  have hO := hO1
  have hC := (Ext.refl w1).drew
  refine tr_two ?_ ?_
  · refine tr_one rfl rfl (fun K hK => ?_)
    go_simp
    refine toSchema_c (d := d + 1) (X := ((w.heap.size + 2) :: X)) (ts := ts) (hs'.out.mv hM (by simp [kTd])) hO _ ?_
    intro wS B v hE4 hB1 hB2 hsl0
    have hsl := hsl0.mv ((Mv.refl wS (B :: ((w.heap.size + 2) :: X))).less (Z := ((w.heap.size + 2) :: X)) (fun b hb => by simp at hb ⊢; simp [hb])) (by simp [kTd])
    clear hsl0
    replace hC := hC.trans hE4
    replace hM := hM.trans (hE4.mv _)
    replace hO := hO.le hE4.size
    refine hK _ _ (fun _ => hC) ?_
    clear hK
    refine tr_two ?_ ?_
    · refine tr_one rfl rfl (fun K hK => ?_)
      go_simp
      refine toRef_c (toAtom_c (d + 1)) (X := ((w.heap.size + 2) :: X)) (cs := [.bool true, .string name, .string ⟨#[]⟩, .slice none 0 0, .slice none 0 0, .string ⟨#[]⟩]) (hkr _ _) hO _ ?_
      intro wR cs hE5 hcs
      obtain ⟨pn, ac, pr, rfl, hpn, hac, hpr⟩ := hcs
      obtain ⟨p1, p2, p3, rfl, o1, o2, o3⟩ := ksA_three hac
      replace hpn : IsP kS wR ((w.heap.size + 2) :: X) pn (some name) := hpn
      obtain rfl : pr = .pointer none := by simpa [toRf, IsP] using hpr
      obtain ⟨nb, noff, rfl, -, -, nc, -⟩ := hpn.str
      clear hac hpr hpn
      replace hsl := hsl.mv (hE5.mv _) (by simp [kTd])
      replace hB2 := (hE5.below.block _ (Array.getElem?_eq_some_iff.1 hB2).1).trans hB2
      replace hC := hC.trans hE5
      replace hM := hM.trans (hE5.mv _)
      replace hO := hO.le hE5.size
      refine hK _ _ (fun h => by simp at h) ?_
      clear hK
      refine tr_two ?_ ?_
      · refine tr_one rfl rfl (fun K hK => ?_)
        go_simp
        refine resolve_c (d := d + 1) (X := ((w.heap.size + 2) :: X)) (us := ts.map (toTd (toA (d + 1)))) (name := name) hB2 hsl hO nc _ ?_ ?_
        · intro wQ c1 c2 c3 u hu hE6 hy
          rw [lastTd_map] at hu
          obtain ⟨t, ht, rfl⟩ := Option.map_eq_some_iff.1 hu
          obtain ⟨a1, a2, a3, he, u1, u2, u3⟩ := ksA_three hy
          obtain ⟨rfl, rfl, rfl⟩ : c1 = a1 ∧ c2 = a2 ∧ c3 = a3 := by simpa using he
          clear he hu
          replace hC := hC.trans hE6
          replace hM := hM.trans (hE6.mv _)
          replace hO := hO.le hE6.size
          refine hK _ _ (fun h => by simp at h) ?_
          clear hK
          iterate 3 (apply tr_pure; (· rfl); (· rfl); (· (intro w'; go_simp; try rfl)); (· (simp [go_sem]; try rfl)))
          refine tr_one rfl rfl (fun K hK => ?_)
          go_simp
          refine hK _ _ (fun _ => hC.push _) ?_
          clear hK
          change trP _ _ _ _ _ _ _ (World.alloc wQ (.cells #[.pointer none, .pointer none, .pointer none] 101 (0, 0)))
          refine abs1 (G := trP _ _ _ _ _ _ _) ?_
          intro wa hEa hb6 hsa
          have hdr : wQ.heap.size = wQ.heap.size := rfl
          have hge : w.heap.size + 3 ≤ wQ.heap.size := by have := hC.size; omega
          have hlt6 : wQ.heap.size < wa.heap.size := by omega
          replace hb6 : wa.heap[wQ.heap.size]? = some (.cells #[.pointer none, .pointer none, .pointer none] 101 (0, 0)) := hb6
          clear hsa hdr
          generalize hb6e : wQ.heap.size = b6 at hb6 hge hlt6 ⊢
          replace hM := (hM.trans (hEa.mv _)).more (n := b6) (by omega)
          replace hO := Old.cons hlt6 (hO.le hEa.size)
          replace hC := hC.trans hEa
          replace hy := (ksA (d + 1)).mv hy ((hEa.mv _).more (n := b6) (Nat.le_of_eq hb6e))
          clear hb6e hEa
          refine tr_one rfl rfl (fun K hK => ?_)
          refine wp_storeRow (cells := #[c1, c2, c3]) 101 _ _ rfl Try.size101 (by go_simp) (by go_simp) hb6 rfl (by simp [u1, u2, u3]) ?_
          intro w7 h7 g7
          refine hK _ _ (fun h => by simp at h) ?_
          clear hK
          (apply tr_pure; (· rfl); (· rfl); (· (intro w'; go_simp; try rfl)); (· (simp [go_sem]; try rfl)))
          refine tr_end ?_
          simp only [Exit.then]
          have f0 : w7.cell? ⟨b6, 0, none⟩ = some (c1) := cells_of h7 0
          have f1 : w7.cell? ⟨b6, 1, none⟩ = some (c2) := cells_of h7 1
          have f2 : w7.cell? ⟨b6, 2, none⟩ = some (c3) := cells_of h7 2
          have hE7 : Ext w w7 := (hE1.trans hC).grown g7 (fun k hk => by cases hk; omega)
          have z1 := (g7.block _ (by have := hC.size; omega) (by simp; omega)).trans ((hC.below.block _ (by omega)).trans hz'.out)
          have hX7 : Old ((w.heap.size + 2) :: X) w7 := fun b hb => Nat.lt_of_lt_of_le (hO b (List.mem_cons_of_mem _ hb)) g7.size
          go_wp2_with fail
          refine fromAtom_c (d + 1) _ ((w.heap.size + 2) :: X) [c1, c2, c3] (toTd (toA (d + 1)) t).atom ((ksA (d + 1)).mv hy (((Mv.refl _ _).grown g7 (by intro k hk; cases hk; simp)).less fun b hb => List.mem_cons_of_mem _ hb)) hX7 _ ?_
          intro w8 cs6 hE8 hcs6
          obtain ⟨r0, r1, r2, rfl, v0, v1, v2⟩ := kA_three hcs6
          have hcs6' := Lib.hid hcs6
          clear hcs6
          have hEE := hE7.trans hE8
          replace z1 := (hE8.below.block _ (by have := hC.size; have := g7.size; omega)).trans z1
          dsimp only
          go_wp2_with (refine wpL_storeRow (cells := #[r0, r1, r2]) rfl 42 _ _ rfl Try.size42 rfl rfl z1 rfl (by simp [v0, v1, v2]) ?_; intro w9 h9 g9)
          go_simp
          have z5 : w9.cell? ⟨w.heap.size + 2, 0, none⟩ = some r0 := cells_of h9 0
          have z6 : w9.cell? ⟨w.heap.size + 2, 1, none⟩ = some r1 := cells_of h9 1
          have z7 : w9.cell? ⟨w.heap.size + 2, 2, none⟩ = some r2 := cells_of h9 2
          refine bodyPost_ret (by simp [results, Try.results27, go_sem, z5, z6, z7]; try rfl) rfl ?_
          have hm9 := ((Mv.refl w8 ((w.heap.size + 2) :: X)).grown g9 (by intro k hk; cases hk; simp))
          exact hR1'.out w9 r0 r1 r2 t ht (hEE.grown g9 (fun k hk => by cases hk; omega)) ((kA (d + 1)).mv hcs6'.out (hm9.less fun b hb => List.mem_cons_of_mem _ hb))
        · intro hno wQ hE6
          rw [lastTd_map, Option.map_eq_none_iff] at hno
          replace hC := hC.trans hE6
          replace hM := hM.trans (hE6.mv _)
          replace hO := hO.le hE6.size
          refine hK _ _ (fun h => by simp at h) ?_
          clear hK
          iterate 3 (apply tr_pure; (· rfl); (· rfl); (· (intro w'; go_simp; try rfl)); (· (simp [go_sem]; try rfl)))
          refine tr_one rfl rfl (fun K hK => ?_)
          go_simp
          refine hK _ _ (fun _ => hC.push _) ?_
          clear hK
          change trP _ _ _ _ _ _ _ (World.alloc wQ (.cells #[.pointer none, .pointer none, .pointer none] 101 (0, 0)))
          refine abs1 (G := trP _ _ _ _ _ _ _) ?_
          intro wa hEa hb6 hsa
          have hdr : wQ.heap.size = wQ.heap.size := rfl
          have hge : w.heap.size + 3 ≤ wQ.heap.size := by have := hC.size; omega
          have hlt6 : wQ.heap.size < wa.heap.size := by omega
          replace hb6 : wa.heap[wQ.heap.size]? = some (.cells #[.pointer none, .pointer none, .pointer none] 101 (0, 0)) := hb6
          clear hsa hdr
          generalize hb6e : wQ.heap.size = b6 at hb6 hge hlt6 ⊢
          replace hM := (hM.trans (hEa.mv _)).more (n := b6) (by omega)
          replace hO := Old.cons hlt6 (hO.le hEa.size)
          replace hC := hC.trans hEa
          clear hb6e hEa
          refine tr_one rfl rfl (fun K hK => ?_)
          refine wp_storeRow (cells := #[.pointer none, .pointer none, .pointer none]) 101 _ _ rfl Try.size101 (by go_simp) (by go_simp) hb6 rfl (by simp; rfl) ?_
          intro w7 h7 g7
          refine hK _ _ (fun h => by simp at h) ?_
          clear hK
          (apply tr_pure; (· rfl); (· rfl); (· (intro w'; go_simp; try rfl)); (· (simp [go_sem]; try rfl)))
          refine tr_end ?_
          simp only [Exit.then]
          have f0 : w7.cell? ⟨b6, 0, none⟩ = some (.pointer none) := cells_of h7 0
          have f1 : w7.cell? ⟨b6, 1, none⟩ = some (.pointer none) := cells_of h7 1
          have f2 : w7.cell? ⟨b6, 2, none⟩ = some (.pointer none) := cells_of h7 2
          have hE7 : Ext w w7 := (hE1.trans hC).grown g7 (fun k hk => by cases hk; omega)
          have z1 := (g7.block _ (by have := hC.size; omega) (by simp; omega)).trans ((hC.below.block _ (by omega)).trans hz'.out)
          have hX7 : Old ((w.heap.size + 2) :: X) w7 := fun b hb => Nat.lt_of_lt_of_le (hO b (List.mem_cons_of_mem _ hb)) g7.size
          go_wp2_with fail
          refine fromAtom_c (d + 1) _ ((w.heap.size + 2) :: X) [.pointer none, .pointer none, .pointer none] (.mk none none none) ⟨_, _, _, rfl, rfl, rfl, rfl⟩ hX7 _ ?_
          intro w8 cs6 hE8 hcs6
          obtain ⟨r0, r1, r2, rfl, v0, v1, v2⟩ := kA_three hcs6
          have hcs6' := Lib.hid hcs6
          clear hcs6
          have hEE := hE7.trans hE8
          replace z1 := (hE8.below.block _ (by have := hC.size; have := g7.size; omega)).trans z1
          dsimp only
          go_wp2_with (refine wpL_storeRow (cells := #[r0, r1, r2]) rfl 42 _ _ rfl Try.size42 rfl rfl z1 rfl (by simp [v0, v1, v2]) ?_; intro w9 h9 g9)
          go_simp
          have z5 : w9.cell? ⟨w.heap.size + 2, 0, none⟩ = some r0 := cells_of h9 0
          have z6 : w9.cell? ⟨w.heap.size + 2, 1, none⟩ = some r1 := cells_of h9 1
          have z7 : w9.cell? ⟨w.heap.size + 2, 2, none⟩ = some r2 := cells_of h9 2
          refine bodyPost_ret (by simp [results, Try.results27, go_sem, z5, z6, z7]; try rfl) rfl ?_
          exact hR0'.out hno w9 r0 r1 r2 v0 v1 v2 (hEE.grown g9 (fun k hk => by cases hk; omega))
      · refine tr_one rfl rfl (fun K hK => ?_)
        go_simp
        refine hK _ _ (fun _ => hC.push _) ?_
        clear hK
        change trP _ _ _ _ _ _ _ (World.alloc wR (.cells #[.pointer none, .pointer none, .pointer none] 101 (0, 0)))
        refine abs1 (G := trP _ _ _ _ _ _ _) ?_
        intro wa hEa hb6 hsa
        have hdr : wR.heap.size = wR.heap.size := rfl
        have hge : w.heap.size + 3 ≤ wR.heap.size := by have := hC.size; omega
        have hlt6 : wR.heap.size < wa.heap.size := by omega
        replace hb6 : wa.heap[wR.heap.size]? = some (.cells #[.pointer none, .pointer none, .pointer none] 101 (0, 0)) := hb6
        clear hsa hdr
        generalize hb6e : wR.heap.size = b6 at hb6 hge hlt6 ⊢
        replace hM := (hM.trans (hEa.mv _)).more (n := b6) (by omega)
        replace hO := Old.cons hlt6 (hO.le hEa.size)
        replace hC := hC.trans hEa
        replace hsl := hsl.mv ((hEa.mv _).more (n := b6) (Nat.le_of_eq hb6e)) (by simp [kTd])
        replace hB2 := (hEa.below.block _ (Array.getElem?_eq_some_iff.1 hB2).1).trans hB2
        replace nc := hEa.keep nc
        clear hb6e hEa
        refine tr_one rfl rfl (fun K hK => ?_)
        go_simp
        refine resolve_c (d := d + 1) (X := (b6 :: (w.heap.size + 2) :: X)) (us := ts.map (toTd (toA (d + 1)))) (name := name) hB2 hsl hO nc _ ?_ ?_
        · intro wQ c1 c2 c3 u hu hE6 hy
          rw [lastTd_map] at hu
          obtain ⟨t, ht, rfl⟩ := Option.map_eq_some_iff.1 hu
          obtain ⟨a1, a2, a3, he, u1, u2, u3⟩ := ksA_three hy
          obtain ⟨rfl, rfl, rfl⟩ : c1 = a1 ∧ c2 = a2 ∧ c3 = a3 := by simpa using he
          clear he hu
          replace hC := hC.trans hE6
          replace hM := hM.trans (hE6.mv _)
          replace hO := hO.le hE6.size
          replace hb6 := (hE6.below.block _ hlt6).trans hb6
          replace hlt6 := Nat.lt_of_lt_of_le hlt6 hE6.size
          refine hK _ _ (fun h => by simp at h) ?_
          clear hK
          iterate 3 (apply tr_pure; (· rfl); (· rfl); (· (intro w'; go_simp; try rfl)); (· (simp [go_sem]; try rfl)))
          refine tr_one rfl rfl (fun K hK => ?_)
          refine wp_storeRow (cells := #[c1, c2, c3]) 101 _ _ rfl Try.size101 (by go_simp) (by go_simp) hb6 rfl (by simp [u1, u2, u3]) ?_
          intro w7 h7 g7
          refine hK _ _ (fun h => by simp at h) ?_
          clear hK
          (apply tr_pure; (· rfl); (· rfl); (· (intro w'; go_simp; try rfl)); (· (simp [go_sem]; try rfl)))
          refine tr_end ?_
          simp only [Exit.then]
          have f0 : w7.cell? ⟨b6, 0, none⟩ = some (c1) := cells_of h7 0
          have f1 : w7.cell? ⟨b6, 1, none⟩ = some (c2) := cells_of h7 1
          have f2 : w7.cell? ⟨b6, 2, none⟩ = some (c3) := cells_of h7 2
          have hE7 : Ext w w7 := (hE1.trans hC).grown g7 (fun k hk => by cases hk; omega)
          have z1 := (g7.block _ (by have := hC.size; omega) (by simp; omega)).trans ((hC.below.block _ (by omega)).trans hz'.out)
          have hX7 : Old ((w.heap.size + 2) :: X) w7 := fun b hb => Nat.lt_of_lt_of_le (hO b (List.mem_cons_of_mem _ hb)) g7.size
          go_wp2_with fail
          refine fromAtom_c (d + 1) _ ((w.heap.size + 2) :: X) [c1, c2, c3] (toTd (toA (d + 1)) t).atom ((ksA (d + 1)).mv hy (((Mv.refl _ _).grown g7 (by intro k hk; cases hk; simp)).less fun b hb => List.mem_cons_of_mem _ hb)) hX7 _ ?_
          intro w8 cs6 hE8 hcs6
          obtain ⟨r0, r1, r2, rfl, v0, v1, v2⟩ := kA_three hcs6
          have hcs6' := Lib.hid hcs6
          clear hcs6
          have hEE := hE7.trans hE8
          replace z1 := (hE8.below.block _ (by have := hC.size; have := g7.size; omega)).trans z1
          dsimp only
          go_wp2_with (refine wpL_storeRow (cells := #[r0, r1, r2]) rfl 42 _ _ rfl Try.size42 rfl rfl z1 rfl (by simp [v0, v1, v2]) ?_; intro w9 h9 g9)
          go_simp
          have z5 : w9.cell? ⟨w.heap.size + 2, 0, none⟩ = some r0 := cells_of h9 0
          have z6 : w9.cell? ⟨w.heap.size + 2, 1, none⟩ = some r1 := cells_of h9 1
          have z7 : w9.cell? ⟨w.heap.size + 2, 2, none⟩ = some r2 := cells_of h9 2
          refine bodyPost_ret (by simp [results, Try.results27, go_sem, z5, z6, z7]; try rfl) rfl ?_
          have hm9 := ((Mv.refl w8 ((w.heap.size + 2) :: X)).grown g9 (by intro k hk; cases hk; simp))
          exact hR1'.out w9 r0 r1 r2 t ht (hEE.grown g9 (fun k hk => by cases hk; omega)) ((kA (d + 1)).mv hcs6'.out (hm9.less fun b hb => List.mem_cons_of_mem _ hb))
        · intro hno wQ hE6
          rw [lastTd_map, Option.map_eq_none_iff] at hno
          replace hC := hC.trans hE6
          replace hM := hM.trans (hE6.mv _)
          replace hO := hO.le hE6.size
          replace hb6 := (hE6.below.block _ hlt6).trans hb6
          replace hlt6 := Nat.lt_of_lt_of_le hlt6 hE6.size
          refine hK _ _ (fun h => by simp at h) ?_
          clear hK
          iterate 3 (apply tr_pure; (· rfl); (· rfl); (· (intro w'; go_simp; try rfl)); (· (simp [go_sem]; try rfl)))
          refine tr_one rfl rfl (fun K hK => ?_)
          refine wp_storeRow (cells := #[.pointer none, .pointer none, .pointer none]) 101 _ _ rfl Try.size101 (by go_simp) (by go_simp) hb6 rfl (by simp; rfl) ?_
          intro w7 h7 g7
          refine hK _ _ (fun h => by simp at h) ?_
          clear hK
          (apply tr_pure; (· rfl); (· rfl); (· (intro w'; go_simp; try rfl)); (· (simp [go_sem]; try rfl)))
          refine tr_end ?_
          simp only [Exit.then]
          have f0 : w7.cell? ⟨b6, 0, none⟩ = some (.pointer none) := cells_of h7 0
          have f1 : w7.cell? ⟨b6, 1, none⟩ = some (.pointer none) := cells_of h7 1
          have f2 : w7.cell? ⟨b6, 2, none⟩ = some (.pointer none) := cells_of h7 2
          have hE7 : Ext w w7 := (hE1.trans hC).grown g7 (fun k hk => by cases hk; omega)
          have z1 := (g7.block _ (by have := hC.size; omega) (by simp; omega)).trans ((hC.below.block _ (by omega)).trans hz'.out)
          have hX7 : Old ((w.heap.size + 2) :: X) w7 := fun b hb => Nat.lt_of_lt_of_le (hO b (List.mem_cons_of_mem _ hb)) g7.size
          go_wp2_with fail
          refine fromAtom_c (d + 1) _ ((w.heap.size + 2) :: X) [.pointer none, .pointer none, .pointer none] (.mk none none none) ⟨_, _, _, rfl, rfl, rfl, rfl⟩ hX7 _ ?_
          intro w8 cs6 hE8 hcs6
          obtain ⟨r0, r1, r2, rfl, v0, v1, v2⟩ := kA_three hcs6
          have hcs6' := Lib.hid hcs6
          clear hcs6
          have hEE := hE7.trans hE8
          replace z1 := (hE8.below.block _ (by have := hC.size; have := g7.size; omega)).trans z1
          dsimp only
          go_wp2_with (refine wpL_storeRow (cells := #[r0, r1, r2]) rfl 42 _ _ rfl Try.size42 rfl rfl z1 rfl (by simp [v0, v1, v2]) ?_; intro w9 h9 g9)
          go_simp
          have z5 : w9.cell? ⟨w.heap.size + 2, 0, none⟩ = some r0 := cells_of h9 0
          have z6 : w9.cell? ⟨w.heap.size + 2, 1, none⟩ = some r1 := cells_of h9 1
          have z7 : w9.cell? ⟨w.heap.size + 2, 2, none⟩ = some r2 := cells_of h9 2
          refine bodyPost_ret (by simp [results, Try.results27, go_sem, z5, z6, z7]; try rfl) rfl ?_
          exact hR0'.out hno w9 r0 r1 r2 v0 v1 v2 (hEE.grown g9 (fun k hk => by cases hk; omega))
    · refine tr_one rfl rfl (fun K hK => ?_)
      go_simp
      refine hK _ _ (fun _ => hC.push _) ?_
      clear hK
      change trP _ _ _ _ _ _ _ (World.alloc wS (.cells #[.pointer none, .pointer none, .pointer none] 101 (0, 0)))
      refine abs1 (G := trP _ _ _ _ _ _ _) ?_
      intro wa hEa hb6 hsa
      have hdr : wS.heap.size = wS.heap.size := rfl
      have hge : w.heap.size + 3 ≤ wS.heap.size := by have := hC.size; omega
      have hlt6 : wS.heap.size < wa.heap.size := by omega
      replace hb6 : wa.heap[wS.heap.size]? = some (.cells #[.pointer none, .pointer none, .pointer none] 101 (0, 0)) := hb6
      clear hsa hdr
      generalize hb6e : wS.heap.size = b6 at hb6 hge hlt6 ⊢
      replace hM := (hM.trans (hEa.mv _)).more (n := b6) (by omega)
      replace hO := Old.cons hlt6 (hO.le hEa.size)
      replace hC := hC.trans hEa
      replace hsl := hsl.mv ((hEa.mv _).more (n := b6) (Nat.le_of_eq hb6e)) (by simp [kTd])
      replace hB2 := (hEa.below.block _ (Array.getElem?_eq_some_iff.1 hB2).1).trans hB2
      clear hb6e hEa
      refine tr_one rfl rfl (fun K hK => ?_)
      go_simp
      refine toRef_c (toAtom_c (d + 1)) (X := (b6 :: (w.heap.size + 2) :: X)) (cs := [.bool true, .string name, .string ⟨#[]⟩, .slice none 0 0, .slice none 0 0, .string ⟨#[]⟩]) (hkr _ _) hO _ ?_
      intro wR cs hE5 hcs
      obtain ⟨pn, ac, pr, rfl, hpn, hac, hpr⟩ := hcs
      obtain ⟨p1, p2, p3, rfl, o1, o2, o3⟩ := ksA_three hac
      replace hpn : IsP kS wR (b6 :: (w.heap.size + 2) :: X) pn (some name) := hpn
      obtain rfl : pr = .pointer none := by simpa [toRf, IsP] using hpr
      obtain ⟨nb, noff, rfl, -, -, nc, -⟩ := hpn.str
      clear hac hpr hpn
      replace hsl := hsl.mv (hE5.mv _) (by simp [kTd])
      replace hB2 := (hE5.below.block _ (Array.getElem?_eq_some_iff.1 hB2).1).trans hB2
      replace hC := hC.trans hE5
      replace hM := hM.trans (hE5.mv _)
      replace hO := hO.le hE5.size
      replace hb6 := (hE5.below.block _ hlt6).trans hb6
      replace hlt6 := Nat.lt_of_lt_of_le hlt6 hE5.size
      refine hK _ _ (fun h => by simp at h) ?_
      clear hK
      refine tr_one rfl rfl (fun K hK => ?_)
      go_simp
      refine resolve_c (d := d + 1) (X := (b6 :: (w.heap.size + 2) :: X)) (us := ts.map (toTd (toA (d + 1)))) (name := name) hB2 hsl hO nc _ ?_ ?_
      · intro wQ c1 c2 c3 u hu hE6 hy
        rw [lastTd_map] at hu
        obtain ⟨t, ht, rfl⟩ := Option.map_eq_some_iff.1 hu
        obtain ⟨a1, a2, a3, he, u1, u2, u3⟩ := ksA_three hy
        obtain ⟨rfl, rfl, rfl⟩ : c1 = a1 ∧ c2 = a2 ∧ c3 = a3 := by simpa using he
        clear he hu
        replace hC := hC.trans hE6
        replace hM := hM.trans (hE6.mv _)
        replace hO := hO.le hE6.size
        replace hb6 := (hE6.below.block _ hlt6).trans hb6
        replace hlt6 := Nat.lt_of_lt_of_le hlt6 hE6.size
        refine hK _ _ (fun h => by simp at h) ?_
        clear hK
        iterate 3 (apply tr_pure; (· rfl); (· rfl); (· (intro w'; go_simp; try rfl)); (· (simp [go_sem]; try rfl)))
        refine tr_one rfl rfl (fun K hK => ?_)
        refine wp_storeRow (cells := #[c1, c2, c3]) 101 _ _ rfl Try.size101 (by go_simp) (by go_simp) hb6 rfl (by simp [u1, u2, u3]) ?_
        intro w7 h7 g7
        refine hK _ _ (fun h => by simp at h) ?_
        clear hK
        (apply tr_pure; (· rfl); (· rfl); (· (intro w'; go_simp; try rfl)); (· (simp [go_sem]; try rfl)))
        refine tr_end ?_
        simp only [Exit.then]
        have f0 : w7.cell? ⟨b6, 0, none⟩ = some (c1) := cells_of h7 0
        have f1 : w7.cell? ⟨b6, 1, none⟩ = some (c2) := cells_of h7 1
        have f2 : w7.cell? ⟨b6, 2, none⟩ = some (c3) := cells_of h7 2
        have hE7 : Ext w w7 := (hE1.trans hC).grown g7 (fun k hk => by cases hk; omega)
        have z1 := (g7.block _ (by have := hC.size; omega) (by simp; omega)).trans ((hC.below.block _ (by omega)).trans hz'.out)
        have hX7 : Old ((w.heap.size + 2) :: X) w7 := fun b hb => Nat.lt_of_lt_of_le (hO b (List.mem_cons_of_mem _ hb)) g7.size
        go_wp2_with fail
        refine fromAtom_c (d + 1) _ ((w.heap.size + 2) :: X) [c1, c2, c3] (toTd (toA (d + 1)) t).atom ((ksA (d + 1)).mv hy (((Mv.refl _ _).grown g7 (by intro k hk; cases hk; simp)).less fun b hb => List.mem_cons_of_mem _ hb)) hX7 _ ?_
        intro w8 cs6 hE8 hcs6
        obtain ⟨r0, r1, r2, rfl, v0, v1, v2⟩ := kA_three hcs6
        have hcs6' := Lib.hid hcs6
        clear hcs6
        have hEE := hE7.trans hE8
        replace z1 := (hE8.below.block _ (by have := hC.size; have := g7.size; omega)).trans z1
        dsimp only
        go_wp2_with (refine wpL_storeRow (cells := #[r0, r1, r2]) rfl 42 _ _ rfl Try.size42 rfl rfl z1 rfl (by simp [v0, v1, v2]) ?_; intro w9 h9 g9)
        go_simp
        have z5 : w9.cell? ⟨w.heap.size + 2, 0, none⟩ = some r0 := cells_of h9 0
        have z6 : w9.cell? ⟨w.heap.size + 2, 1, none⟩ = some r1 := cells_of h9 1
        have z7 : w9.cell? ⟨w.heap.size + 2, 2, none⟩ = some r2 := cells_of h9 2
        refine bodyPost_ret (by simp [results, Try.results27, go_sem, z5, z6, z7]; try rfl) rfl ?_
        have hm9 := ((Mv.refl w8 ((w.heap.size + 2) :: X)).grown g9 (by intro k hk; cases hk; simp))
        exact hR1'.out w9 r0 r1 r2 t ht (hEE.grown g9 (fun k hk => by cases hk; omega)) ((kA (d + 1)).mv hcs6'.out (hm9.less fun b hb => List.mem_cons_of_mem _ hb))
      · intro hno wQ hE6
        rw [lastTd_map, Option.map_eq_none_iff] at hno
        replace hC := hC.trans hE6
        replace hM := hM.trans (hE6.mv _)
        replace hO := hO.le hE6.size
        replace hb6 := (hE6.below.block _ hlt6).trans hb6
        replace hlt6 := Nat.lt_of_lt_of_le hlt6 hE6.size
        refine hK _ _ (fun h => by simp at h) ?_
        clear hK
        iterate 3 (apply tr_pure; (· rfl); (· rfl); (· (intro w'; go_simp; try rfl)); (· (simp [go_sem]; try rfl)))
        refine tr_one rfl rfl (fun K hK => ?_)
        refine wp_storeRow (cells := #[.pointer none, .pointer none, .pointer none]) 101 _ _ rfl Try.size101 (by go_simp) (by go_simp) hb6 rfl (by simp; rfl) ?_
        intro w7 h7 g7
        refine hK _ _ (fun h => by simp at h) ?_
        clear hK
        (apply tr_pure; (· rfl); (· rfl); (· (intro w'; go_simp; try rfl)); (· (simp [go_sem]; try rfl)))
        refine tr_end ?_
        simp only [Exit.then]
        have f0 : w7.cell? ⟨b6, 0, none⟩ = some (.pointer none) := cells_of h7 0
        have f1 : w7.cell? ⟨b6, 1, none⟩ = some (.pointer none) := cells_of h7 1
        have f2 : w7.cell? ⟨b6, 2, none⟩ = some (.pointer none) := cells_of h7 2
        have hE7 : Ext w w7 := (hE1.trans hC).grown g7 (fun k hk => by cases hk; omega)
        have z1 := (g7.block _ (by have := hC.size; omega) (by simp; omega)).trans ((hC.below.block _ (by omega)).trans hz'.out)
        have hX7 : Old ((w.heap.size + 2) :: X) w7 := fun b hb => Nat.lt_of_lt_of_le (hO b (List.mem_cons_of_mem _ hb)) g7.size
        go_wp2_with fail
        refine fromAtom_c (d + 1) _ ((w.heap.size + 2) :: X) [.pointer none, .pointer none, .pointer none] (.mk none none none) ⟨_, _, _, rfl, rfl, rfl, rfl⟩ hX7 _ ?_
        intro w8 cs6 hE8 hcs6
        obtain ⟨r0, r1, r2, rfl, v0, v1, v2⟩ := kA_three hcs6
        have hcs6' := Lib.hid hcs6
        clear hcs6
        have hEE := hE7.trans hE8
        replace z1 := (hE8.below.block _ (by have := hC.size; have := g7.size; omega)).trans z1
        dsimp only
        go_wp2_with (refine wpL_storeRow (cells := #[r0, r1, r2]) rfl 42 _ _ rfl Try.size42 rfl rfl z1 rfl (by simp [v0, v1, v2]) ?_; intro w9 h9 g9)
        go_simp
        have z5 : w9.cell? ⟨w.heap.size + 2, 0, none⟩ = some r0 := cells_of h9 0
        have z6 : w9.cell? ⟨w.heap.size + 2, 1, none⟩ = some r1 := cells_of h9 1
        have z7 : w9.cell? ⟨w.heap.size + 2, 2, none⟩ = some r2 := cells_of h9 2
        refine bodyPost_ret (by simp [results, Try.results27, go_sem, z5, z6, z7]; try rfl) rfl ?_
        exact hR0'.out hno w9 r0 r1 r2 v0 v1 v2 (hEE.grown g9 (fun k hk => by cases hk; omega))
  · refine tr_one rfl rfl (fun K hK => ?_)
    go_simp
    refine hK _ _ (fun _ => hC.push _) ?_
    clear hK
    change trP _ _ _ _ _ _ _ (World.alloc w1.drew (.cells #[.pointer none, .pointer none, .pointer none] 101 (0, 0)))
    refine abs1 (G := trP _ _ _ _ _ _ _) ?_
    intro wa hEa hb6 hsa
    have hdr : w1.drew.heap.size = w1.heap.size := rfl
    have hge : w.heap.size + 3 ≤ w1.heap.size := by have := hC.size; omega
    have hlt6 : w1.heap.size < wa.heap.size := by omega
    replace hb6 : wa.heap[w1.heap.size]? = some (.cells #[.pointer none, .pointer none, .pointer none] 101 (0, 0)) := hb6
    clear hsa hdr
    generalize hb6e : w1.heap.size = b6 at hb6 hge hlt6 ⊢
    replace hM := (hM.trans (hEa.mv _)).more (n := b6) (by omega)
    replace hO := Old.cons hlt6 (hO.le hEa.size)
    replace hC := hC.trans hEa
    clear hb6e hEa
    refine tr_one rfl rfl (fun K hK => ?_)
    go_simp
    refine toSchema_c (d := d + 1) (X := (b6 :: (w.heap.size + 2) :: X)) (ts := ts) (hs'.out.mv hM (by simp [kTd])) hO _ ?_
    intro wS B v hE4 hB1 hB2 hsl0
    have hsl := hsl0.mv ((Mv.refl wS (B :: (b6 :: (w.heap.size + 2) :: X))).less (Z := (b6 :: (w.heap.size + 2) :: X)) (fun b hb => by simp at hb ⊢; simp [hb])) (by simp [kTd])
    clear hsl0
    replace hC := hC.trans hE4
    replace hM := hM.trans (hE4.mv _)
    replace hO := hO.le hE4.size
    replace hb6 := (hE4.below.block _ hlt6).trans hb6
    replace hlt6 := Nat.lt_of_lt_of_le hlt6 hE4.size
    refine hK _ _ (fun _ => hC) ?_
    clear hK
    refine tr_one rfl rfl (fun K hK => ?_)
    go_simp
    refine toRef_c (toAtom_c (d + 1)) (X := (b6 :: (w.heap.size + 2) :: X)) (cs := [.bool true, .string name, .string ⟨#[]⟩, .slice none 0 0, .slice none 0 0, .string ⟨#[]⟩]) (hkr _ _) hO _ ?_
    intro wR cs hE5 hcs
    obtain ⟨pn, ac, pr, rfl, hpn, hac, hpr⟩ := hcs
    obtain ⟨p1, p2, p3, rfl, o1, o2, o3⟩ := ksA_three hac
    replace hpn : IsP kS wR (b6 :: (w.heap.size + 2) :: X) pn (some name) := hpn
    obtain rfl : pr = .pointer none := by simpa [toRf, IsP] using hpr
    obtain ⟨nb, noff, rfl, -, -, nc, -⟩ := hpn.str
    clear hac hpr hpn
    replace hsl := hsl.mv (hE5.mv _) (by simp [kTd])
    replace hB2 := (hE5.below.block _ (Array.getElem?_eq_some_iff.1 hB2).1).trans hB2
    replace hC := hC.trans hE5
    replace hM := hM.trans (hE5.mv _)
    replace hO := hO.le hE5.size
    replace hb6 := (hE5.below.block _ hlt6).trans hb6
    replace hlt6 := Nat.lt_of_lt_of_le hlt6 hE5.size
    refine hK _ _ (fun h => by simp at h) ?_
    clear hK
    refine tr_one rfl rfl (fun K hK => ?_)
    go_simp
    refine resolve_c (d := d + 1) (X := (b6 :: (w.heap.size + 2) :: X)) (us := ts.map (toTd (toA (d + 1)))) (name := name) hB2 hsl hO nc _ ?_ ?_
    · intro wQ c1 c2 c3 u hu hE6 hy
      rw [lastTd_map] at hu
      obtain ⟨t, ht, rfl⟩ := Option.map_eq_some_iff.1 hu
      obtain ⟨a1, a2, a3, he, u1, u2, u3⟩ := ksA_three hy
      obtain ⟨rfl, rfl, rfl⟩ : c1 = a1 ∧ c2 = a2 ∧ c3 = a3 := by simpa using he
      clear he hu
      replace hC := hC.trans hE6
      replace hM := hM.trans (hE6.mv _)
      replace hO := hO.le hE6.size
      replace hb6 := (hE6.below.block _ hlt6).trans hb6
      replace hlt6 := Nat.lt_of_lt_of_le hlt6 hE6.size
      refine hK _ _ (fun h => by simp at h) ?_
      clear hK
      iterate 3 (apply tr_pure; (· rfl); (· rfl); (· (intro w'; go_simp; try rfl)); (· (simp [go_sem]; try rfl)))
      refine tr_one rfl rfl (fun K hK => ?_)
      refine wp_storeRow (cells := #[c1, c2, c3]) 101 _ _ rfl Try.size101 (by go_simp) (by go_simp) hb6 rfl (by simp [u1, u2, u3]) ?_
      intro w7 h7 g7
      refine hK _ _ (fun h => by simp at h) ?_
      clear hK
      (apply tr_pure; (· rfl); (· rfl); (· (intro w'; go_simp; try rfl)); (· (simp [go_sem]; try rfl)))
      refine tr_end ?_
      simp only [Exit.then]
      have f0 : w7.cell? ⟨b6, 0, none⟩ = some (c1) := cells_of h7 0
      have f1 : w7.cell? ⟨b6, 1, none⟩ = some (c2) := cells_of h7 1
      have f2 : w7.cell? ⟨b6, 2, none⟩ = some (c3) := cells_of h7 2
      have hE7 : Ext w w7 := (hE1.trans hC).grown g7 (fun k hk => by cases hk; omega)
      have z1 := (g7.block _ (by have := hC.size; omega) (by simp; omega)).trans ((hC.below.block _ (by omega)).trans hz'.out)
      have hX7 : Old ((w.heap.size + 2) :: X) w7 := fun b hb => Nat.lt_of_lt_of_le (hO b (List.mem_cons_of_mem _ hb)) g7.size
      go_wp2_with fail
      refine fromAtom_c (d + 1) _ ((w.heap.size + 2) :: X) [c1, c2, c3] (toTd (toA (d + 1)) t).atom ((ksA (d + 1)).mv hy (((Mv.refl _ _).grown g7 (by intro k hk; cases hk; simp)).less fun b hb => List.mem_cons_of_mem _ hb)) hX7 _ ?_
      intro w8 cs6 hE8 hcs6
      obtain ⟨r0, r1, r2, rfl, v0, v1, v2⟩ := kA_three hcs6
      have hcs6' := Lib.hid hcs6
      clear hcs6
      have hEE := hE7.trans hE8
      replace z1 := (hE8.below.block _ (by have := hC.size; have := g7.size; omega)).trans z1
      dsimp only
      go_wp2_with (refine wpL_storeRow (cells := #[r0, r1, r2]) rfl 42 _ _ rfl Try.size42 rfl rfl z1 rfl (by simp [v0, v1, v2]) ?_; intro w9 h9 g9)
      go_simp
      have z5 : w9.cell? ⟨w.heap.size + 2, 0, none⟩ = some r0 := cells_of h9 0
      have z6 : w9.cell? ⟨w.heap.size + 2, 1, none⟩ = some r1 := cells_of h9 1
      have z7 : w9.cell? ⟨w.heap.size + 2, 2, none⟩ = some r2 := cells_of h9 2
      refine bodyPost_ret (by simp [results, Try.results27, go_sem, z5, z6, z7]; try rfl) rfl ?_
      have hm9 := ((Mv.refl w8 ((w.heap.size + 2) :: X)).grown g9 (by intro k hk; cases hk; simp))
      exact hR1'.out w9 r0 r1 r2 t ht (hEE.grown g9 (fun k hk => by cases hk; omega)) ((kA (d + 1)).mv hcs6'.out (hm9.less fun b hb => List.mem_cons_of_mem _ hb))
    · intro hno wQ hE6
      rw [lastTd_map, Option.map_eq_none_iff] at hno
      replace hC := hC.trans hE6
      replace hM := hM.trans (hE6.mv _)
      replace hO := hO.le hE6.size
      replace hb6 := (hE6.below.block _ hlt6).trans hb6
      replace hlt6 := Nat.lt_of_lt_of_le hlt6 hE6.size
      refine hK _ _ (fun h => by simp at h) ?_
      clear hK
      iterate 3 (apply tr_pure; (· rfl); (· rfl); (· (intro w'; go_simp; try rfl)); (· (simp [go_sem]; try rfl)))
      refine tr_one rfl rfl (fun K hK => ?_)
      refine wp_storeRow (cells := #[.pointer none, .pointer none, .pointer none]) 101 _ _ rfl Try.size101 (by go_simp) (by go_simp) hb6 rfl (by simp; rfl) ?_
      intro w7 h7 g7
      refine hK _ _ (fun h => by simp at h) ?_
      clear hK
      (apply tr_pure; (· rfl); (· rfl); (· (intro w'; go_simp; try rfl)); (· (simp [go_sem]; try rfl)))
      refine tr_end ?_
      simp only [Exit.then]
      have f0 : w7.cell? ⟨b6, 0, none⟩ = some (.pointer none) := cells_of h7 0
      have f1 : w7.cell? ⟨b6, 1, none⟩ = some (.pointer none) := cells_of h7 1
      have f2 : w7.cell? ⟨b6, 2, none⟩ = some (.pointer none) := cells_of h7 2
      have hE7 : Ext w w7 := (hE1.trans hC).grown g7 (fun k hk => by cases hk; omega)
      have z1 := (g7.block _ (by have := hC.size; omega) (by simp; omega)).trans ((hC.below.block _ (by omega)).trans hz'.out)
      have hX7 : Old ((w.heap.size + 2) :: X) w7 := fun b hb => Nat.lt_of_lt_of_le (hO b (List.mem_cons_of_mem _ hb)) g7.size
      go_wp2_with fail
      refine fromAtom_c (d + 1) _ ((w.heap.size + 2) :: X) [.pointer none, .pointer none, .pointer none] (.mk none none none) ⟨_, _, _, rfl, rfl, rfl, rfl⟩ hX7 _ ?_
      intro w8 cs6 hE8 hcs6
      obtain ⟨r0, r1, r2, rfl, v0, v1, v2⟩ := kA_three hcs6
      have hcs6' := Lib.hid hcs6
      clear hcs6
      have hEE := hE7.trans hE8
      replace z1 := (hE8.below.block _ (by have := hC.size; have := g7.size; omega)).trans z1
      dsimp only
      go_wp2_with (refine wpL_storeRow (cells := #[r0, r1, r2]) rfl 42 _ _ rfl Try.size42 rfl rfl z1 rfl (by simp [v0, v1, v2]) ?_; intro w9 h9 g9)
      go_simp
      have z5 : w9.cell? ⟨w.heap.size + 2, 0, none⟩ = some r0 := cells_of h9 0
      have z6 : w9.cell? ⟨w.heap.size + 2, 1, none⟩ = some r1 := cells_of h9 1
      have z7 : w9.cell? ⟨w.heap.size + 2, 2, none⟩ = some r2 := cells_of h9 2
      refine bodyPost_ret (by simp [results, Try.results27, go_sem, z5, z6, z7]; try rfl) rfl ?_
      exact hR0'.out hno w9 r0 r1 r2 v0 v1 v2 (hEE.grown g9 (fun k hk => by cases hk; omega))

end Go.Proofs.Ytmihdlbcjiaibaa
