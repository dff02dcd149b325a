/- schema's resolveNoOverrides and Resolve (of a reference by name without a relationship), impl.FindNamed, impl.Resolve. -/
import Derived.Test.YtmihdlbcjiaibaaNamed
namespace Go.Proofs.Ytmihdlbcjiaibaa
open Go.RowKit

set_option maxRecDepth 100000 in
set_option maxHeartbeats 8000000 in
set_option pp.maxSteps 1000000 in
set_option pp.deepTerms true in
theorem resolve0_c {d : Nat} {w : World} {X : List Nat} {B nb noff : Nat} {v p1 p2 p3 : Value} {us : List (TdOf SA)} {name : ByteArray} (hB : w.heap[B]? = some (.cells #[v] 155 (0, 0))) (hs : IsSl (kTd (ksA d)) 80 w X v us) (hX : Old X w)
    (hn : w.cell? ⟨nb, noff, none⟩ = some (.string name)) (R : Ending → World → Prop)
    (hR1 : ∀ w' c1 c2 c3 u, lastTd name us = some u → Ext w w' → (ksA d).is w' X [c1, c2, c3] u.atom → R (.returned (.tuple #[.agg #[c1, c2, c3], .bool true])) w')
    (hR0 : lastTd name us = none → Ends R w (.tuple #[.agg #[.pointer none, .pointer none, .pointer none], .bool false])) :
    Calls Try.prog 84 #[.pointer (some ⟨B, 0, none⟩), .agg #[.pointer (some ⟨nb, noff, none⟩), p1, p2, p3, .pointer none, .bool false]] w R := by
  have hs' := Lib.hid hs
  have hR1' := Lib.hid hR1
  have hR0' := Lib.hid hR0
  have hX' := Lib.hid hX
  have hB' := Lib.hid hB
  have hBl := (Array.getElem?_eq_some_iff.1 hB).1
  clear hR1 hR0 hX hs hB
  go_enter Try.func84, Try.ntmps84
  go_upto_if 12 with (fail)
  refine abs3 (G := Code.wp _ _ _ _) ?_
  intro w3 hE3 hb0 k1 hb2 hs1
  replace hn := hE3.keep hn
  have c0 : w3.cell? ⟨w.heap.size, 0, none⟩ = some (.pointer (some ⟨nb, noff, none⟩)) := cells_of hb0 0
  have hl3 : w.heap.size + 2 < w3.heap.size := by omega
  have k1' := Lib.hid k1
  have k2' := Lib.hid hb2
  clear hb0 hs1 k1 hb2
  have hX3 : Old ((w.heap.size + 1) :: (w.heap.size + 2) :: X) w3 := .cons (by omega) (.cons (by omega) (hX'.out.le hE3.size))
  have hs3 := Lib.hid (hs'.out.mv (((hE3.mv X).more (n := w.heap.size + 2) (by omega)).more (n := w.heap.size + 1) (by omega)) (by simp [kTd]))
  go_wp2_with fail
  refine findNamed_c (d := d) (X := (w.heap.size + 1) :: (w.heap.size + 2) :: X) (B := B) ((hE3.below.block _ hBl).trans hB'.out) hs3.out hX3 _ ?_ ?_
  · intro w4 c1 c2 c3 u hu hE4 hy
    obtain ⟨a1, a2, a3, he, u1, u2, u3⟩ := ksA_three hy
    obtain ⟨rfl, rfl, rfl⟩ : c1 = a1 ∧ c2 = a2 ∧ c3 = a3 := by simpa using he
    have hE := hE3.trans hE4
    have z1 := (hE4.below.block _ (by omega)).trans k1'.out
    have z2 := (hE4.below.block _ (by omega)).trans k2'.out
    have hy' := Lib.hid hy
    clear hy he
    dsimp only
    go_wp2_with (first | (refine wpL_storeRow (cells := #[.string u.name, c1, c2, c3]) rfl 118 _ _ rfl Try.size118 rfl rfl (alloc_new _ _ rfl) rfl (by simp [u1, u2, u3, str_one]) ?_; intro wt ht gt; have f1 : wt.cell? ⟨w4.heap.size, 1, none⟩ = some (c1) := cells_of ht 1; have f2 : wt.cell? ⟨w4.heap.size, 2, none⟩ = some (c2) := cells_of ht 2; have f3 : wt.cell? ⟨w4.heap.size, 3, none⟩ = some (c3) := cells_of ht 3; have hEt : Ext w4 wt := ((Ext.refl w4).push _).grown gt (fun k hk => by cases hk; exact Nat.le_refl _); replace z1 := (hEt.below.block _ (by have := hE4.size; omega)).trans z1; replace z2 := (hEt.below.block _ (by have := hE4.size; omega)).trans z2) | (refine wpL_storeRow (cells := #[c1, c2, c3]) rfl 101 _ _ rfl Try.size101 rfl rfl z2 rfl (by simp [u1, u2, u3]) ?_; intro w5 h5 g5; have f0 : w5.cell? ⟨w.heap.size + 2, 0, none⟩ = some c1 := cells_of h5 0; have f1 : w5.cell? ⟨w.heap.size + 2, 1, none⟩ = some c2 := cells_of h5 1; have f2 : w5.cell? ⟨w.heap.size + 2, 2, none⟩ = some c3 := cells_of h5 2; have y1 := (g5.block _ (by have := hE4.size; have := hEt.size; omega) (by simp)).trans z1; have hE5 := (hE.trans hEt).grown g5 (fun k hk => by cases hk; omega)) | (refine wpL_storeRow (cells := #[c1, c2, c3]) rfl 101 _ _ rfl Try.size101 rfl rfl y1 rfl (by simp [u1, u2, u3]) ?_; intro w6 h6 g6))
    go_simp
    have z0 : w6.cell? ⟨w.heap.size + 1, 0, none⟩ = some c1 := cells_of h6 0
    have z3 : w6.cell? ⟨w.heap.size + 1, 1, none⟩ = some c2 := cells_of h6 1
    have z4 : w6.cell? ⟨w.heap.size + 1, 2, none⟩ = some c3 := cells_of h6 2
    refine bodyPost_ret (by simp [results, Try.results84, go_sem, z0, z3, z4]; try rfl) rfl ?_
    have hm5 := ((hEt.mv ((w.heap.size + 1) :: (w.heap.size + 2) :: X)).grown g5 (by intro k hk; cases hk; simp)).grown g6 (by intro k hk; cases hk; simp)
    exact hR1'.out w6 c1 c2 c3 u hu (hE5.grown g6 (fun k hk => by cases hk; omega)) ((ksA d).mv hy'.out (hm5.less fun b hb => by simp [hb]))
  · intro hno w4 hE4
    have hE := hE3.trans hE4
    have z1 := (hE4.below.block _ (by omega)).trans k1'.out
    dsimp only
    have hR2 := Lib.hid (hR0'.out hno)
    clear hno
    go_wp2_with (refine wpL_storeRow (cells := #[.pointer none, .pointer none, .pointer none]) rfl 101 _ _ rfl Try.size101 rfl rfl ((alloc_old w4 _ (k := w.heap.size + 1) (by have := hE4.size; omega)).trans z1) rfl (by simp; rfl) ?_; intro w6 h6 g6)
    go_simp
    have z0 : w6.cell? ⟨w.heap.size + 1, 0, none⟩ = some (.pointer none) := cells_of h6 0
    have z3 : w6.cell? ⟨w.heap.size + 1, 1, none⟩ = some (.pointer none) := cells_of h6 1
    have z4 : w6.cell? ⟨w.heap.size + 1, 2, none⟩ = some (.pointer none) := cells_of h6 2
    refine bodyPost_ret (by simp [results, Try.results84, go_sem, z0, z3, z4]; try rfl) rfl ?_
    exact hR2.out w6 ((hE.push _).grown g6 (fun k hk => by cases hk; omega))

set_option maxRecDepth 100000 in
set_option maxHeartbeats 8000000 in
set_option pp.maxSteps 1000000 in
set_option pp.deepTerms true in
theorem resolve_c {d : Nat} {w : World} {X : List Nat} {B nb noff : Nat} {v p1 p2 p3 : Value} {us : List (TdOf SA)} {name : ByteArray} (hB : w.heap[B]? = some (.cells #[v] 155 (0, 0))) (hs : IsSl (kTd (ksA d)) 80 w X v us) (hX : Old X w)
    (hn : w.cell? ⟨nb, noff, none⟩ = some (.string name)) (R : Ending → World → Prop)
    (hR1 : ∀ w' c1 c2 c3 u, lastTd name us = some u → Ext w w' → (ksA d).is w' X [c1, c2, c3] u.atom → R (.returned (.tuple #[.agg #[c1, c2, c3], .bool true])) w')
    (hR0 : lastTd name us = none → Ends R w (.tuple #[.agg #[.pointer none, .pointer none, .pointer none], .bool false])) :
    Calls Try.prog 57 #[.pointer (some ⟨B, 0, none⟩), .agg #[.pointer (some ⟨nb, noff, none⟩), p1, p2, p3, .pointer none, .bool false]] w R := by
  have hs' := Lib.hid hs
  have hR1' := Lib.hid hR1
  have hR0' := Lib.hid hR0
  have hX' := Lib.hid hX
  have hB' := Lib.hid hB
  have hn' := Lib.hid hn
  have hBl := (Array.getElem?_eq_some_iff.1 hB).1
  clear hR1 hR0 hX hs hB hn
  go_enter Try.func57, Try.ntmps57
  go_wp2_with fail
  refine abs2 (G := fun wr => Calls _ _ _ wr _) ?_
  intro w3 hE3 hb0 k1 hs1
  have hl3 : w.heap.size + 1 < w3.heap.size := by omega
  have k1' := Lib.hid k1
  clear hb0 hs1 k1
  have hX3 : Old ((w.heap.size + 1) :: X) w3 := .cons (by omega) (hX'.out.le hE3.size)
  refine resolve0_c (d := d) (X := (w.heap.size + 1) :: X) (us := us) (name := name) (B := B) ((hE3.below.block _ hBl).trans hB'.out) (hs'.out.mv ((hE3.mv X).more (n := w.heap.size + 1) (by omega)) (by simp [kTd])) hX3 (hE3.keep hn'.out) _ ?_ ?_
  · intro w4 c1 c2 c3 u hu hE4 hy
    obtain ⟨a1, a2, a3, he, u1, u2, u3⟩ := ksA_three hy
    obtain ⟨rfl, rfl, rfl⟩ : c1 = a1 ∧ c2 = a2 ∧ c3 = a3 := by simpa using he
    have hE := hE3.trans hE4
    have z1 := (hE4.below.block _ (by omega)).trans k1'.out
    have hy' := Lib.hid hy
    clear hy he
    dsimp only
    go_wp2_with (refine wpL_storeRow (cells := #[c1, c2, c3]) rfl 101 _ _ rfl Try.size101 rfl rfl z1 rfl (by simp [u1, u2, u3]) ?_; intro w6 h6 g6)
    go_simp
    have z0 : w6.cell? ⟨w.heap.size + 1, 0, none⟩ = some c1 := cells_of h6 0
    have z3 : w6.cell? ⟨w.heap.size + 1, 1, none⟩ = some c2 := cells_of h6 1
    have z4 : w6.cell? ⟨w.heap.size + 1, 2, none⟩ = some c3 := cells_of h6 2
    refine bodyPost_ret (by simp [results, Try.results57, go_sem, z0, z3, z4]; try rfl) rfl ?_
    have hm5 := ((Mv.refl w4 ((w.heap.size + 1) :: X)).grown g6 (by intro k hk; cases hk; simp))
    exact hR1'.out w6 c1 c2 c3 u hu (hE.grown g6 (fun k hk => by cases hk; omega)) ((ksA d).mv hy'.out (hm5.less fun b hb => by simp [hb]))
  · intro hno w4 hE4
    have hE := hE3.trans hE4
    have z1 := (hE4.below.block _ (by omega)).trans k1'.out
    have hR2 := Lib.hid (hR0'.out hno)
    clear hno
    dsimp only
    go_wp2_with (refine wpL_storeRow (cells := #[.pointer none, .pointer none, .pointer none]) rfl 101 _ _ rfl Try.size101 rfl rfl z1 rfl (by simp; rfl) ?_; intro w6 h6 g6)
    go_simp
    have z0 : w6.cell? ⟨w.heap.size + 1, 0, none⟩ = some (.pointer none) := cells_of h6 0
    have z3 : w6.cell? ⟨w.heap.size + 1, 1, none⟩ = some (.pointer none) := cells_of h6 1
    have z4 : w6.cell? ⟨w.heap.size + 1, 2, none⟩ = some (.pointer none) := cells_of h6 2
    refine bodyPost_ret (by simp [results, Try.results57, go_sem, z0, z3, z4]; try rfl) rfl ?_
    exact hR2.out w6 (hE.grown g6 (fun k hk => by cases hk; omega))

set_option maxRecDepth 100000 in
set_option maxHeartbeats 8000000 in
set_option pp.maxSteps 1000000 in
set_option pp.deepTerms true in
theorem find_c {d : Nat} {w : World} {X : List Nat} {vs : Value} {ts : List (TdOf A)} {name : ByteArray} (hs : IsSl (kTd (kA (d + 1))) 80 w X vs ts) (hX : Old X w) (R : Ending → World → Prop)
    (hR1 : ∀ w' c1 c2 c3 u, lastTd name ts = some u → Ext w w' → (kA (d + 1)).is w' X [c1, c2, c3] (frA (d + 1) (toA (d + 1) u.atom)) → R (.returned (.tuple #[.agg #[c1, c2, c3], .bool true])) w')
    (hR0 : lastTd name ts = none → ∀ w' r0 r1 r2, r0.oneCell' = true → r1.oneCell' = true → r2.oneCell' = true → Ext w w' → R (.returned (.tuple #[.agg #[r0, r1, r2], .bool false])) w') :
    Calls Try.prog 28 #[.agg #[vs], .string name] w R := by
  have hvo := hs.one
  have hs' := Lib.hid hs
  have hR1' := Lib.hid hR1
  have hR0' := Lib.hid hR0
  have hX' := Lib.hid hX
  clear hR1 hR0 hX hs
  go_enter Try.func28, Try.ntmps28
  go_wp2_with fail
  refine abs2 (G := fun wr => Calls _ _ _ wr _) ?_
  intro w3 hE3 hb0 k1 hs1
  have hl3 : w.heap.size + 1 < w3.heap.size := by omega
  have k1' := Lib.hid k1
  clear hb0 hs1 k1
  have hX3 : Old ((w.heap.size + 1) :: X) w3 := .cons (by omega) (hX'.out.le hE3.size)
  refine toSchema_c (d := d + 1) (X := (w.heap.size + 1) :: X) (ts := ts) (hs'.out.mv ((hE3.mv X).more (n := w.heap.size + 1) (by omega)) (by simp [kTd])) hX3 _ ?_
  intro w4 B v hE4 hB1 hB2 hsl
  have hBl := (Array.getElem?_eq_some_iff.1 hB2).1
  have hB2' := Lib.hid hB2
  have hsl' := Lib.hid hsl
  clear hB2 hsl
  dsimp only
  go_wp2_with fail
  refine findNamed_c (d := d + 1) (X := (w.heap.size + 1) :: X) (us := ts.map (toTd (toA (d + 1)))) hB2'.out (hsl'.out.mv ((Mv.refl _ _).less (fun b hb => by simp at hb ⊢; simp [hb])) (by simp [kTd])) (hX3.le hE4.size) _ ?_ ?_
  · intro w5 c1 c2 c3 u hu hE5 hy
    rw [lastTd_map] at hu
    obtain ⟨t, ht, rfl⟩ := Option.map_eq_some_iff.1 hu
    obtain ⟨a1, a2, a3, he, u1, u2, u3⟩ := ksA_three hy
    obtain ⟨rfl, rfl, rfl⟩ : c1 = a1 ∧ c2 = a2 ∧ c3 = a3 := by simpa using he
    have hE := (hE3.trans hE4).trans hE5
    have z1 := ((hE4.trans hE5).below.block _ (by omega)).trans k1'.out
    have hy' := Lib.hid hy
    clear hy he hu
    dsimp only
    go_wp2_with (refine wpL_storeRow (cells := #[.string (toTd (toA (d + 1)) t).name, c1, c2, c3]) rfl 118 _ _ rfl Try.size118 rfl rfl (alloc_new _ _ rfl) rfl (by simp [u1, u2, u3, str_one]) ?_; intro wt ht2 gt; have f1 : wt.cell? ⟨w5.heap.size, 1, none⟩ = some c1 := cells_of ht2 1; have f2 : wt.cell? ⟨w5.heap.size, 2, none⟩ = some c2 := cells_of ht2 2; have f3 : wt.cell? ⟨w5.heap.size, 3, none⟩ = some c3 := cells_of ht2 3)
    have hEt : Ext w5 wt := ((Ext.refl w5).push _).grown gt (fun k hk => by cases hk; exact Nat.le_refl _)
    refine fromAtom_c (d + 1) _ ((w.heap.size + 1) :: X) [c1, c2, c3] (toTd (toA (d + 1)) t).atom ((ksA (d + 1)).mv hy'.out (hEt.mv _)) (hX3.le ((hE4.trans hE5).trans hEt).size) _ ?_
    intro w6 cs6 hE6 hcs6
    obtain ⟨r0, r1, r2, rfl, v0, v1, v2⟩ := kA_three hcs6
    have hcs6' := Lib.hid hcs6
    clear hcs6
    have hEE := (hE.trans hEt).trans hE6
    replace z1 := ((hEt.trans hE6).below.block _ (by have := hE4.size; have := hE5.size; omega)).trans z1
    dsimp only
    go_wp2_with (refine wpL_storeRow (cells := #[r0, r1, r2]) rfl 42 _ _ rfl Try.size42 rfl rfl z1 rfl (by simp [v0, v1, v2]) ?_; intro w7 h7 g7)
    go_simp
    have z0 : w7.cell? ⟨w.heap.size + 1, 0, none⟩ = some r0 := cells_of h7 0
    have z3 : w7.cell? ⟨w.heap.size + 1, 1, none⟩ = some r1 := cells_of h7 1
    have z4 : w7.cell? ⟨w.heap.size + 1, 2, none⟩ = some r2 := cells_of h7 2
    refine bodyPost_ret (by simp [results, Try.results28, go_sem, z0, z3, z4]; try rfl) rfl ?_
    have hm5 := ((Mv.refl w6 ((w.heap.size + 1) :: X)).grown g7 (by intro k hk; cases hk; simp))
    exact hR1'.out w7 r0 r1 r2 t ht (hEE.grown g7 (fun k hk => by cases hk; omega)) ((kA (d + 1)).mv hcs6'.out (hm5.less fun b hb => by simp [hb]))
  · intro hno w5 hE5
    rw [lastTd_map, Option.map_eq_none_iff] at hno
    have hE := (hE3.trans hE4).trans hE5
    have z1 := ((hE4.trans hE5).below.block _ (by omega)).trans k1'.out
    have hR2 := Lib.hid (hR0'.out hno)
    clear hno
    dsimp only
    go_wp2_with fail
    refine fromAtom_c (d + 1) _ ((w.heap.size + 1) :: X) [.pointer none, .pointer none, .pointer none] (.mk none none none) ⟨_, _, _, rfl, rfl, rfl, rfl⟩ (hX3.le ((hE4.trans hE5).push _).size) _ ?_
    intro w6 cs6 hE6 hcs6
    obtain ⟨r0, r1, r2, rfl, v0, v1, v2⟩ := kA_three hcs6
    clear hcs6
    have hEE := (hE.push _).trans hE6
    replace z1 := (hE6.below.block _ (by have := hE4.size; have := hE5.size; simp; omega)).trans ((alloc_old w5 _ (k := w.heap.size + 1) (by have := hE4.size; have := hE5.size; omega)).trans z1)
    dsimp only
    go_wp2_with (refine wpL_storeRow (cells := #[r0, r1, r2]) rfl 42 _ _ rfl Try.size42 rfl rfl z1 rfl (by simp [v0, v1, v2]) ?_; intro w7 h7 g7)
    go_simp
    have z0 : w7.cell? ⟨w.heap.size + 1, 0, none⟩ = some r0 := cells_of h7 0
    have z3 : w7.cell? ⟨w.heap.size + 1, 1, none⟩ = some r1 := cells_of h7 1
    have z4 : w7.cell? ⟨w.heap.size + 1, 2, none⟩ = some r2 := cells_of h7 2
    refine bodyPost_ret (by simp [results, Try.results28, go_sem, z0, z3, z4]; try rfl) rfl ?_
    exact hR2.out w7 r0 r1 r2 v0 v1 v2 (hEE.grown g7 (fun k hk => by cases hk; omega))

end Go.Proofs.Ytmihdlbcjiaibaa
