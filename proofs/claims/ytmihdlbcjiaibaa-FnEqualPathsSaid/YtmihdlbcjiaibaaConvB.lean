/- impl.fromAtom and its kin: types taken back from the package. -/
import Derived.Test.YtmihdlbcjiaibaaConv4
import Derived.Test.YtmihdlbcjiaibaaRange
namespace Go.Proofs.Ytmihdlbcjiaibaa
open Go.RowKit

theorem IsP.str {w : World} {X : List Nat} {v : Value} {s : ByteArray} (h : IsP kS w X v (some s)) : ∃ b off, v = .pointer (some ⟨b, off, none⟩) ∧ b ∉ X ∧ b < w.heap.size ∧ w.cell? ⟨b, off, none⟩ = some (.string s) ∧ s.size ≤ 140737488351232 := by
  obtain ⟨b, off, cs, h1, h2, h3, h4, h5, h6⟩ := h
  subst h5
  exact ⟨b, off, h1, h2, h3, h4 0 (by decide), h6⟩

theorem empty_sz : (⟨#[]⟩ : ByteArray).size ≤ 140737488351232 := by decide

def FromAtomC (d : Nat) : Prop := ∀ (w : World) (X : List Nat) (cs : List Value) (a : SA), (ksA d).is w X cs a → Old X w → ∀ R : Ending → World → Prop, (∀ w' cs', Ext w w' → (kA d).is w' X cs' (frA d a) → R (.returned (.agg cs'.toArray)) w') →
    Calls Try.prog 59 #[.agg cs.toArray] w R

theorem Try.size44 : (Try.prog.info? 44).map (·.size) = some 6 := by kernel_rfl
theorem Try.info4 : (Try.prog.info? 4).map (fun i => (i.zero, i.size, i.bytes)) = some (some (.bool false), 1, 1) := by kernel_rfl

set_option maxRecDepth 100000 in
set_option maxHeartbeats 8000000 in
set_option pp.maxSteps 1000000 in
set_option pp.deepTerms true in
theorem fromRef_c {d : Nat} (ih : FromAtomC d) {w : World} {X : List Nat} {cs : List Value} {r : SRf SA} (hr : (ksRf (ksA d)).is w X cs r) (hX : Old X w) (R : Ending → World → Prop)
    (hR : ∀ w' cs', Ext w w' → (kRf (kA d)).is w' X cs' (frRf (frA d) r) → R (.returned (.agg cs'.toArray)) w') : Calls Try.prog 81 #[.agg cs.toArray] w R := by
  obtain ⟨pn, ac, pr, rfl, hn, ha, hl⟩ := hr
  obtain ⟨a0, a1, a2, rfl, o0, o1, o2⟩ := ksA_three ha
  obtain ⟨named, atom, rel⟩ := r
  dsimp only at hn ha hl ⊢
  have hno := hn.one
  have hlo := hl.one
  have ha' := Lib.hid ha
  have hn' := Lib.hid hn
  have hl' := Lib.hid hl
  have hR' := Lib.hid hR
  have hX' := Lib.hid hX
  have hih := Lib.hid ih
  clear ha hR hX ih hn hl
  simp only [List.cons_append, List.nil_append]
  go_enter Try.func81, Try.ntmps81
  go_wp2_with fail
  refine abs2 (G := fun wr => Calls _ _ _ wr _) ?_
  intro w1 hE1 hb1 hb2 hs1
  refine hih.out w1 (w.heap.size :: (w.heap.size + 1) :: X) [a0, a1, a2] atom ((ksA d).mv ha'.out (((hE1.mv X).more (n := w.heap.size + 1) (by omega)).more (Nat.le_refl _))) (.cons (by omega) (.cons (by omega) (hX'.out.le hE1.size))) _ ?_
  intro w2 cs2 hE2 hy
  obtain ⟨q0, q1, q2, rfl, u0, u1, u2⟩ := kA_three hy
  have hy' := Lib.hid hy
  have hz := Lib.hid hs1
  have hE := hE1.trans hE2
  have c1 : w2.heap[w.heap.size]? = _ := (hE2.below.block _ (by omega)).trans hb1
  have c2 : w2.heap[w.heap.size + 1]? = _ := (hE2.below.block _ (by omega)).trans hb2
  have hw2 : w.heap.size + 2 ≤ w2.heap.size := by have := hE2.size; omega
  clear hy hb1 hb2 hs1
  dsimp only
  have hyX : Hid (∀ w', Mv w2 (w.heap.size :: (w.heap.size + 1) :: X) w' (w2.heap.size :: w.heap.size :: (w.heap.size + 1) :: X) → (kA d).is w' X [q0, q1, q2] (frA d atom)) := fun w' hm => (kA d).mv hy'.out (hm.less fun b hb => by simp [hb])
  cases named with
  | none =>
    obtain rfl : pn = .pointer none := hn'.out
    cases rel with
    | none =>
      obtain rfl : pr = .pointer none := hl'.out
      go_wp2_with (first | (refine wpL_storeRow (cells := #[.bool false, .string ⟨#[]⟩, q0, q1, q2, .string ⟨#[]⟩]) rfl 44 _ _ rfl Try.size44 rfl rfl (alloc_new _ _ rfl) rfl (by simp [u0, u1, u2, str_one, bool_one]) ?_; intro w3 h3 g3; have hE3 : Ext w2 w3 := ((Ext.refl w2).push _).grown g3 (fun k hk => by cases hk; exact Nat.le_refl _); have d1 : w3.heap[w.heap.size]? = _ := (hE3.below.block _ (by omega)).trans c1; have d2 : w3.heap[w.heap.size + 1]? = _ := (hE3.below.block _ (by omega)).trans c2; have f0 : w3.cell? ⟨w2.heap.size, 0, none⟩ = some (.bool false) := cells_of h3 0; have f1 : w3.cell? ⟨w2.heap.size, 1, none⟩ = some (.string ⟨#[]⟩) := cells_of h3 1; have f2 : w3.cell? ⟨w2.heap.size, 2, none⟩ = some q0 := cells_of h3 2; have f3 : w3.cell? ⟨w2.heap.size, 3, none⟩ = some q1 := cells_of h3 3; have f4 : w3.cell? ⟨w2.heap.size, 4, none⟩ = some q2 := cells_of h3 4; have f5 : w3.cell? ⟨w2.heap.size, 5, none⟩ = some (.string ⟨#[]⟩) := cells_of h3 5; have x0 : w3.cell? ⟨w.heap.size, 0, none⟩ = some (.pointer none) := cells_of d1 0; have x4 : w3.cell? ⟨w.heap.size, 4, none⟩ = some (.pointer none) := cells_of d1 4) | (refine wpL_storeRow (cells := #[.bool false, .string ⟨#[]⟩, q0, q1, q2, .string ⟨#[]⟩]) rfl 44 _ _ rfl Try.size44 rfl rfl d2 rfl (by simp [u0, u1, u2, str_one, bool_one]) ?_; intro w9 h9 g9))
      go_simp
      have z0 := cells_of h9 0
      have z1 := cells_of h9 1
      have z2 := cells_of h9 2
      have z3 := cells_of h9 3
      have z4 := cells_of h9 4
      have z5 := cells_of h9 5
      simp only [List.getElem?_toArray, List.getElem?_cons_zero, List.getElem?_cons_succ] at z0 z1 z2 z3 z4 z5
      refine bodyPost_ret (by simp [results, Try.results81, go_sem, z0, z1, z2, z3, z4, z5]; try rfl) rfl ?_
      exact hR'.out w9 [_, _, _, _, _, _] ((hE.trans hE3).grown g9 (fun k hk => by cases hk; omega)) ⟨[q0, q1, q2], rfl, hyX.out _ ((hE3.mv (w.heap.size :: (w.heap.size + 1) :: X) |>.more (Nat.le_refl _)).grown g9 (by intro k hk; cases hk; simp)), empty_sz, empty_sz⟩
    | some rl =>
      obtain ⟨rb, roff, rfl, rX, rlt, rc, rsz⟩ := hl'.out.str
      have rc2 := hE.keep rc
      go_wp2_with (first | (refine wpL_storeRow (cells := #[.bool false, .string ⟨#[]⟩, q0, q1, q2, .string ⟨#[]⟩]) rfl 44 _ _ rfl Try.size44 rfl rfl (alloc_new _ _ rfl) rfl (by simp [u0, u1, u2, str_one, bool_one]) ?_; intro w3 h3 g3; have hE3 : Ext w2 w3 := ((Ext.refl w2).push _).grown g3 (fun k hk => by cases hk; exact Nat.le_refl _); have d1 : w3.heap[w.heap.size]? = _ := (hE3.below.block _ (by omega)).trans c1; have d2 : w3.heap[w.heap.size + 1]? = _ := (hE3.below.block _ (by omega)).trans c2; have f0 : w3.cell? ⟨w2.heap.size, 0, none⟩ = some (.bool false) := cells_of h3 0; have f1 : w3.cell? ⟨w2.heap.size, 1, none⟩ = some (.string ⟨#[]⟩) := cells_of h3 1; have f2 : w3.cell? ⟨w2.heap.size, 2, none⟩ = some q0 := cells_of h3 2; have f3 : w3.cell? ⟨w2.heap.size, 3, none⟩ = some q1 := cells_of h3 3; have f4 : w3.cell? ⟨w2.heap.size, 4, none⟩ = some q2 := cells_of h3 4; have f5 : w3.cell? ⟨w2.heap.size, 5, none⟩ = some (.string ⟨#[]⟩) := cells_of h3 5; have x0 : w3.cell? ⟨w.heap.size, 0, none⟩ = some (.pointer none) := cells_of d1 0; have x4 : w3.cell? ⟨w.heap.size, 4, none⟩ = some (.pointer (some ⟨rb, roff, none⟩)) := cells_of d1 4; have rc3 := hE3.keep rc2) | (refine wpL_store1 rfl 9 _ _ rfl Try.info9 (p := ⟨w2.heap.size, 5, none⟩) (v := .string rl) rfl rfl rfl (by rw [cells_of h3 5]; rfl) (frozen_of_row _ _ _ _ _ h3) ?_; obtain ⟨h7, g7, -⟩ := set_facts (off := 5) (.string rl) h3; generalize w3.setCell ⟨w2.heap.size, 5, none⟩ (.string rl) = w7 at h7 g7 ⊢; clear f0 f1 f2 f3 f4 f5; have f0 : w7.cell? ⟨w2.heap.size, 0, none⟩ = some (.bool false) := cells_of h7 0; have f1 : w7.cell? ⟨w2.heap.size, 1, none⟩ = some (.string ⟨#[]⟩) := cells_of h7 1; have f2 : w7.cell? ⟨w2.heap.size, 2, none⟩ = some q0 := cells_of h7 2; have f3 : w7.cell? ⟨w2.heap.size, 3, none⟩ = some q1 := cells_of h7 3; have f4 : w7.cell? ⟨w2.heap.size, 4, none⟩ = some q2 := cells_of h7 4; have f5 : w7.cell? ⟨w2.heap.size, 5, none⟩ = some (.string rl) := cells_of h7 5; have d7 : w7.heap[w.heap.size + 1]? = _ := (g7.block _ (by have := hE3.size; omega) (by simp; omega)).trans d2) | (refine wpL_storeRow (cells := #[.bool false, .string ⟨#[]⟩, q0, q1, q2, .string rl]) rfl 44 _ _ rfl Try.size44 rfl rfl d7 rfl (by simp [u0, u1, u2, str_one, bool_one]) ?_; intro w9 h9 g9))
      go_simp
      have z0 := cells_of h9 0
      have z1 := cells_of h9 1
      have z2 := cells_of h9 2
      have z3 := cells_of h9 3
      have z4 := cells_of h9 4
      have z5 := cells_of h9 5
      simp only [List.getElem?_toArray, List.getElem?_cons_zero, List.getElem?_cons_succ] at z0 z1 z2 z3 z4 z5
      refine bodyPost_ret (by simp [results, Try.results81, go_sem, z0, z1, z2, z3, z4, z5]; try rfl) rfl ?_
      exact hR'.out w9 [_, _, _, _, _, _] (((hE.trans hE3).grown g7 (fun k hk => by cases hk; omega)).grown g9 (fun k hk => by cases hk; omega)) ⟨[q0, q1, q2], rfl, hyX.out _ (((hE3.mv (w.heap.size :: (w.heap.size + 1) :: X) |>.more (Nat.le_refl _)).grown g7 (by intro k hk; cases hk; simp)).grown g9 (by intro k hk; cases hk; simp)), empty_sz, rsz⟩
  | some nm =>
    obtain ⟨nb, noff, rfl, nX, nlt, nc, nsz⟩ := hn'.out.str
    have nc2 := hE.keep nc
    cases rel with
    | none =>
      obtain rfl : pr = .pointer none := hl'.out
      go_wp2_with (refine wpL_storeRow (cells := #[.bool false, .string ⟨#[]⟩, q0, q1, q2, .string ⟨#[]⟩]) rfl 44 _ _ rfl Try.size44 rfl rfl (alloc_new _ _ rfl) rfl (by simp [u0, u1, u2, str_one, bool_one]) ?_; intro w3 h3 g3; have hE3 : Ext w2 w3 := ((Ext.refl w2).push _).grown g3 (fun k hk => by cases hk; exact Nat.le_refl _); have d1 : w3.heap[w.heap.size]? = _ := (hE3.below.block _ (by omega)).trans c1; have d2 : w3.heap[w.heap.size + 1]? = _ := (hE3.below.block _ (by omega)).trans c2; have f0 : w3.cell? ⟨w2.heap.size, 0, none⟩ = some (.bool false) := cells_of h3 0; have f1 : w3.cell? ⟨w2.heap.size, 1, none⟩ = some (.string ⟨#[]⟩) := cells_of h3 1; have f2 : w3.cell? ⟨w2.heap.size, 2, none⟩ = some q0 := cells_of h3 2; have f3 : w3.cell? ⟨w2.heap.size, 3, none⟩ = some q1 := cells_of h3 3; have f4 : w3.cell? ⟨w2.heap.size, 4, none⟩ = some q2 := cells_of h3 4; have f5 : w3.cell? ⟨w2.heap.size, 5, none⟩ = some (.string ⟨#[]⟩) := cells_of h3 5; have x0 : w3.cell? ⟨w.heap.size, 0, none⟩ = some (.pointer (some ⟨nb, noff, none⟩)) := cells_of d1 0; have x4 : w3.cell? ⟨w.heap.size, 4, none⟩ = some (.pointer none) := cells_of d1 4; have nc3 := hE3.keep nc2)
      refine wp_region_script [0, 1, 2, 3, 4, 6] [5] (fun w' => w'.cell? ⟨w.heap.size, 0, none⟩ = some (.pointer (some ⟨nb, noff, none⟩)) ∧ w'.cell? ⟨nb, noff, none⟩ = some (.string nm)) [(.pure, 0), (.read, 1), (.pure, 2), (.read, 3), (.pure, 4), (.one, 5), (.pure, 6), (.one, 7)] (by kernel_rfl) (by kernel_rfl) ?_
      have hC : w3.drew.cell? ⟨w.heap.size, 0, none⟩ = some (.pointer (some ⟨nb, noff, none⟩)) ∧ w3.drew.cell? ⟨nb, noff, none⟩ = some (.string nm) := ⟨x0, nc3⟩
      have hC' := Lib.hid hC
      clear hC
      iterate 5 (first | (apply scr_pure'; (· rfl); (· rfl); (· (intro w'; go_simp; try rfl)); (· (simp [go_sem]; try rfl))) | (apply scr_read'; (· rfl); (· rfl); (· exact hC'.out); (· (intro w' hw'; obtain ⟨g1_, g2_⟩ := hw'; go_simp; try rfl)); (· (simp [go_sem]; try rfl))))
      have h3d : w3.drew.heap[w2.heap.size]? = _ := h3
      refine scr_one rfl rfl (fun K hK => ?_)
      refine wp_store1 _ _ _ rfl Try.info4 (p := ⟨w2.heap.size, 0, none⟩) (v := .bool true) rfl rfl rfl (by rw [cells_of h3d 0]; rfl) (frozen_of_row _ _ _ _ _ h3d) ?_
      obtain ⟨h4, g4, -⟩ := set_facts (off := 0) (.bool true) h3d
      generalize w3.drew.setCell ⟨w2.heap.size, 0, none⟩ (.bool true) = w4 at h4 g4 ⊢
      have hk4 : ∀ {p : Addr} {v : Value}, p.block ≠ w2.heap.size → w3.cell? p = some v → w4.cell? p = some v := fun {p v} hne hc => by
        have hlt : p.block < w3.heap.size := by
          by_cases hlt : p.block < w3.heap.size
          · exact hlt
          · rw [World.cell?, Array.getElem?_eq_none (by omega)] at hc; simp at hc
        rw [World.cell?_of_block (w := w3) (g4.block _ hlt (fun e => hne (by simpa using e)))]
        exact hc
      refine hK _ _ (fun _ => ⟨hk4 (by simp; omega) x0, hk4 (by simp; have := hE.size; omega) nc3⟩) ?_
      clear hK hk4
      (apply scr_pure'; (· rfl); (· rfl); (· (intro w'; go_simp; try rfl)); (· (simp [go_sem]; try rfl)))
      refine scr_one rfl rfl (fun K hK => ?_)
      refine wp_store1 _ _ _ rfl Try.info9 (p := ⟨w2.heap.size, 1, none⟩) (v := .string nm) rfl rfl rfl (by rw [cells_of h4 1]; rfl) (frozen_of_row _ _ _ _ _ h4) ?_
      obtain ⟨h5, g5, -⟩ := set_facts (off := 1) (.string nm) h4
      generalize w4.setCell ⟨w2.heap.size, 1, none⟩ (.string nm) = w5 at h5 g5 ⊢
      refine hK _ _ (fun h => by simp at h) ?_
      clear hK
      refine scr_end ?_
      simp only [Exit.then]
      clear f0 f1 f2 f3 f4 f5
      have f0 : w5.cell? ⟨w2.heap.size, 0, none⟩ = some (.bool true) := cells_of h5 0
      have f1 : w5.cell? ⟨w2.heap.size, 1, none⟩ = some (.string nm) := cells_of h5 1
      have f2 : w5.cell? ⟨w2.heap.size, 2, none⟩ = some q0 := cells_of h5 2
      have f3 : w5.cell? ⟨w2.heap.size, 3, none⟩ = some q1 := cells_of h5 3
      have f4 : w5.cell? ⟨w2.heap.size, 4, none⟩ = some q2 := cells_of h5 4
      have f5 : w5.cell? ⟨w2.heap.size, 5, none⟩ = some (.string ⟨#[]⟩) := cells_of h5 5
      have hMM : Mut w3 [w2.heap.size] w5 := ((Ext.refl w3).drew.mut _).trans ((grown_mut g4 (by simp)).trans (grown_mut g5 (by simp)))
      have d5 : w5.heap[w.heap.size + 1]? = _ := (hMM.block _ (by have := hE3.size; omega) (by simp; omega)).trans d2
      have d5b : w5.heap[w.heap.size]? = _ := (hMM.block _ (by have := hE3.size; omega) (by simp; omega)).trans d1
      have y4 : w5.cell? ⟨w.heap.size, 4, none⟩ = some (.pointer none) := cells_of d5b 4
      go_wp2_with (first | (refine wpL_storeRow (cells := #[.bool true, .string nm, q0, q1, q2, .string ⟨#[]⟩]) rfl 44 _ _ rfl Try.size44 rfl rfl d5 rfl (by simp [u0, u1, u2, str_one, bool_one]) ?_; intro w9 h9 g9))
      go_simp
      have z0 := cells_of h9 0
      have z1 := cells_of h9 1
      have z2 := cells_of h9 2
      have z3 := cells_of h9 3
      have z4 := cells_of h9 4
      have z5 := cells_of h9 5
      simp only [List.getElem?_toArray, List.getElem?_cons_zero, List.getElem?_cons_succ] at z0 z1 z2 z3 z4 z5
      refine bodyPost_ret (by simp [results, Try.results81, go_sem, z0, z1, z2, z3, z4, z5]; try rfl) rfl ?_
      exact hR'.out w9 [_, _, _, _, _, _] (((hE.trans hE3).mutated hMM (by simp; omega)).grown g9 (fun k hk => by cases hk; omega)) ⟨[q0, q1, q2], rfl, hyX.out _ (((hE3.mv (w.heap.size :: (w.heap.size + 1) :: X) |>.more (Nat.le_refl _)).trans (hMM.mv (X := (w2.heap.size :: w.heap.size :: (w.heap.size + 1) :: X)) (by simp))).grown g9 (by intro k hk; cases hk; simp)), nsz, empty_sz⟩
    | some rl =>
      obtain ⟨rb, roff, rfl, rX, rlt, rc, rsz⟩ := hl'.out.str
      have rc2 := hE.keep rc
      go_wp2_with (refine wpL_storeRow (cells := #[.bool false, .string ⟨#[]⟩, q0, q1, q2, .string ⟨#[]⟩]) rfl 44 _ _ rfl Try.size44 rfl rfl (alloc_new _ _ rfl) rfl (by simp [u0, u1, u2, str_one, bool_one]) ?_; intro w3 h3 g3; have hE3 : Ext w2 w3 := ((Ext.refl w2).push _).grown g3 (fun k hk => by cases hk; exact Nat.le_refl _); have d1 : w3.heap[w.heap.size]? = _ := (hE3.below.block _ (by omega)).trans c1; have d2 : w3.heap[w.heap.size + 1]? = _ := (hE3.below.block _ (by omega)).trans c2; have f0 : w3.cell? ⟨w2.heap.size, 0, none⟩ = some (.bool false) := cells_of h3 0; have f1 : w3.cell? ⟨w2.heap.size, 1, none⟩ = some (.string ⟨#[]⟩) := cells_of h3 1; have f2 : w3.cell? ⟨w2.heap.size, 2, none⟩ = some q0 := cells_of h3 2; have f3 : w3.cell? ⟨w2.heap.size, 3, none⟩ = some q1 := cells_of h3 3; have f4 : w3.cell? ⟨w2.heap.size, 4, none⟩ = some q2 := cells_of h3 4; have f5 : w3.cell? ⟨w2.heap.size, 5, none⟩ = some (.string ⟨#[]⟩) := cells_of h3 5; have x0 : w3.cell? ⟨w.heap.size, 0, none⟩ = some (.pointer (some ⟨nb, noff, none⟩)) := cells_of d1 0; have x4 : w3.cell? ⟨w.heap.size, 4, none⟩ = some (.pointer (some ⟨rb, roff, none⟩)) := cells_of d1 4; have nc3 := hE3.keep nc2; have rc3 := hE3.keep rc2)
      refine wp_region_script [0, 1, 2, 3, 4, 6] [5] (fun w' => w'.cell? ⟨w.heap.size, 0, none⟩ = some (.pointer (some ⟨nb, noff, none⟩)) ∧ w'.cell? ⟨nb, noff, none⟩ = some (.string nm)) [(.pure, 0), (.read, 1), (.pure, 2), (.read, 3), (.pure, 4), (.one, 5), (.pure, 6), (.one, 7)] (by kernel_rfl) (by kernel_rfl) ?_
      have hC : w3.drew.cell? ⟨w.heap.size, 0, none⟩ = some (.pointer (some ⟨nb, noff, none⟩)) ∧ w3.drew.cell? ⟨nb, noff, none⟩ = some (.string nm) := ⟨x0, nc3⟩
      have hC' := Lib.hid hC
      clear hC
      iterate 5 (first | (apply scr_pure'; (· rfl); (· rfl); (· (intro w'; go_simp; try rfl)); (· (simp [go_sem]; try rfl))) | (apply scr_read'; (· rfl); (· rfl); (· exact hC'.out); (· (intro w' hw'; obtain ⟨g1_, g2_⟩ := hw'; go_simp; try rfl)); (· (simp [go_sem]; try rfl))))
      have h3d : w3.drew.heap[w2.heap.size]? = _ := h3
      refine scr_one rfl rfl (fun K hK => ?_)
      refine wp_store1 _ _ _ rfl Try.info4 (p := ⟨w2.heap.size, 0, none⟩) (v := .bool true) rfl rfl rfl (by rw [cells_of h3d 0]; rfl) (frozen_of_row _ _ _ _ _ h3d) ?_
      obtain ⟨h4, g4, -⟩ := set_facts (off := 0) (.bool true) h3d
      generalize w3.drew.setCell ⟨w2.heap.size, 0, none⟩ (.bool true) = w4 at h4 g4 ⊢
      have hk4 : ∀ {p : Addr} {v : Value}, p.block ≠ w2.heap.size → w3.cell? p = some v → w4.cell? p = some v := fun {p v} hne hc => by
        have hlt : p.block < w3.heap.size := by
          by_cases hlt : p.block < w3.heap.size
          · exact hlt
          · rw [World.cell?, Array.getElem?_eq_none (by omega)] at hc; simp at hc
        rw [World.cell?_of_block (w := w3) (g4.block _ hlt (fun e => hne (by simpa using e)))]
        exact hc
      refine hK _ _ (fun _ => ⟨hk4 (by simp; omega) x0, hk4 (by simp; have := hE.size; omega) nc3⟩) ?_
      clear hK hk4
      (apply scr_pure'; (· rfl); (· rfl); (· (intro w'; go_simp; try rfl)); (· (simp [go_sem]; try rfl)))
      refine scr_one rfl rfl (fun K hK => ?_)
      refine wp_store1 _ _ _ rfl Try.info9 (p := ⟨w2.heap.size, 1, none⟩) (v := .string nm) rfl rfl rfl (by rw [cells_of h4 1]; rfl) (frozen_of_row _ _ _ _ _ h4) ?_
      obtain ⟨h5, g5, -⟩ := set_facts (off := 1) (.string nm) h4
      generalize w4.setCell ⟨w2.heap.size, 1, none⟩ (.string nm) = w5 at h5 g5 ⊢
      refine hK _ _ (fun h => by simp at h) ?_
      clear hK
      refine scr_end ?_
      simp only [Exit.then]
      clear f0 f1 f2 f3 f4 f5
      have f0 : w5.cell? ⟨w2.heap.size, 0, none⟩ = some (.bool true) := cells_of h5 0
      have f1 : w5.cell? ⟨w2.heap.size, 1, none⟩ = some (.string nm) := cells_of h5 1
      have f2 : w5.cell? ⟨w2.heap.size, 2, none⟩ = some q0 := cells_of h5 2
      have f3 : w5.cell? ⟨w2.heap.size, 3, none⟩ = some q1 := cells_of h5 3
      have f4 : w5.cell? ⟨w2.heap.size, 4, none⟩ = some q2 := cells_of h5 4
      have f5 : w5.cell? ⟨w2.heap.size, 5, none⟩ = some (.string ⟨#[]⟩) := cells_of h5 5
      have hMM : Mut w3 [w2.heap.size] w5 := ((Ext.refl w3).drew.mut _).trans ((grown_mut g4 (by simp)).trans (grown_mut g5 (by simp)))
      have d5 : w5.heap[w.heap.size + 1]? = _ := (hMM.block _ (by have := hE3.size; omega) (by simp; omega)).trans d2
      have d5b : w5.heap[w.heap.size]? = _ := (hMM.block _ (by have := hE3.size; omega) (by simp; omega)).trans d1
      have y4 : w5.cell? ⟨w.heap.size, 4, none⟩ = some (.pointer (some ⟨rb, roff, none⟩)) := cells_of d5b 4
      have rc5 : w5.cell? ⟨rb, roff, none⟩ = some (.string rl) := by
        rw [World.cell?_of_block (w := w3) (hMM.block _ (by have := hE.size; have := hE3.size; show rb < _; omega) (by have := hE.size; simp; omega))]
        exact rc3
      go_wp2_with (first | (refine wpL_store1 rfl 9 _ _ rfl Try.info9 (p := ⟨w2.heap.size, 5, none⟩) (v := .string rl) rfl rfl rfl (by rw [cells_of h5 5]; rfl) (frozen_of_row _ _ _ _ _ h5) ?_; obtain ⟨h7, g7, -⟩ := set_facts (off := 5) (.string rl) h5; generalize w5.setCell ⟨w2.heap.size, 5, none⟩ (.string rl) = w7 at h7 g7 ⊢; clear f0 f1 f2 f3 f4 f5; have f0 : w7.cell? ⟨w2.heap.size, 0, none⟩ = some (.bool true) := cells_of h7 0; have f1 : w7.cell? ⟨w2.heap.size, 1, none⟩ = some (.string nm) := cells_of h7 1; have f2 : w7.cell? ⟨w2.heap.size, 2, none⟩ = some q0 := cells_of h7 2; have f3 : w7.cell? ⟨w2.heap.size, 3, none⟩ = some q1 := cells_of h7 3; have f4 : w7.cell? ⟨w2.heap.size, 4, none⟩ = some q2 := cells_of h7 4; have f5 : w7.cell? ⟨w2.heap.size, 5, none⟩ = some (.string rl) := cells_of h7 5; have d7 : w7.heap[w.heap.size + 1]? = _ := (g7.block _ (by have := hE3.size; have := hMM.size; omega) (by simp; omega)).trans d5) | (refine wpL_storeRow (cells := #[.bool true, .string nm, q0, q1, q2, .string rl]) rfl 44 _ _ rfl Try.size44 rfl rfl d7 rfl (by simp [u0, u1, u2, str_one, bool_one]) ?_; intro w9 h9 g9))
      go_simp
      have z0 := cells_of h9 0
      have z1 := cells_of h9 1
      have z2 := cells_of h9 2
      have z3 := cells_of h9 3
      have z4 := cells_of h9 4
      have z5 := cells_of h9 5
      simp only [List.getElem?_toArray, List.getElem?_cons_zero, List.getElem?_cons_succ] at z0 z1 z2 z3 z4 z5
      refine bodyPost_ret (by simp [results, Try.results81, go_sem, z0, z1, z2, z3, z4, z5]; try rfl) rfl ?_
      exact hR'.out w9 [_, _, _, _, _, _] ((((hE.trans hE3).mutated hMM (by simp; omega)).grown g7 (fun k hk => by cases hk; omega)).grown g9 (fun k hk => by cases hk; omega)) ⟨[q0, q1, q2], rfl, hyX.out _ ((((hE3.mv (w.heap.size :: (w.heap.size + 1) :: X) |>.more (Nat.le_refl _)).trans (hMM.mv (X := (w2.heap.size :: w.heap.size :: (w.heap.size + 1) :: X)) (by simp))).grown g7 (by intro k hk; cases hk; simp)).grown g9 (by intro k hk; cases hk; simp)), nsz, rsz⟩

end Go.Proofs.Ytmihdlbcjiaibaa
