/- sameAtom, zzFits10, kindOf, narrowed, DeduceAtom (narrowed's cases are printed by gen_deducec.py). -/
import Derived.Test.YtmihdlbcjiaibaaAlikeB
import Derived.Test.YtmihdlbcjiaibaaDeduceB
namespace Go.Proofs.Ytmihdlbcjiaibaa
open Go.RowKit

theorem atomsAlike_c {sf : Nat} {sv : V → V → Bool} (hf : SameFn sf sv) (d : Nat) : AtomsC sf sv d := by
  induction d with
  | zero => intro w cs ds a b ha; exact ha.elim
  | succ d ih => exact atoms_step hf ih

set_option maxRecDepth 100000 in
theorem sameFn_value : SameFn 19 svSame where
  enter := fun _ _ => rfl
  call := fun _ _ _ _ _ hv hu R hR => sameValue_c hv hu R hR

set_option maxRecDepth 100000 in
set_option maxHeartbeats 2000000 in
theorem sameAtom_c {d : Nat} {w : World} {cs ds : List Value} {a b : A} (ha : (kA d).is w [] cs a) (hb : (kA d).is w [] ds b) (R : Ending → World → Prop) (hR : Ends R w (.bool (aAlike svSame d a b))) :
    Calls Try.prog 22 #[.agg cs.toArray, .agg ds.toArray] w R := by
  obtain ⟨a0, a1, a2, rfl, o0, o1, o2⟩ := kA_three ha
  obtain ⟨b0, b1, b2, rfl, q0, q1, q2⟩ := kA_three hb
  have ha' := Lib.hid ha
  have hb' := Lib.hid hb
  have hR' := Lib.hid hR
  clear ha hb hR
  go_enter Try.func22, Try.ntmps22
  go_wp2_with fail
  refine atomsAlike_c sameFn_value d _ [a0, a1, a2] [b0, b1, b2] a b ((kA d).mv ha'.out (((Ext.alloc _ _).trans (Ext.alloc _ _)).mv _)) ((kA d).mv hb'.out (((Ext.alloc _ _).trans (Ext.alloc _ _)).mv _)) _ ?_
  intro w1 hE1
  dsimp only
  go_wp2_with fail
  exact hR'.out _ (((Ext.alloc _ _).trans (Ext.alloc _ _)).trans hE1)

set_option maxRecDepth 100000 in
set_option maxHeartbeats 2000000 in
theorem zzFits10_any {d : Nat} {w : World} {X : List Nat} {cs : List Value} {a : A} (ha : (kA (d + 1)).is w X cs a) (R : Ending → World → Prop) (hR : ∀ b, Ends R w (.bool b)) :
    Calls Try.prog 29 #[.agg cs.toArray] w R := by
  obtain ⟨s, ls, ms⟩ := a
  obtain ⟨vl, vm, rfl, -, hls, hms⟩ := ha
  obtain ⟨lo, lc, _, _, rfl, -⟩ := hls.ex
  obtain ⟨mo, mc, _, _, rfl, -⟩ := hms.ex
  have hR' := Lib.hid hR
  clear hR hls hms
  go_enter Try.func29, Try.ntmps29
  go_wp2_with fail
  all_goals exact hR'.out _ _ (.alloc _ _)

set_option maxRecDepth 100000 in
set_option maxHeartbeats 2000000 in
theorem kindOf_c {w : World} {X : List Nat} {cs : List Value} {v : V} (hv : IsV w X cs v) (R : Ending → World → Prop) (hR : Ends R w (.int .i64 (kk v.kindOf))) :
    Calls Try.prog 63 #[.agg cs.toArray] w R := by
  obtain ⟨k, n, f, s, keys, l⟩ := v
  obtain ⟨ko, kc, o, c, rfl, -⟩ := hv.inv
  have hR' : Hid (Ends R w (.int .i64 (kk k))) := Lib.hid hR
  clear hv hR
  by_cases e2 : k = 2
  · subst e2
    go_enter Try.func63, Try.ntmps63
    go_wp2_with fail
    exact hR'.out _ (.alloc _ _)
  by_cases e3 : k = 3
  · subst e3
    go_enter Try.func63, Try.ntmps63
    go_wp2_with fail
    exact hR'.out _ (.alloc _ _)
  by_cases e4 : k = 4
  · subst e4
    go_enter Try.func63, Try.ntmps63
    go_wp2_with fail
    exact hR'.out _ (.alloc _ _)
  by_cases e1 : k = 1
  · subst e1
    go_enter Try.func63, Try.ntmps63
    go_wp2_with fail
    exact hR'.out _ (.alloc _ _)
  by_cases e5 : k = 5
  · subst e5
    go_enter Try.func63, Try.ntmps63
    go_wp2_with fail
    exact hR'.out _ (.alloc _ _)
  by_cases e6 : k = 6
  · subst e6
    go_enter Try.func63, Try.ntmps63
    go_wp2_with fail
    exact hR'.out _ (.alloc _ _)
  have hk5 : kk k = 5 := by simp [kk, e1, e2, e3, e4, e5, e6]
  rw [hk5] at hR'
  have f1 : (k == 1) = false := by simpa using e1
  have f2 : (k == 2) = false := by simpa using e2
  have f3 : (k == 3) = false := by simpa using e3
  have f4 : (k == 4) = false := by simpa using e4
  have f5 : (k == 5) = false := by simpa using e5
  have f6 : (k == 6) = false := by simpa using e6
  go_enter Try.func63, Try.ntmps63
  go_wp2_with fail
  exact hR'.out _ (.alloc _ _)

theorem kk_range (k : Int) : kk k = 0 ∨ kk k = 1 ∨ kk k = 2 ∨ kk k = 3 ∨ kk k = 4 ∨ kk k = 5 := by
  unfold kk
  repeat' split
  all_goals simp

set_option maxRecDepth 100000 in
set_option maxHeartbeats 4000000 in
set_option pp.maxSteps 1000000 in
set_option pp.deepTerms true in
theorem doorDeduce_c {d : Nat} {w : World} {X : List Nat} {cs : List Value} {a : SA} {v : Value} {t : T} (ha : (ksA (d + 1)).is w X cs a) (hv : IsVal w X v t) (hX : Old X w) (R : Ending → World → Prop)
    (hR : ∀ w' cs', Ext w w' → (ksA (d + 1)).is w' X cs' (ddS t a) → R (.returned (.agg cs'.toArray)) w') : Calls Try.prog 61 #[.agg cs.toArray, v] w R := by
  have ha' := Lib.hid ha
  obtain ⟨s, l, m⟩ := a
  obtain ⟨ps, pl, pm, rfl, hs, hl, hm⟩ := ha
  have po := hs.one
  have pl1 := hl.one
  have pm1 := hm.one
  have hv' := Lib.hid hv
  have hX' := Lib.hid hX
  have hR' := Lib.hid hR
  clear hs hl hm hR hv hX
  go_enter Try.func61, Try.ntmps61
  go_wp2_with fail
  refine abs2 (G := fun wr => Calls _ _ _ wr _) ?_
  intro w1 hE1 hb1 hz hs1
  have hO : Old ((w.heap.size + 1) :: X) w1 := .cons (by omega) (hX'.out.le hE1.size)
  refine deduceAtom_c (X := (w.heap.size + 1) :: X) (d := d) (a := .mk s l m) (t := t) ((ksA (d + 1)).mv ha'.out ((hE1.mv X).more (by omega))) (hv'.out.mv ((hE1.mv X).more (by omega))) _ ?_
  intro wk cs' hE2 hcs
  have hE := hE1.trans hE2
  replace hz := (hE2.below.block _ (by omega)).trans hz
  obtain ⟨c0, c1, c2, rfl, q0, q1, q2⟩ := ksA_three hcs
  have hcs' := Lib.hid hcs
  clear hcs hb1
  dsimp only
  go_wp2_with (refine wpL_storeRow (cells := #[c0, c1, c2]) rfl 101 _ _ rfl Try.size101 rfl rfl hz rfl (by simp [q0, q1, q2]) ?_; intro w6 h6 g6)
  go_simp
  have z0 : w6.cell? ⟨w.heap.size + 1, 0, none⟩ = some c0 := cells_of h6 0
  have z1 : w6.cell? ⟨w.heap.size + 1, 1, none⟩ = some c1 := cells_of h6 1
  have z2 : w6.cell? ⟨w.heap.size + 1, 2, none⟩ = some c2 := cells_of h6 2
  refine bodyPost_ret (by simp [results, Try.results61, go_sem, z0, z1, z2]; try rfl) rfl ?_
  have hm : Mv wk ((w.heap.size + 1) :: X) w6 X := ((Mv.refl _ _).grown g6 (by intro k hk; cases hk; simp)).less fun b hb => by simp [hb]
  exact hR'.out w6 [c0, c1, c2] (hE.grown g6 (fun k hk => by cases hk; omega)) ((ksA (d + 1)).mv hcs'.out hm)

set_option maxRecDepth 100000 in
set_option maxHeartbeats 8000000 in
set_option pp.maxSteps 1000000 in
set_option pp.deepTerms true in
theorem narrowed_c {d : Nat} {w : World} {X : List Nat} {cs ds : List Value} {a : A} {v : V} (ha : (kA (d + 1)).is w X cs a) (hv : IsV w X ds v) (hX : Old X w) (R : Ending → World → Prop)
    (hR : ∀ w' cs', Ext w w' → (kA (d + 1)).is w' X cs' (nwA (kk v.clean.kindOf) a) → R (.returned (.agg cs'.toArray)) w') : Calls Try.prog 31 #[.agg cs.toArray, .agg ds.toArray] w R := by
  obtain ⟨s, ls, ms⟩ := a
  obtain ⟨vl, vm, rfl, hsz, hls, hms⟩ := ha
  obtain ⟨lo, lc, _, _, rfl, lcc, -⟩ := id hls.ex
  obtain ⟨mo, mc, _, _, rfl, mcc, -⟩ := id hms.ex
  obtain ⟨x, rfl⟩ := hv.shape
  have hlo := hls.one
  have hmo := hms.one
  have hv' := Lib.hid hv
  have hX' := Lib.hid hX
  have hR' := Lib.hid hR
  have hls' := Lib.hid hls
  have hms' := Lib.hid hms
  have hcc := Lib.hid lcc
  have hcd := Lib.hid mcc
  clear hR hv hX hls hms lcc mcc
  simp only [Cells6.list]
  go_enter Try.func31, Try.ntmps31
  go_wp2_with fail
  refine abs3 (G := fun wr => Calls _ _ _ wr _) ?_
  intro w1 hE1 hb1 hb2 hz hs1
  have hO : Old ((w.heap.size + 2) :: X) w1 := .cons (by omega) (hX'.out.le hE1.size)
  have hM := (hE1.mv X).more (n := w.heap.size + 2) (by omega)
  refine clean_all v w1 ((w.heap.size + 2) :: X) x.list (hv'.out.mv hM) hO _ ?_
  intro w2 cs2 hE2 hcs
  obtain ⟨y, rfl⟩ := hcs.shape
  have hcs' := Lib.hid hcs
  clear hcs
  dsimp only
  simp only [Cells6.list]
  go_wp2_with fail
  refine kindOf_c (cs := y.list) hcs'.out _ ?_
  intro wk hE3
  have hE23 := hE2.trans hE3
  have hE := hE1.trans hE23
  replace hz := (hE23.below.block _ (by omega)).trans hz
  have a0 : wk.cell? ⟨w.heap.size, 0, none⟩ = some (.string s) := hE23.keep (cells_of hb1 0)
  have a1 : wk.cell? ⟨w.heap.size, 1, none⟩ = some (.slice lo ls.length lc) := hE23.keep (cells_of hb1 1)
  have a2 : wk.cell? ⟨w.heap.size, 2, none⟩ = some (.slice mo ms.length mc) := hE23.keep (cells_of hb1 2)
  have hM2 := hM.trans (hE23.mv _)
  replace hls' := Lib.hid (hls'.out.mv hM2 (by simp [kLt]))
  replace hms' := Lib.hid (hms'.out.mv hM2 (by simp [kMt]))
  clear hb1 hb2 hs1 hM hM2 hcs'
  have hk6 := kk_range v.clean.kindOf
  generalize kk v.clean.kindOf = k at *
  dsimp only
  rcases hk6 with rfl | rfl | rfl | rfl | rfl | rfl
  · cases hse : s.toList.isEmpty
    · have he := empty_ne hse
      go_wp2_with (refine wpL_storeRow (cells := #[.string s, .slice none 0 0, .slice none 0 0]) rfl 42 _ _ rfl Try.size42 rfl rfl hz rfl (by simp [str_one, slice_one]) ?_; intro w6 h6 g6)
      go_simp
      have z0 : w6.cell? ⟨w.heap.size + 2, 0, none⟩ = some (.string s) := cells_of h6 0
      have z1 : w6.cell? ⟨w.heap.size + 2, 1, none⟩ = some (.slice none 0 0) := cells_of h6 1
      have z2 : w6.cell? ⟨w.heap.size + 2, 2, none⟩ = some (.slice none 0 0) := cells_of h6 2
      refine bodyPost_ret (by simp [results, Try.results31, go_sem, z0, z1, z2]; try rfl) rfl ?_
      have hm : Mv wk ((w.heap.size + 2) :: X) w6 X := ((Mv.refl _ _).grown g6 (by intro k hk; cases hk; simp)).less fun b hb => by simp [hb]
      have hEz := hE.grown g6 (fun k hk => by cases hk; omega)
      refine hR'.out w6 [.string s, .slice none 0 0, .slice none 0 0] hEz ?_
      · rw [show nwA 0 (A.mk s ls ms) = A.mk s [] [] from by simp [nwA, he]]; exact ⟨_, _, rfl, hsz, IsSl.nil _ _ _ _, IsSl.nil _ _ _ _⟩
    · obtain rfl := empty_eq hse
      go_wp2_with (refine wpL_storeRow (cells := #[.string ⟨#[]⟩, .slice lo ls.length lc, .slice mo ms.length mc]) rfl 42 _ _ rfl Try.size42 rfl rfl hz rfl (by simp [hlo, hmo, str_one]) ?_; intro w6 h6 g6)
      go_simp
      have z0 : w6.cell? ⟨w.heap.size + 2, 0, none⟩ = some (.string ⟨#[]⟩) := cells_of h6 0
      have z1 : w6.cell? ⟨w.heap.size + 2, 1, none⟩ = some (.slice lo ls.length lc) := cells_of h6 1
      have z2 : w6.cell? ⟨w.heap.size + 2, 2, none⟩ = some (.slice mo ms.length mc) := cells_of h6 2
      refine bodyPost_ret (by simp [results, Try.results31, go_sem, z0, z1, z2]; try rfl) rfl ?_
      have hm : Mv wk ((w.heap.size + 2) :: X) w6 X := ((Mv.refl _ _).grown g6 (by intro k hk; cases hk; simp)).less fun b hb => by simp [hb]
      have hEz := hE.grown g6 (fun k hk => by cases hk; omega)
      refine hR'.out w6 [.string ⟨#[]⟩, .slice lo ls.length lc, .slice mo ms.length mc] hEz ?_
      · rw [show nwA 0 (A.mk ⟨#[]⟩ ls ms) = A.mk ⟨#[]⟩ ls ms from by simp [nwA]]; exact ⟨_, _, rfl, hsz, hls'.out.mv hm (by simp [kLt]), hms'.out.mv hm (by simp [kMt])⟩
  · cases hse : s.toList.isEmpty
    · have he := empty_ne hse
      go_wp2_with (refine wpL_storeRow (cells := #[.string s, .slice none 0 0, .slice none 0 0]) rfl 42 _ _ rfl Try.size42 rfl rfl hz rfl (by simp [str_one, slice_one]) ?_; intro w6 h6 g6)
      go_simp
      have z0 : w6.cell? ⟨w.heap.size + 2, 0, none⟩ = some (.string s) := cells_of h6 0
      have z1 : w6.cell? ⟨w.heap.size + 2, 1, none⟩ = some (.slice none 0 0) := cells_of h6 1
      have z2 : w6.cell? ⟨w.heap.size + 2, 2, none⟩ = some (.slice none 0 0) := cells_of h6 2
      refine bodyPost_ret (by simp [results, Try.results31, go_sem, z0, z1, z2]; try rfl) rfl ?_
      have hm : Mv wk ((w.heap.size + 2) :: X) w6 X := ((Mv.refl _ _).grown g6 (by intro k hk; cases hk; simp)).less fun b hb => by simp [hb]
      have hEz := hE.grown g6 (fun k hk => by cases hk; omega)
      refine hR'.out w6 [.string s, .slice none 0 0, .slice none 0 0] hEz ?_
      · rw [show nwA 1 (A.mk s ls ms) = A.mk s [] [] from by simp [nwA, he]]; exact ⟨_, _, rfl, hsz, IsSl.nil _ _ _ _, IsSl.nil _ _ _ _⟩
    · obtain rfl := empty_eq hse
      go_wp2_with (refine wpL_storeRow (cells := #[.string ⟨#[]⟩, .slice lo ls.length lc, .slice mo ms.length mc]) rfl 42 _ _ rfl Try.size42 rfl rfl hz rfl (by simp [hlo, hmo, str_one]) ?_; intro w6 h6 g6)
      go_simp
      have z0 : w6.cell? ⟨w.heap.size + 2, 0, none⟩ = some (.string ⟨#[]⟩) := cells_of h6 0
      have z1 : w6.cell? ⟨w.heap.size + 2, 1, none⟩ = some (.slice lo ls.length lc) := cells_of h6 1
      have z2 : w6.cell? ⟨w.heap.size + 2, 2, none⟩ = some (.slice mo ms.length mc) := cells_of h6 2
      refine bodyPost_ret (by simp [results, Try.results31, go_sem, z0, z1, z2]; try rfl) rfl ?_
      have hm : Mv wk ((w.heap.size + 2) :: X) w6 X := ((Mv.refl _ _).grown g6 (by intro k hk; cases hk; simp)).less fun b hb => by simp [hb]
      have hEz := hE.grown g6 (fun k hk => by cases hk; omega)
      refine hR'.out w6 [.string ⟨#[]⟩, .slice lo ls.length lc, .slice mo ms.length mc] hEz ?_
      · rw [show nwA 1 (A.mk ⟨#[]⟩ ls ms) = A.mk ⟨#[]⟩ ls ms from by simp [nwA]]; exact ⟨_, _, rfl, hsz, hls'.out.mv hm (by simp [kLt]), hms'.out.mv hm (by simp [kMt])⟩
  · cases hse : s.toList.isEmpty
    · have he := empty_ne hse
      go_wp2_with (refine wpL_storeRow (cells := #[.string s, .slice none 0 0, .slice none 0 0]) rfl 42 _ _ rfl Try.size42 rfl rfl hz rfl (by simp [str_one, slice_one]) ?_; intro w6 h6 g6)
      go_simp
      have z0 : w6.cell? ⟨w.heap.size + 2, 0, none⟩ = some (.string s) := cells_of h6 0
      have z1 : w6.cell? ⟨w.heap.size + 2, 1, none⟩ = some (.slice none 0 0) := cells_of h6 1
      have z2 : w6.cell? ⟨w.heap.size + 2, 2, none⟩ = some (.slice none 0 0) := cells_of h6 2
      refine bodyPost_ret (by simp [results, Try.results31, go_sem, z0, z1, z2]; try rfl) rfl ?_
      have hm : Mv wk ((w.heap.size + 2) :: X) w6 X := ((Mv.refl _ _).grown g6 (by intro k hk; cases hk; simp)).less fun b hb => by simp [hb]
      have hEz := hE.grown g6 (fun k hk => by cases hk; omega)
      refine hR'.out w6 [.string s, .slice none 0 0, .slice none 0 0] hEz ?_
      · rw [show nwA 2 (A.mk s ls ms) = A.mk s [] [] from by simp [nwA, he]]; exact ⟨_, _, rfl, hsz, IsSl.nil _ _ _ _, IsSl.nil _ _ _ _⟩
    · obtain rfl := empty_eq hse
      go_wp2_with (refine wpL_storeRow (cells := #[.string ⟨#[]⟩, .slice lo ls.length lc, .slice mo ms.length mc]) rfl 42 _ _ rfl Try.size42 rfl rfl hz rfl (by simp [hlo, hmo, str_one]) ?_; intro w6 h6 g6)
      go_simp
      have z0 : w6.cell? ⟨w.heap.size + 2, 0, none⟩ = some (.string ⟨#[]⟩) := cells_of h6 0
      have z1 : w6.cell? ⟨w.heap.size + 2, 1, none⟩ = some (.slice lo ls.length lc) := cells_of h6 1
      have z2 : w6.cell? ⟨w.heap.size + 2, 2, none⟩ = some (.slice mo ms.length mc) := cells_of h6 2
      refine bodyPost_ret (by simp [results, Try.results31, go_sem, z0, z1, z2]; try rfl) rfl ?_
      have hm : Mv wk ((w.heap.size + 2) :: X) w6 X := ((Mv.refl _ _).grown g6 (by intro k hk; cases hk; simp)).less fun b hb => by simp [hb]
      have hEz := hE.grown g6 (fun k hk => by cases hk; omega)
      refine hR'.out w6 [.string ⟨#[]⟩, .slice lo ls.length lc, .slice mo ms.length mc] hEz ?_
      · rw [show nwA 2 (A.mk ⟨#[]⟩ ls ms) = A.mk ⟨#[]⟩ ls ms from by simp [nwA]]; exact ⟨_, _, rfl, hsz, hls'.out.mv hm (by simp [kLt]), hms'.out.mv hm (by simp [kMt])⟩
  · cases ls with
    | nil =>
      go_wp2_with (refine wpL_storeRow (cells := #[.string s, .slice lo ([] : List (LtOf A)).length lc, .slice mo ms.length mc]) rfl 42 _ _ rfl Try.size42 rfl rfl hz rfl (by simp [hmo, str_one, slice_one]) ?_; intro w6 h6 g6)
      go_simp
      have z0 : w6.cell? ⟨w.heap.size + 2, 0, none⟩ = some (.string s) := cells_of h6 0
      have z1 : w6.cell? ⟨w.heap.size + 2, 1, none⟩ = some (.slice lo ([] : List (LtOf A)).length lc) := cells_of h6 1
      have z2 : w6.cell? ⟨w.heap.size + 2, 2, none⟩ = some (.slice mo ms.length mc) := cells_of h6 2
      refine bodyPost_ret (by simp [results, Try.results31, go_sem, z0, z1, z2]; try rfl) rfl ?_
      have hm : Mv wk ((w.heap.size + 2) :: X) w6 X := ((Mv.refl _ _).grown g6 (by intro k hk; cases hk; simp)).less fun b hb => by simp [hb]
      have hEz := hE.grown g6 (fun k hk => by cases hk; omega)
      refine hR'.out w6 [.string s, .slice lo ([] : List (LtOf A)).length lc, .slice mo ms.length mc] hEz ?_
      · rw [show nwA 3 (A.mk s [] ms) = A.mk s [] ms from by simp [nwA]]; exact ⟨_, _, rfl, hsz, hls'.out.mv hm (by simp [kLt]), hms'.out.mv hm (by simp [kMt])⟩
    | cons l ls =>
      have hc1 : 1 ≤ lc := by have := hcc.out; simp at this; omega
      have hc2 : (1 : Int) ≤ (lc : Int) := by omega
      have hg0 : (0 : Int) < ((l :: ls).length : Int) := by simp
      go_wp2_with (refine wpL_storeRow (cells := #[.string ⟨#[]⟩, .slice lo 1 lc, .slice none 0 0]) rfl 42 _ _ rfl Try.size42 rfl rfl hz rfl (by simp [str_one, slice_one]) ?_; intro w6 h6 g6)
      go_simp
      have z0 : w6.cell? ⟨w.heap.size + 2, 0, none⟩ = some (.string ⟨#[]⟩) := cells_of h6 0
      have z1 : w6.cell? ⟨w.heap.size + 2, 1, none⟩ = some (.slice lo 1 lc) := cells_of h6 1
      have z2 : w6.cell? ⟨w.heap.size + 2, 2, none⟩ = some (.slice none 0 0) := cells_of h6 2
      refine bodyPost_ret (by simp [results, Try.results31, go_sem, z0, z1, z2]; try rfl) rfl ?_
      have hm : Mv wk ((w.heap.size + 2) :: X) w6 X := ((Mv.refl _ _).grown g6 (by intro k hk; cases hk; simp)).less fun b hb => by simp [hb]
      have hEz := hE.grown g6 (fun k hk => by cases hk; omega)
      refine hR'.out w6 [.string ⟨#[]⟩, .slice lo 1 lc, .slice none 0 0] hEz ?_
      · rw [show nwA 3 (A.mk s (l :: ls) ms) = A.mk ⟨#[]⟩ [l] [] from by simp [nwA]]; exact ⟨_, _, rfl, Nat.zero_le _, (hls'.out.mv hm (by simp [kLt])).take1, IsSl.nil _ _ _ _⟩
  · cases ms with
    | nil =>
      go_wp2_with (refine wpL_storeRow (cells := #[.string s, .slice lo ls.length lc, .slice mo ([] : List (MtOf A)).length mc]) rfl 42 _ _ rfl Try.size42 rfl rfl hz rfl (by simp [hlo, str_one, slice_one]) ?_; intro w6 h6 g6)
      go_simp
      have z0 : w6.cell? ⟨w.heap.size + 2, 0, none⟩ = some (.string s) := cells_of h6 0
      have z1 : w6.cell? ⟨w.heap.size + 2, 1, none⟩ = some (.slice lo ls.length lc) := cells_of h6 1
      have z2 : w6.cell? ⟨w.heap.size + 2, 2, none⟩ = some (.slice mo ([] : List (MtOf A)).length mc) := cells_of h6 2
      refine bodyPost_ret (by simp [results, Try.results31, go_sem, z0, z1, z2]; try rfl) rfl ?_
      have hm : Mv wk ((w.heap.size + 2) :: X) w6 X := ((Mv.refl _ _).grown g6 (by intro k hk; cases hk; simp)).less fun b hb => by simp [hb]
      have hEz := hE.grown g6 (fun k hk => by cases hk; omega)
      refine hR'.out w6 [.string s, .slice lo ls.length lc, .slice mo ([] : List (MtOf A)).length mc] hEz ?_
      · rw [show nwA 4 (A.mk s ls []) = A.mk s ls [] from by simp [nwA]]; exact ⟨_, _, rfl, hsz, hls'.out.mv hm (by simp [kLt]), hms'.out.mv hm (by simp [kMt])⟩
    | cons l ms =>
      have hc1 : 1 ≤ mc := by have := hcd.out; simp at this; omega
      have hc2 : (1 : Int) ≤ (mc : Int) := by omega
      have hg0 : (0 : Int) < ((l :: ms).length : Int) := by simp
      go_wp2_with (refine wpL_storeRow (cells := #[.string ⟨#[]⟩, .slice none 0 0, .slice mo 1 mc]) rfl 42 _ _ rfl Try.size42 rfl rfl hz rfl (by simp [str_one, slice_one]) ?_; intro w6 h6 g6)
      go_simp
      have z0 : w6.cell? ⟨w.heap.size + 2, 0, none⟩ = some (.string ⟨#[]⟩) := cells_of h6 0
      have z1 : w6.cell? ⟨w.heap.size + 2, 1, none⟩ = some (.slice none 0 0) := cells_of h6 1
      have z2 : w6.cell? ⟨w.heap.size + 2, 2, none⟩ = some (.slice mo 1 mc) := cells_of h6 2
      refine bodyPost_ret (by simp [results, Try.results31, go_sem, z0, z1, z2]; try rfl) rfl ?_
      have hm : Mv wk ((w.heap.size + 2) :: X) w6 X := ((Mv.refl _ _).grown g6 (by intro k hk; cases hk; simp)).less fun b hb => by simp [hb]
      have hEz := hE.grown g6 (fun k hk => by cases hk; omega)
      refine hR'.out w6 [.string ⟨#[]⟩, .slice none 0 0, .slice mo 1 mc] hEz ?_
      · rw [show nwA 4 (A.mk s ls (l :: ms)) = A.mk ⟨#[]⟩ [] [l] from by simp [nwA]]; exact ⟨_, _, rfl, Nat.zero_le _, IsSl.nil _ _ _ _, (hms'.out.mv hm (by simp [kMt])).take1⟩
  ·
    go_wp2_with (refine wpL_storeRow (cells := #[.string s, .slice lo ls.length lc, .slice mo ms.length mc]) rfl 42 _ _ rfl Try.size42 rfl rfl hz rfl (by simp [hlo, hmo, str_one]) ?_; intro w6 h6 g6)
    go_simp
    have z0 : w6.cell? ⟨w.heap.size + 2, 0, none⟩ = some (.string s) := cells_of h6 0
    have z1 : w6.cell? ⟨w.heap.size + 2, 1, none⟩ = some (.slice lo ls.length lc) := cells_of h6 1
    have z2 : w6.cell? ⟨w.heap.size + 2, 2, none⟩ = some (.slice mo ms.length mc) := cells_of h6 2
    refine bodyPost_ret (by simp [results, Try.results31, go_sem, z0, z1, z2]; try rfl) rfl ?_
    have hm : Mv wk ((w.heap.size + 2) :: X) w6 X := ((Mv.refl _ _).grown g6 (by intro k hk; cases hk; simp)).less fun b hb => by simp [hb]
    have hEz := hE.grown g6 (fun k hk => by cases hk; omega)
    refine hR'.out w6 [.string s, .slice lo ls.length lc, .slice mo ms.length mc] hEz ?_
    · rw [show nwA 5 (A.mk s ls ms) = A.mk s ls ms from by simp [nwA]]; exact ⟨_, _, rfl, hsz, hls'.out.mv hm (by simp [kLt]), hms'.out.mv hm (by simp [kMt])⟩

end Go.Proofs.Ytmihdlbcjiaibaa
