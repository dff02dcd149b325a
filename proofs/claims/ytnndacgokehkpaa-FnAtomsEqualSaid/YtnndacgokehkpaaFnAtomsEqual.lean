/- For all types, the law FnAtomsEqual returns true: where it applies, EqualAtoms says just whether the two types are written alike; no condition beside the law's own. -/
import Derived.Test.YtnndacgokehkpaaAtomsL
import Derived.Test.YtnndacgokehkpaaAlikeB
import Derived.Test.YtnndacgokehkpaaRead
import Derived.Test.YtnndacgokehkpaaLaw
namespace Go.Proofs.Ytnndacgokehkpaa
open Go.ChangeShapes Go.WideShapes Go.ChangeAt Go.RowKit

theorem atomsAlike_e {sf : Nat} {sv : V → V → Bool} (hf : SameFn sf sv) (d : Nat) : AtomsC sf sv d := by
  induction d with
  | zero => intro w cs ds a b ha; exact ha.elim
  | succ d ih => exact atoms_step hf ih

set_option maxRecDepth 100000 in
set_option maxHeartbeats 2000000 in
theorem zzFits10_e {d : Nat} {w : World} {X : List Nat} {cs : List Value} {a : A} (ha : (kA (d + 1)).is w X cs a) (R : Ending → World → Prop) (hR : ∀ b, Ends R w (.bool b)) :
    Calls Try.prog 9 #[.agg cs.toArray] w R := by
  obtain ⟨s, ls, ms⟩ := a
  obtain ⟨vl, vm, rfl, -, hls, hms⟩ := ha
  obtain ⟨lo, lc, _, _, rfl, -⟩ := hls.ex
  obtain ⟨mo, mc, _, _, rfl, -⟩ := hms.ex
  have hR' := Lib.hid hR
  clear hR hls hms
  go_enter Try.func9, Try.ntmps9
  go_wp2_with fail
  all_goals exact hR'.out _ _ (.alloc _ _)


set_option maxRecDepth 100000 in
set_option maxHeartbeats 8000000 in
set_option pp.maxSteps 1000000 in
set_option pp.deepTerms true in
theorem fnAtomsEqual_law {d : Nat} {w : World} {cs ds : List Value} {a b : A} (ha : (kA (d + 1)).is w [] cs a) (hb : (kA (d + 1)).is w [] ds b) :
    Calls Try.prog 4 #[.agg cs.toArray, .agg ds.toArray] w fun e w' => e = .returned (.bool true) ∧ Below w.heap.size w w' := by
  suffices h : ∀ R : Ending → World → Prop, Ends R w (.bool true) → Calls Try.prog 4 #[.agg cs.toArray, .agg ds.toArray] w R from h _ (fun w' hE => ⟨rfl, hE⟩)
  intro R hR
  obtain ⟨a0, a1, a2, rfl, o0, o1, o2⟩ := kA_three ha
  obtain ⟨b0, b1, b2, rfl, u0, u1, u2⟩ := kA_three hb
  have ha' := Lib.hid ha
  have hb' := Lib.hid hb
  have hR' := Lib.hid hR
  clear hR ha hb
  go_enter Try.func4, Try.ntmps4
  go_wp2_with fail
  refine abs2 (G := fun wr => Calls _ _ _ wr _) ?_
  intro w1 hE1 hb1 hb2 hs1
  have c0 : w1.cell? ⟨w.heap.size, 0, none⟩ = some (a0) := cells_of hb1 0; have c1 : w1.cell? ⟨w.heap.size, 1, none⟩ = some (a1) := cells_of hb1 1; have c2 : w1.cell? ⟨w.heap.size, 2, none⟩ = some (a2) := cells_of hb1 2
  have e0 : w1.cell? ⟨w.heap.size + 1, 0, none⟩ = some (b0) := cells_of hb2 0; have e1 : w1.cell? ⟨w.heap.size + 1, 1, none⟩ = some (b1) := cells_of hb2 1; have e2 : w1.cell? ⟨w.heap.size + 1, 2, none⟩ = some (b2) := cells_of hb2 2
  clear hb1 hb2 hs1
  refine zzFits10_e (d := d) (X := []) (a := a) (cs := [a0, a1, a2]) ((kA (d + 1)).mv ha'.out (hE1.mv _)) _ ?_
  intro t1 w2 hE2
  replace c0 := hE2.keep c0; replace c1 := hE2.keep c1; replace c2 := hE2.keep c2; replace e0 := hE2.keep e0; replace e1 := hE2.keep e1; replace e2 := hE2.keep e2
  replace hE1 := hE1.trans hE2
  clear hE2
  dsimp only
  cases t1
  · go_wp2_with fail
    exact hR'.out _ hE1
  go_wp2_with fail
  refine zzFits10_e (d := d) (X := []) (a := b) (cs := [b0, b1, b2]) ((kA (d + 1)).mv hb'.out (hE1.mv _)) _ ?_
  intro t2 w3 hE3
  replace c0 := hE3.keep c0; replace c1 := hE3.keep c1; replace c2 := hE3.keep c2; replace e0 := hE3.keep e0; replace e1 := hE3.keep e1; replace e2 := hE3.keep e2
  replace hE1 := hE1.trans hE3
  clear hE3
  dsimp only
  cases t2
  · go_wp2_with fail
    exact hR'.out _ hE1
  go_wp2_with fail
  refine defined_any (d + 1) _ [] [a0, a1, a2] a 20 ((kA (d + 1)).mv ha'.out (hE1.mv _)) (by omega) (by omega) _ ?_
  intro w4 t3 hE4
  replace c0 := hE4.keep c0; replace c1 := hE4.keep c1; replace c2 := hE4.keep c2; replace e0 := hE4.keep e0; replace e1 := hE4.keep e1; replace e2 := hE4.keep e2
  replace hE1 := hE1.trans hE4
  clear hE4
  dsimp only
  cases t3
  · go_wp2_with fail
    exact hR'.out _ hE1
  go_wp2_with fail
  refine defined_any (d + 1) _ [] [b0, b1, b2] b 20 ((kA (d + 1)).mv hb'.out (hE1.mv _)) (by omega) (by omega) _ ?_
  intro w5 t4 hE5
  replace c0 := hE5.keep c0; replace c1 := hE5.keep c1; replace c2 := hE5.keep c2; replace e0 := hE5.keep e0; replace e1 := hE5.keep e1; replace e2 := hE5.keep e2
  replace hE1 := hE1.trans hE5
  clear hE5
  dsimp only
  cases t4
  · go_wp2_with fail
    exact hR'.out _ hE1
  go_wp2_with fail
  refine bare_c (d + 1) _ [] [a0, a1, a2] a 20 ((kA (d + 1)).mv ha'.out (hE1.mv _)) (by omega) (by omega) _ ?_
  intro w6 t5 hE6 hp
  have hp' := Lib.hid hp
  replace c0 := hE6.keep c0; replace c1 := hE6.keep c1; replace c2 := hE6.keep c2; replace e0 := hE6.keep e0; replace e1 := hE6.keep e1; replace e2 := hE6.keep e2
  replace hE1 := hE1.trans hE6
  clear hE6 hp
  dsimp only
  cases t5
  · go_wp2_with fail
    exact hR'.out _ hE1
  go_wp2_with fail
  refine bare_c (d + 1) _ [] [b0, b1, b2] b 20 ((kA (d + 1)).mv hb'.out (hE1.mv _)) (by omega) (by omega) _ ?_
  intro w7 t6 hE7 hq
  have hq' := Lib.hid hq
  replace c0 := hE7.keep c0; replace c1 := hE7.keep c1; replace c2 := hE7.keep c2; replace e0 := hE7.keep e0; replace e1 := hE7.keep e1; replace e2 := hE7.keep e2
  replace hE1 := hE1.trans hE7
  clear hE7 hq
  dsimp only
  cases t6
  · go_wp2_with fail
    exact hR'.out _ hE1
  have p1 : BareP (d + 1) a := hp'.out (by trivial)
  have p2 : BareP (d + 1) b := hq'.out (by trivial)
  have q1 := Lib.hid (bare_law (d + 1) a p1)
  have q2 := Lib.hid (bare_law (d + 1) b p2)
  have hl := Lib.hid (atoms_law (d + 1) a b p1 p2)
  clear hp' hq' p1 p2
  go_wp2_with fail
  refine wp_region_script [0, 1, 3, 4, 6, 7] [2] (fun w' => Ext w7 w') [(.read, 0), (.read, 1), (.read, 3), (.read, 4), (.one, 2), (.one, 5), (.pure, 6), (.pure, 7)] (by kernel_rfl) (by kernel_rfl) ?_
  (apply scr_read'; (· rfl); (· rfl); (· first | exact hC | exact (Ext.refl _).drew); (· (intro w' hw'; have c0_ := hw'.keep c0; have c1_ := hw'.keep c1; have c2_ := hw'.keep c2; have e0_ := hw'.keep e0; have e1_ := hw'.keep e1; have e2_ := hw'.keep e2; go_simp; try rfl)); (· (simp [go_sem]; try rfl)))
  (apply scr_read'; (· rfl); (· rfl); (· first | exact hC | exact (Ext.refl _).drew); (· (intro w' hw'; have c0_ := hw'.keep c0; have c1_ := hw'.keep c1; have c2_ := hw'.keep c2; have e0_ := hw'.keep e0; have e1_ := hw'.keep e1; have e2_ := hw'.keep e2; go_simp; try rfl)); (· (simp [go_sem]; try rfl)))
  (apply scr_read'; (· rfl); (· rfl); (· first | exact hC | exact (Ext.refl _).drew); (· (intro w' hw'; have c0_ := hw'.keep c0; have c1_ := hw'.keep c1; have c2_ := hw'.keep c2; have e0_ := hw'.keep e0; have e1_ := hw'.keep e1; have e2_ := hw'.keep e2; go_simp; try rfl)); (· (simp [go_sem]; try rfl)))
  (apply scr_read'; (· rfl); (· rfl); (· first | exact hC | exact (Ext.refl _).drew); (· (intro w' hw'; have c0_ := hw'.keep c0; have c1_ := hw'.keep c1; have c2_ := hw'.keep c2; have e0_ := hw'.keep e0; have e1_ := hw'.keep e1; have e2_ := hw'.keep e2; go_simp; try rfl)); (· (simp [go_sem]; try rfl)))
  have hC := (Ext.refl w7).drew
  refine scr_one rfl rfl (fun K hK => ?_)
  go_simp
  refine equalAtoms_c (d := d + 1) (cs := [a0, a1, a2]) (ds := [b0, b1, b2]) ((kA (d + 1)).mv ha'.out ((hE1.trans hC).mv _)) ((kA (d + 1)).mv hb'.out ((hE1.trans hC).mv _)) q1.out q2.out _ ?_
  rw [hl.out]
  intro w8 hE8
  have hC8 := hC.trans hE8
  refine hK _ _ (fun _ => hC8) ?_
  clear hK
  refine scr_one rfl rfl (fun K hK => ?_)
  go_simp
  refine atomsAlike_e sameFn_tree (d + 1) _ [a0, a1, a2] [b0, b1, b2] a b ((kA (d + 1)).mv ha'.out ((hE1.trans hC8).mv _)) ((kA (d + 1)).mv hb'.out ((hE1.trans hC8).mv _)) _ ?_
  intro w9 hE9
  refine hK _ _ (fun h => by simp at h) ?_
  clear hK
  generalize aAlike sT (d + 1) a b = r
  iterate 2 (apply scr_pure'; (· rfl); (· rfl); (· (intro w'; go_simp; try rfl)); (· (simp [go_sem]; try rfl)))
  refine scr_end ?_
  simp only [Exit.then]
  go_wp2_with fail
  exact hR'.out.bool (by simp) _ ((hE1.trans hC8).trans hE9)

set_option maxRecDepth 100000 in
theorem fnAtomsEqual_walk : LawWalk 4 Try.f4 := by
  intro H enc W base args ds ps hA _ hw hval
  rw [Try.params4] at hA hw hval
  obtain ⟨v0, v1, d0, d1, p0, p1, hargs, rfl, rfl, h0, h1⟩ := trodAll_two hA
  obtain ⟨args⟩ := args
  obtain rfl : args = [v0, v1] := by simpa using hargs
  obtain ⟨cs, rfl, hcs⟩ := okWide_struct Try.underlying37 (hval 0 37 v0 rfl rfl)
  obtain ⟨ds, rfl, hds⟩ := okWide_struct Try.underlying37 (hval 1 37 v1 rfl rfl)
  obtain ⟨fuel0, h0⟩ := h0
  obtain ⟨fuel1, h1⟩ := h1
  simp only [DataW.weightsEach, List.all_append, Bool.and_eq_true] at hw
  obtain ⟨a, d, ha⟩ := read_a fuel0 _ _ h0 hw.1
  obtain ⟨b, e, hb⟩ := read_a fuel1 _ _ h1 hw.2.1
  exact fnAtomsEqual_law (d := max d e) (cs := cs.toList) (ds := ds.toList) ((kA_le (Nat.le_succ_of_le (Nat.le_max_left d e))).2 ha) ((kA_le (Nat.le_succ_of_le (Nat.le_max_right d e))).2 hb)

set_option maxRecDepth 100000 in
theorem fnAtomsEqual_lifted (os : Os) (started : os.Started) (H : Type) (enc : TypeId × Value → H) :
    ReturnsInHanded {} Try.checked os 4 .any (Rows.fnAtomsEqualSpec.pre6 enc Try.prog Try.f4 Rows.fnAtomsEqualRow.domain false) (Rows.fnAtomsEqualSpec.post enc Try.prog Try.f4 false true false false) :=
  law_lift (s := Rows.fnAtomsEqualSpec) started (by kernel_rfl) Try.func4 rfl rfl
    (by rw [Try.params4]; intro t ht; simp at ht; rcases ht with rfl | rfl <;> exact ⟨by kernel_rfl, of_decide_eq_true (by kernel_rfl)⟩)
    (by rw [Try.params4]; intro ds hd; match ds, hd with | [a, b], _ => rfl)
    (ChangeSpec.witness6 (enc := enc) (C := Try.checked) false ⟨#[], #[.agg #[.string ⟨#[]⟩, .slice none 0 0, .slice none 0 0], .agg #[.string ⟨#[]⟩, .slice none 0 0, .slice none 0 0]], []⟩ 8 (by kernel_rfl) (by kernel_rfl) (by kernel_rfl) (by kernel_rfl))
    fnAtomsEqual_walk

theorem FnAtomsEqual_holds : Rows.FnAtomsEqualSaid :=
  OpenClaim.holds_of_wide 4 Try.f4 rfl rfl rfl rfl rfl rfl rfl ⟨rfl, rfl, rfl, rfl, rfl⟩ rfl rfl rfl rfl rfl (by kernel_rfl) Try.func4 (by kernel_rfl)
    (of_decide_eq_true (by kernel_rfl)) (by unfold Func.isWrapper; first | (rw [if_pos (by decide +kernel)]; kernel_rfl) | (rw [if_neg (by decide +kernel)]; exact ⟨rfl, rfl⟩))
    (fun os started H enc _ => fnAtomsEqual_lifted os started H enc)

end Go.Proofs.Ytnndacgokehkpaa
