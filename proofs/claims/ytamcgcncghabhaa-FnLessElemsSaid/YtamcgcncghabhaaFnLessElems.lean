/- For all path elements whose values are orderly, LessElems says whether CompareElems gives -1, comparing the other way round gives the opposite, and EqualElems says whether it gives 0. -/
import Derived.Test.YtamcgcncghabhaaPeCmp
import Derived.Test.YtamcgcncghabhaaLaw
namespace Go.Proofs.Ytamcgcncghabhaa
open Go.RowKit Go.Deep Go.ChangeShapes Go.WideShapes Go.ChangeAt

section
variable {H : Type} {enc : TypeId × Value → H} {w : World} {base : Nat} {spare : Nat → Bool} {held : Bool}
theorem eleven_of {cs : List Value} (h : cs.length = 11) : ∃ c0 c1 c2 c3 c4 c5 c6 c7 c8 c9 c10, cs = [c0, c1, c2, c3, c4, c5, c6, c7, c8, c9, c10] := by
  match cs, h with
  | [c0, c1, c2, c3, c4, c5, c6, c7, c8, c9, c10], _ => exact ⟨_, _, _, _, _, _, _, _, _, _, _, rfl⟩
theorem read_el {fuel : Nat} {cs : List Value} {x : DataW H × List MemPlace} (h : DataW.trod enc Try.prog w base spare held fuel 31 cs = some x)
    (hw : (x.1.weights Try.prog 31).all (· ≤ reachBytes) = true) : ∃ e, kEl.is w [] cs e := by
  obtain ⟨hlen, n, hn, hf⟩ := read_fields Try.underlying31 h hw
  have q : Try.prog.cellsOf 31 = 11 := by kernel_rfl
  have q0 : Try.prog.cellsOf 3 = 1 := by kernel_rfl
  have q1 : Try.prog.cellsOf 9 = 1 := by kernel_rfl
  have q2 : Try.prog.cellsOf 23 = 1 := by kernel_rfl
  have q3 : Try.prog.cellsOf 24 = 1 := by kernel_rfl
  have q4 : Try.prog.cellsOf 26 = 6 := by kernel_rfl
  rw [q] at hlen
  obtain ⟨c0, c1, c2, c3, c4, c5, c6, c7, c8, c9, c10, rfl⟩ := eleven_of hlen
  have e0 := hf 0
  have e1 := hf 1
  have e2 := hf 2
  have e3 := hf 3
  have e4 := hf 4
  have e5 := hf 5
  simp only [List.getElem?_toArray, List.getElem?_cons_zero, List.getElem?_cons_succ, Option.some.injEq, forall_eq', q0, q1, q2, q3, q4, List.drop_zero, List.drop_succ_cons, List.take_succ_cons, List.take_zero] at e0 e1 e2 e3 e4 e5
  obtain ⟨y0, t0, w0⟩ := e0
  obtain ⟨y1, t1, w1⟩ := e1
  obtain ⟨y2, t2, w2⟩ := e2
  obtain ⟨y3, t3, w3⟩ := e3
  obtain ⟨y4, t4, w4⟩ := e4
  obtain ⟨y5, t5, w5⟩ := e5
  obtain ⟨k0, h0, -, wf0⟩ := DataW.trod_int Try.underlying3 t0
  obtain ⟨s1, h1, hs1⟩ := read_str t1 w1
  obtain ⟨v2, ss, h2, hss⟩ := read_strs t2 w2
  obtain ⟨v3, vs, h3, hvs⟩ := read_vs t3 w3
  obtain ⟨v, hv⟩ := read_v n _ _ t4 w4
  obtain ⟨k5, h5, -, wf5⟩ := DataW.trod_int Try.underlying3 t5
  simp only [List.cons.injEq, and_true] at h0 h1 h2 h3 h5
  subst h0 h1 h2 h3 h5
  exact ⟨⟨k0, s1, ss, vs, v, k5⟩, _, _, [c4, c5, c6, c7, c8, c9], rfl, wf0, wf5, hs1, hss, hvs, hv⟩
end

theorem cmpT_neg (s t : T) : cmpT t s = - cmpT s t := cmpP_neg _ _
theorem cmpT_rng (s t : T) : cmpT s t = -1 ∨ cmpT s t = 0 ∨ cmpT s t = 1 := cmpP_rng _ _
theorem cmpPe_neg (a b : PEl) : cmpPe b a = - cmpPe a b := by
  cases a <;> cases b <;> simp only [cmpPe] <;> first | rfl | exact cmpS_neg _ _ | exact cmpE_neg cmpT_neg _ _ | exact cmpT_neg _ _ | exact cmpI_neg _ _
theorem cmpPe_rng (a b : PEl) : cmpPe a b = -1 ∨ cmpPe a b = 0 ∨ cmpPe a b = 1 := by
  cases a <;> cases b <;> simp only [cmpPe] <;> first | exact cmpS_rng _ _ | exact cmpE_rng cmpT_rng _ _ | exact cmpT_rng _ _ | exact cmpI_rng _ _ | simp
theorem cmpE_eq : ∀ {P Q : EntsOfT T}, (∀ p ∈ P, ∀ q ∈ Q, (eqT p.2 q.2 = true ↔ cmpT p.2 q.2 = 0)) → (listB eqFd P Q = true ↔ cmpE cmpT P Q = 0)
  | [], [], _ => by simp [listB, pairB, cmpE]
  | [], _ :: _, _ => by simp [listB, cmpE]
  | _ :: _, [], _ => by simp [listB, cmpE]
  | p :: P, q :: Q, h => by
    have h0 := h p (by simp) q (by simp)
    have h1 := cmpE_eq (P := P) (Q := Q) (fun x hx y hy => h x (by simp [hx]) y (by simp [hy]))
    simp only [listB, pairB, eqFd, cmpE, List.length_cons, Bool.and_eq_true, decide_eq_true_eq, Nat.add_right_cancel_iff, beq_iff_eq] at h1 ⊢
    rw [h0]
    by_cases hk : cmpS p.1 q.1 = 0
    · have hkk := cmpS_zero.1 hk
      by_cases hz : cmpT p.2 q.2 = 0
      · rw [if_neg (by simp [hk]), if_neg (by simp [hz]), ← h1]; simp [hz, hkk]
      · rw [if_neg (by simp [hk]), if_pos hz]; simp [hz]
    · have hkk : p.1 ≠ q.1 := fun e => hk (cmpS_zero.2 e)
      rw [if_pos hk]; simp [hk, hkk]
theorem eqT_cmp {u v : V} (hu : u.clean.orderly = true) (hv : v.clean.orderly = true) : eqT u.plain v.plain = true ↔ cmpT u.plain v.plain = 0 := by
  rw [eqT_plain, cmpT_plain]
  exact cmpP_eq (clean_cl u) (clean_cl v) hu hv
theorem key_tame {e : EL} (h : tameEl e) (hk : e.kind = 1) : ∀ p ∈ e.keys.zip (V.plainL e.l), ∃ v : V, p.2 = v.plain ∧ v.clean.orderly = true := by
  intro p hp
  rw [V.plainL_eq, ← zip_map_right] at hp
  obtain ⟨q, hq, rfl⟩ := List.mem_map.1 hp
  obtain ⟨i, hi, rfl⟩ := List.getElem_of_mem hq
  obtain ⟨-, h2⟩ := h
  unfold cleanEl at h2
  rw [if_pos hk] at h2
  have hi1 : i < e.keys.length := by rw [List.length_zip] at hi; omega
  have hi2 : i < e.l.length := by rw [List.length_zip] at hi; omega
  have ho := (orderlyL_iff _).1 h2 i (by rw [cleanL_length, List.length_take]; omega)
  have e1 : (V.cleanL (e.l.take (min e.keys.length e.l.length)))[i]'(by rw [cleanL_length, List.length_take]; omega) = (e.l[i]).clean := by
    rw [cleanL_get (by rw [List.length_take]; omega), List.getElem_take]
  rw [e1] at ho
  exact ⟨e.l[i], by simp, ho⟩
theorem value_tame {e : EL} (h : tameEl e) (hk : e.kind = 2) : e.v.clean.orderly = true := by
  obtain ⟨h1, -⟩ := h
  unfold cleanEl at h1
  rw [if_neg (by omega), if_pos hk] at h1
  exact h1
theorem eqE_cmp {a b : EL} (ha : tameEl a) (hb : tameEl b) : eqE (toE a) (toE b) = true ↔ cmpPe (toE a) (toE b) = 0 := by
  unfold toE
  by_cases a1 : a.kind = 1
  · rw [if_pos a1]
    by_cases b1 : b.kind = 1
    · rw [if_pos b1]
      refine cmpE_eq fun p hp q hq => ?_
      obtain ⟨u, e1, hu⟩ := key_tame ha a1 p hp
      obtain ⟨v, e2, hv⟩ := key_tame hb b1 q hq
      rw [e1, e2]
      exact eqT_cmp hu hv
    · rw [if_neg b1]; split <;> (try split) <;> simp [eqE, cmpPe]
  · rw [if_neg a1]
    by_cases a2 : a.kind = 2
    · rw [if_pos a2]
      by_cases b1 : b.kind = 1
      · rw [if_pos b1]; simp [eqE, cmpPe]
      · rw [if_neg b1]
        by_cases b2 : b.kind = 2
        · rw [if_pos b2]
          exact eqT_cmp (value_tame ha a2) (value_tame hb b2)
        · rw [if_neg b2]; split <;> simp [eqE, cmpPe]
    · rw [if_neg a2]
      by_cases a3 : a.kind = 3
      · rw [if_pos a3]
        split
        · simp [eqE, cmpPe]
        split
        · simp [eqE, cmpPe]
        split
        · simp [eqE, cmpPe, cmpI_zero]
        · simp [eqE, cmpPe]
      · rw [if_neg a3]
        split
        · simp [eqE, cmpPe]
        split
        · simp [eqE, cmpPe]
        split
        · simp [eqE, cmpPe]
        · simp [eqE, cmpPe, cmpS_zero]
theorem turnedE {a b : EL} (ha : tameEl a) (hb : tameEl b) : ∃ (c : Int) (b0 b1 b2 : Bool), cmpPe (toE a) (toE b) = c ∧ cmpPe (toE b) (toE a) = -c ∧ decide (c < 0) = b0 ∧ decide (-c < 0) = b2 ∧ eqE (toE a) (toE b) = b1 ∧
    ((c = -1 ∧ b0 = true ∧ b1 = false ∧ b2 = false) ∨ (c = 0 ∧ b0 = false ∧ b1 = true ∧ b2 = false) ∨ (c = 1 ∧ b0 = false ∧ b1 = false ∧ b2 = true)) := by
  have h1 := eqE_cmp ha hb
  have h3 := cmpPe_neg (toE a) (toE b)
  refine ⟨_, _, eqE (toE a) (toE b), _, rfl, h3, rfl, rfl, rfl, ?_⟩
  rcases cmpPe_rng (toE a) (toE b) with h | h | h
  · refine .inl ⟨h, by rw [h]; rfl, ?_, by rw [h]; rfl⟩
    rw [Bool.eq_false_iff]; intro h4; rw [h1] at h4; omega
  · exact .inr (.inl ⟨h, by rw [h]; rfl, h1.2 h, by rw [h]; rfl⟩)
  · refine .inr (.inr ⟨h, by rw [h]; rfl, ?_, by rw [h]; rfl⟩)
    rw [Bool.eq_false_iff]; intro h4; rw [h1] at h4; omega

set_option maxRecDepth 100000 in
set_option maxHeartbeats 4000000 in
set_option pp.maxSteps 1000000 in
set_option pp.deepTerms true in
theorem fnLessElems_law {w : World} {cs ds : List Value} {a b : EL} (ha : kEl.is w [] cs a) (hb : kEl.is w [] ds b) :
    Calls Try.prog 10 #[.agg cs.toArray, .agg ds.toArray] w fun e w' => e = .returned (.bool true) ∧ Below w.heap.size w w' := by
  suffices h : ∀ R : Ending → World → Prop, Ends R w (.bool true) → Calls Try.prog 10 #[.agg cs.toArray, .agg ds.toArray] w R from h _ (fun w' hE => ⟨rfl, hE⟩)
  intro R hR
  have ha' := Lib.hid ha
  have hb' := Lib.hid hb
  obtain ⟨vk, vl, vs, rfl, -, -, -, hks, hl, hv⟩ := ha
  obtain ⟨vk2, vl2, vs2, rfl, -, -, -, hks2, hl2, hv2⟩ := hb
  obtain ⟨x, rfl⟩ := hv.shape
  obtain ⟨y, rfl⟩ := hv2.shape
  have hl' := Lib.hid hl
  have hl2' := Lib.hid hl2
  obtain ⟨o, c, -, -, rfl, -⟩ := hl.ex
  obtain ⟨o2, c2, -, -, rfl, -⟩ := hl2.ex
  obtain ⟨ko, kc, -, -, rfl, -⟩ := hks.ex
  obtain ⟨ko2, kc2, -, -, rfl, -⟩ := hks2.ex
  have hR' := Lib.hid hR
  clear hR hks hl hv hks2 hl2 hv2
  simp only [Cells6.list, List.cons_append, List.nil_append] at ha' hb' ⊢
  go_enter Try.func10, Try.ntmps10
  go_wp2_with fail
  refine abs2 (G := fun wr => Calls _ _ _ wr _) ?_
  intro w1 hE1 hb1 hb2 hs1
  have e0 : w1.cell? ⟨w.heap.size, 0, none⟩ = some (.int .i64 a.kind) := cells_of hb1 0; have e1 : w1.cell? ⟨w.heap.size, 1, none⟩ = some (.string a.s) := cells_of hb1 1; have e2 : w1.cell? ⟨w.heap.size, 2, none⟩ = some (.slice ko a.keys.length kc) := cells_of hb1 2; have e3 : w1.cell? ⟨w.heap.size, 3, none⟩ = some (.slice o a.l.length c) := cells_of hb1 3; have e4 : w1.cell? ⟨w.heap.size, 4, none⟩ = some (.int .i64 x.kind) := cells_of hb1 4; have e5 : w1.cell? ⟨w.heap.size, 5, none⟩ = some (.int .i64 x.n) := cells_of hb1 5; have e6 : w1.cell? ⟨w.heap.size, 6, none⟩ = some (.float .f64 x.f) := cells_of hb1 6; have e7 : w1.cell? ⟨w.heap.size, 7, none⟩ = some (.string x.s) := cells_of hb1 7; have e8 : w1.cell? ⟨w.heap.size, 8, none⟩ = some (.slice x.ko x.kn x.kc) := cells_of hb1 8; have e9 : w1.cell? ⟨w.heap.size, 9, none⟩ = some (.slice x.o x.m x.c) := cells_of hb1 9; have e10 : w1.cell? ⟨w.heap.size, 10, none⟩ = some (.int .i64 a.n) := cells_of hb1 10
  have f0 : w1.cell? ⟨w.heap.size + 1, 0, none⟩ = some (.int .i64 b.kind) := cells_of hb2 0; have f1 : w1.cell? ⟨w.heap.size + 1, 1, none⟩ = some (.string b.s) := cells_of hb2 1; have f2 : w1.cell? ⟨w.heap.size + 1, 2, none⟩ = some (.slice ko2 b.keys.length kc2) := cells_of hb2 2; have f3 : w1.cell? ⟨w.heap.size + 1, 3, none⟩ = some (.slice o2 b.l.length c2) := cells_of hb2 3; have f4 : w1.cell? ⟨w.heap.size + 1, 4, none⟩ = some (.int .i64 y.kind) := cells_of hb2 4; have f5 : w1.cell? ⟨w.heap.size + 1, 5, none⟩ = some (.int .i64 y.n) := cells_of hb2 5; have f6 : w1.cell? ⟨w.heap.size + 1, 6, none⟩ = some (.float .f64 y.f) := cells_of hb2 6; have f7 : w1.cell? ⟨w.heap.size + 1, 7, none⟩ = some (.string y.s) := cells_of hb2 7; have f8 : w1.cell? ⟨w.heap.size + 1, 8, none⟩ = some (.slice y.ko y.kn y.kc) := cells_of hb2 8; have f9 : w1.cell? ⟨w.heap.size + 1, 9, none⟩ = some (.slice y.o y.m y.c) := cells_of hb2 9; have f10 : w1.cell? ⟨w.heap.size + 1, 10, none⟩ = some (.int .i64 b.n) := cells_of hb2 10
  clear hb1 hb2 hs1
  refine zzFits13_any (kEl.mv ha'.out (hE1.mv _)) _ ?_
  intro t1 w2 hE2
  replace e0 := hE2.keep e0; replace e1 := hE2.keep e1; replace e2 := hE2.keep e2; replace e3 := hE2.keep e3; replace e4 := hE2.keep e4; replace e5 := hE2.keep e5; replace e6 := hE2.keep e6; replace e7 := hE2.keep e7; replace e8 := hE2.keep e8; replace e9 := hE2.keep e9; replace e10 := hE2.keep e10; replace f0 := hE2.keep f0; replace f1 := hE2.keep f1; replace f2 := hE2.keep f2; replace f3 := hE2.keep f3; replace f4 := hE2.keep f4; replace f5 := hE2.keep f5; replace f6 := hE2.keep f6; replace f7 := hE2.keep f7; replace f8 := hE2.keep f8; replace f9 := hE2.keep f9; replace f10 := hE2.keep f10
  replace hE1 := hE1.trans hE2
  clear hE2
  dsimp only
  cases t1
  · go_wp2_with fail
    exact hR'.out _ hE1
  go_wp2_with fail
  refine zzFits13_any (kEl.mv hb'.out (hE1.mv _)) _ ?_
  intro t2 w3 hE3
  replace e0 := hE3.keep e0; replace e1 := hE3.keep e1; replace e2 := hE3.keep e2; replace e3 := hE3.keep e3; replace e4 := hE3.keep e4; replace e5 := hE3.keep e5; replace e6 := hE3.keep e6; replace e7 := hE3.keep e7; replace e8 := hE3.keep e8; replace e9 := hE3.keep e9; replace e10 := hE3.keep e10; replace f0 := hE3.keep f0; replace f1 := hE3.keep f1; replace f2 := hE3.keep f2; replace f3 := hE3.keep f3; replace f4 := hE3.keep f4; replace f5 := hE3.keep f5; replace f6 := hE3.keep f6; replace f7 := hE3.keep f7; replace f8 := hE3.keep f8; replace f9 := hE3.keep f9; replace f10 := hE3.keep f10
  replace hE1 := hE1.trans hE3
  clear hE3
  dsimp only
  cases t2
  · go_wp2_with fail
    exact hR'.out _ hE1
  go_wp2_with fail
  refine orderlyElem_c (kEl.mv ha'.out (hE1.mv _)) _ ?_
  intro t3 ht3 w4 hE4
  have ht3' := Lib.hid ht3
  replace e0 := hE4.keep e0; replace e1 := hE4.keep e1; replace e2 := hE4.keep e2; replace e3 := hE4.keep e3; replace e4 := hE4.keep e4; replace e5 := hE4.keep e5; replace e6 := hE4.keep e6; replace e7 := hE4.keep e7; replace e8 := hE4.keep e8; replace e9 := hE4.keep e9; replace e10 := hE4.keep e10; replace f0 := hE4.keep f0; replace f1 := hE4.keep f1; replace f2 := hE4.keep f2; replace f3 := hE4.keep f3; replace f4 := hE4.keep f4; replace f5 := hE4.keep f5; replace f6 := hE4.keep f6; replace f7 := hE4.keep f7; replace f8 := hE4.keep f8; replace f9 := hE4.keep f9; replace f10 := hE4.keep f10
  replace hE1 := hE1.trans hE4
  clear hE4 ht3
  dsimp only
  cases t3
  · go_wp2_with fail
    exact hR'.out _ hE1
  go_wp2_with fail
  refine orderlyElem_c (kEl.mv hb'.out (hE1.mv _)) _ ?_
  intro t4 ht4 w5 hE5
  have ht4' := Lib.hid ht4
  replace e0 := hE5.keep e0; replace e1 := hE5.keep e1; replace e2 := hE5.keep e2; replace e3 := hE5.keep e3; replace e4 := hE5.keep e4; replace e5 := hE5.keep e5; replace e6 := hE5.keep e6; replace e7 := hE5.keep e7; replace e8 := hE5.keep e8; replace e9 := hE5.keep e9; replace e10 := hE5.keep e10; replace f0 := hE5.keep f0; replace f1 := hE5.keep f1; replace f2 := hE5.keep f2; replace f3 := hE5.keep f3; replace f4 := hE5.keep f4; replace f5 := hE5.keep f5; replace f6 := hE5.keep f6; replace f7 := hE5.keep f7; replace f8 := hE5.keep f8; replace f9 := hE5.keep f9; replace f10 := hE5.keep f10
  replace hE1 := hE1.trans hE5
  clear hE5 ht4
  dsimp only
  cases t4
  · go_wp2_with fail
    exact hR'.out _ hE1
  obtain ⟨z, b0, b1, b2, q1, q2, q3, q4, q5, hcs⟩ := turnedE (ht3'.out (by simp)) (ht4'.out (by simp))
  have q1' := Lib.hid q1
  have q2' := Lib.hid q2
  have q3' := Lib.hid q3
  have q4' := Lib.hid q4
  have q5' := Lib.hid q5
  have hcs' := Lib.hid hcs
  clear q1 q2 q3 q4 q5 hcs ht3' ht4'
  go_wp2_with fail
  have hC : Ext w5 w5.drew := (Ext.refl _).drew
  refine wp_region_script [0, 1, 3, 4, 6, 7] [2] (fun w' => Ext w5 w') [(.read, 0), (.read, 1), (.read, 3), (.read, 4), (.one, 2), (.one, 5), (.pure, 6), (.pure, 7)] (by kernel_rfl) (by kernel_rfl) ?_
  (apply scr_read'; (· rfl); (· rfl); (· first | exact hC | exact (Ext.refl _).drew); (· (intro w' hw'; have e0_ := hw'.keep e0; have e1_ := hw'.keep e1; have e2_ := hw'.keep e2; have e3_ := hw'.keep e3; have e4_ := hw'.keep e4; have e5_ := hw'.keep e5; have e6_ := hw'.keep e6; have e7_ := hw'.keep e7; have e8_ := hw'.keep e8; have e9_ := hw'.keep e9; have e10_ := hw'.keep e10; go_simp; try rfl)); (· (simp [go_sem]; try rfl)))
  (apply scr_read'; (· rfl); (· rfl); (· first | exact hC | exact (Ext.refl _).drew); (· (intro w' hw'; have f0_ := hw'.keep f0; have f1_ := hw'.keep f1; have f2_ := hw'.keep f2; have f3_ := hw'.keep f3; have f4_ := hw'.keep f4; have f5_ := hw'.keep f5; have f6_ := hw'.keep f6; have f7_ := hw'.keep f7; have f8_ := hw'.keep f8; have f9_ := hw'.keep f9; have f10_ := hw'.keep f10; go_simp; try rfl)); (· (simp [go_sem]; try rfl)))
  (apply scr_read'; (· rfl); (· rfl); (· first | exact hC | exact (Ext.refl _).drew); (· (intro w' hw'; have f0_ := hw'.keep f0; have f1_ := hw'.keep f1; have f2_ := hw'.keep f2; have f3_ := hw'.keep f3; have f4_ := hw'.keep f4; have f5_ := hw'.keep f5; have f6_ := hw'.keep f6; have f7_ := hw'.keep f7; have f8_ := hw'.keep f8; have f9_ := hw'.keep f9; have f10_ := hw'.keep f10; go_simp; try rfl)); (· (simp [go_sem]; try rfl)))
  (apply scr_read'; (· rfl); (· rfl); (· first | exact hC | exact (Ext.refl _).drew); (· (intro w' hw'; have e0_ := hw'.keep e0; have e1_ := hw'.keep e1; have e2_ := hw'.keep e2; have e3_ := hw'.keep e3; have e4_ := hw'.keep e4; have e5_ := hw'.keep e5; have e6_ := hw'.keep e6; have e7_ := hw'.keep e7; have e8_ := hw'.keep e8; have e9_ := hw'.keep e9; have e10_ := hw'.keep e10; go_simp; try rfl)); (· (simp [go_sem]; try rfl)))
  refine scr_one rfl rfl (fun K hK => ?_)
  go_simp
  refine implCompareElems_c (kEl.mv ha'.out ((hE1.trans hC).mv _)) (kEl.mv hb'.out ((hE1.trans hC).mv _)) _ ?_
  rw [q1'.out]
  intro w6 hE6
  refine hK _ _ (fun _ => hC.trans hE6) ?_
  clear hK
  refine scr_one rfl rfl (fun K hK => ?_)
  go_simp
  refine implCompareElems_c (kEl.mv hb'.out ((hE1.trans (hC.trans hE6)).mv _)) (kEl.mv ha'.out ((hE1.trans (hC.trans hE6)).mv _)) _ ?_
  rw [q2'.out]
  intro w7 hE7
  refine hK _ _ (fun h => by simp at h) ?_
  clear hK
  have hE57 := hC.trans (hE6.trans hE7)
  replace e0 := hE57.keep e0; replace e1 := hE57.keep e1; replace e2 := hE57.keep e2; replace e3 := hE57.keep e3; replace e4 := hE57.keep e4; replace e5 := hE57.keep e5; replace e6 := hE57.keep e6; replace e7 := hE57.keep e7; replace e8 := hE57.keep e8; replace e9 := hE57.keep e9; replace e10 := hE57.keep e10; replace f0 := hE57.keep f0; replace f1 := hE57.keep f1; replace f2 := hE57.keep f2; replace f3 := hE57.keep f3; replace f4 := hE57.keep f4; replace f5 := hE57.keep f5; replace f6 := hE57.keep f6; replace f7 := hE57.keep f7; replace f8 := hE57.keep f8; replace f9 := hE57.keep f9; replace f10 := hE57.keep f10
  replace hE1 := hE1.trans hE57
  clear hC hE6 hE7 hE57
  (apply scr_pure'; (· rfl); (· rfl); (· (intro w'; go_simp; try rfl)); (· (simp [go_sem]; try rfl)))
  (apply scr_pure'; (· rfl); (· rfl); (· (intro w'; go_simp; try rfl)); (· (simp [go_sem]; try rfl)))
  refine scr_end ?_
  simp only [Exit.then]
  have hn1 : IntKind.i64.wrap (-1) = -1 := by decide
  have hn2 : IntKind.i64.wrap 1 = 1 := by decide
  have hn3 : IntKind.i64.wrap 0 = 0 := by decide
  have hcs := hcs'.out
  clear hcs'
  rcases hcs with ⟨rfl, rfl, rfl, rfl⟩ | ⟨rfl, rfl, rfl, rfl⟩ | ⟨rfl, rfl, rfl, rfl⟩
  all_goals
    go_wp2_with fail
    refine implLessElems_c (kEl.mv ha'.out (hE1.mv _)) (kEl.mv hb'.out (hE1.mv _)) _ ?_
    rw [q1'.out, q3'.out]
    intro w8 hE8
    replace e0 := hE8.keep e0; replace e1 := hE8.keep e1; replace e2 := hE8.keep e2; replace e3 := hE8.keep e3; replace e4 := hE8.keep e4; replace e5 := hE8.keep e5; replace e6 := hE8.keep e6; replace e7 := hE8.keep e7; replace e8 := hE8.keep e8; replace e9 := hE8.keep e9; replace e10 := hE8.keep e10; replace f0 := hE8.keep f0; replace f1 := hE8.keep f1; replace f2 := hE8.keep f2; replace f3 := hE8.keep f3; replace f4 := hE8.keep f4; replace f5 := hE8.keep f5; replace f6 := hE8.keep f6; replace f7 := hE8.keep f7; replace f8 := hE8.keep f8; replace f9 := hE8.keep f9; replace f10 := hE8.keep f10
    replace hE1 := hE1.trans hE8
    clear hE8
    dsimp only
    go_wp2_with fail
    refine implLessElems_c (kEl.mv hb'.out (hE1.mv _)) (kEl.mv ha'.out (hE1.mv _)) _ ?_
    rw [q2'.out, q4'.out]
    intro w9 hE9
    replace e0 := hE9.keep e0; replace e1 := hE9.keep e1; replace e2 := hE9.keep e2; replace e3 := hE9.keep e3; replace e4 := hE9.keep e4; replace e5 := hE9.keep e5; replace e6 := hE9.keep e6; replace e7 := hE9.keep e7; replace e8 := hE9.keep e8; replace e9 := hE9.keep e9; replace e10 := hE9.keep e10; replace f0 := hE9.keep f0; replace f1 := hE9.keep f1; replace f2 := hE9.keep f2; replace f3 := hE9.keep f3; replace f4 := hE9.keep f4; replace f5 := hE9.keep f5; replace f6 := hE9.keep f6; replace f7 := hE9.keep f7; replace f8 := hE9.keep f8; replace f9 := hE9.keep f9; replace f10 := hE9.keep f10
    replace hE1 := hE1.trans hE9
    clear hE9
    dsimp only
    go_wp2_with fail
    refine implEqualElems_c (kEl.mv ha'.out (hE1.mv _)) (kEl.mv hb'.out (hE1.mv _)) _ ?_
    rw [q5'.out]
    intro w10 hE10
    dsimp only
    go_wp2_with fail
    exact hR'.out.bool (by simp) _ (hE1.trans hE10)

set_option maxRecDepth 100000 in
theorem fnLessElems_walk : LawWalk 10 Try.f10 := by
  intro H enc W base args ds ps hA _ hw hval
  rw [Try.params10] at hA hw hval
  obtain ⟨v0, v1, d0, d1, p0, p1, hargs, rfl, rfl, h0, h1⟩ := trodAll_two hA
  obtain ⟨args⟩ := args
  obtain rfl : args = [v0, v1] := by simpa using hargs
  obtain ⟨cs0, rfl, hcs0⟩ := okWide_struct Try.underlying31 (hval 0 31 v0 rfl rfl)
  obtain ⟨cs1, rfl, hcs1⟩ := okWide_struct Try.underlying31 (hval 1 31 v1 rfl rfl)
  obtain ⟨fuel0, h0⟩ := h0
  obtain ⟨fuel1, h1⟩ := h1
  simp only [DataW.weightsEach, List.all_append, Bool.and_eq_true] at hw
  obtain ⟨a, ha⟩ := read_el h0 hw.1
  obtain ⟨b, hb⟩ := read_el h1 hw.2.1
  exact fnLessElems_law (cs := cs0.toList) (ds := cs1.toList) ha hb

set_option maxRecDepth 100000 in
theorem fnLessElems_lifted (os : Os) (started : os.Started) (H : Type) (enc : TypeId × Value → H) :
    ReturnsInHanded {} Try.checked os 10 .any (Rows.fnLessElemsSpec.pre6 enc Try.prog Try.f10 Rows.fnLessElemsRow.domain false) (Rows.fnLessElemsSpec.post enc Try.prog Try.f10 false true false false) :=
  law_lift (s := Rows.fnLessElemsSpec) started (by kernel_rfl) Try.func10 rfl rfl
    (by rw [Try.params10]; intro t ht; simp at ht; rcases ht with rfl | rfl <;> exact ⟨by kernel_rfl, of_decide_eq_true (by kernel_rfl)⟩)
    (by rw [Try.params10]; intro ds hd; match ds, hd with | [a, b], _ => rfl)
    (ChangeSpec.witness6 (enc := enc) (C := Try.checked) false ⟨#[], #[.agg #[.int .i64 0, .string ⟨#[]⟩, .slice none 0 0, .slice none 0 0, .int .i64 0, .int .i64 0, .float .f64 0, .string ⟨#[]⟩, .slice none 0 0, .slice none 0 0, .int .i64 0], .agg #[.int .i64 0, .string ⟨#[]⟩, .slice none 0 0, .slice none 0 0, .int .i64 0, .int .i64 0, .float .f64 0, .string ⟨#[]⟩, .slice none 0 0, .slice none 0 0, .int .i64 0]], []⟩ 8 (by kernel_rfl) (by kernel_rfl) (by kernel_rfl) (by kernel_rfl))
    fnLessElems_walk

theorem FnLessElems_holds : Rows.FnLessElemsSaid :=
  OpenClaim.holds_of_wide 10 Try.f10 rfl rfl rfl rfl rfl rfl rfl ⟨rfl, rfl, rfl, rfl, rfl⟩ rfl rfl rfl rfl rfl (by kernel_rfl) Try.func10 (by kernel_rfl)
    (of_decide_eq_true (by kernel_rfl)) (by unfold Func.isWrapper; first | (rw [if_pos (by decide +kernel)]; kernel_rfl) | (rw [if_neg (by decide +kernel)]; exact ⟨rfl, rfl⟩))
    (fun os started H enc _ => fnLessElems_lifted os started H enc)

end Go.Proofs.Ytamcgcncghabhaa
