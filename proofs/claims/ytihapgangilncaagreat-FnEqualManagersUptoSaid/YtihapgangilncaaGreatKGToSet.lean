/- Path elements that come of orderly elements of impl (plain). spec.walkCompare: the order of a walk (printed by gen_walkc.py). spec.place: where a path stands, or would stand, in a set. impl.toSet: a set made of a list of paths. -/
import Derived.Test.YtihapgangilncaaGreatKGFromS
import Derived.Test.YtihapgangilncaaGreatKGSetL
import Derived.Test.YtihapgangilncaaGreatKGSetIns
import Derived.Test.YtihapgangilncaaGreatKGPeGood
namespace Go.Proofs.YtihapgangilncaaGreat
open Go.RowKit
set_option linter.unusedSimpArgs false

theorem cmpE_eq0 : ∀ {P Q : EntsOfT T}, (∀ p ∈ P, ∀ q ∈ Q, (eqT p.2 q.2 = true ↔ cmpT p.2 q.2 = 0)) → (listB eqFd P Q = true ↔ cmpE cmpT P Q = 0)
  | [], [], _ => by simp [listB, pairB, cmpE]
  | [], _ :: _, _ => by simp [listB, cmpE]
  | _ :: _, [], _ => by simp [listB, cmpE]
  | p :: P, q :: Q, h => by
    have h0 := h p (by simp) q (by simp)
    have h1 := cmpE_eq0 (P := P) (Q := Q) (fun x hx y hy => h x (by simp [hx]) y (by simp [hy]))
    simp only [listB, pairB, eqFd, cmpE, List.length_cons, Bool.and_eq_true, decide_eq_true_eq, Nat.add_right_cancel_iff, beq_iff_eq] at h1 ⊢
    rw [h0]
    by_cases hk : cmpS p.1 q.1 = 0
    · have hkk := cmpS_zero.1 hk
      by_cases hz : cmpT p.2 q.2 = 0
      · rw [if_neg (by simp [hk]), if_neg (by simp [hz]), ← h1]; simp [hz, hkk]
      · rw [if_neg (by simp [hk]), if_pos hz]; simp [hz]
    · have hkk : p.1 ≠ q.1 := fun e => hk (cmpS_zero.2 e)
      rw [if_pos hk]; simp [hk, hkk]
theorem eqT_cmp0 {u v : V} (hu : u.clean.orderly = true) (hv : v.clean.orderly = true) : eqT u.plain v.plain = true ↔ cmpT u.plain v.plain = 0 := by
  rw [eqT_plain, cmpT_plain]
  exact cmpP_eq (clean_cl u) (clean_cl v) hu hv
theorem key_tame0 {e : EL} (h : tameEl e) (hk : e.kind = 1) : ∀ p ∈ e.keys.zip (V.plainL e.l), ∃ v : V, p.2 = v.plain ∧ v.clean.orderly = true := by
  intro p hp
  rw [V.plainL_eq, ← zip_map_right] at hp
  obtain ⟨q, hq, rfl⟩ := List.mem_map.1 hp
  obtain ⟨i, hi, rfl⟩ := List.getElem_of_mem hq
  obtain ⟨-, h2⟩ := h
  unfold cleanEl at h2
  rw [if_pos hk] at h2
  have hi1 : i < e.keys.length := by rw [List.length_zip] at hi; omega
  have hi2 : i < e.l.length := by rw [List.length_zip] at hi; omega
  have ho := (orderlyL_iff _).1 h2 i (by rw [cleanL_length, List.length_take]; omega)
  have e1 : (V.cleanL (e.l.take (min e.keys.length e.l.length)))[i]'(by rw [cleanL_length, List.length_take]; omega) = (e.l[i]).clean := by
    rw [cleanL_get (by rw [List.length_take]; omega), List.getElem_take]
  rw [e1] at ho
  exact ⟨e.l[i], by simp, ho⟩
theorem value_tame0 {e : EL} (h : tameEl e) (hk : e.kind = 2) : e.v.clean.orderly = true := by
  obtain ⟨h1, -⟩ := h
  unfold cleanEl at h1
  rw [if_neg (by omega), if_pos hk] at h1
  exact h1
theorem eqE_cmp0 {a b : EL} (ha : tameEl a) (hb : tameEl b) : eqE (toE a) (toE b) = true ↔ cmpPe (toE a) (toE b) = 0 := by
  unfold toE
  by_cases a1 : a.kind = 1
  · rw [if_pos a1]
    by_cases b1 : b.kind = 1
    · rw [if_pos b1]
      refine cmpE_eq0 fun p hp q hq => ?_
      obtain ⟨u, e1, hu⟩ := key_tame0 ha a1 p hp
      obtain ⟨v, e2, hv⟩ := key_tame0 hb b1 q hq
      rw [e1, e2]
      exact eqT_cmp0 hu hv
    · rw [if_neg b1]; split <;> (try split) <;> simp [eqE, cmpPe]
  · rw [if_neg a1]
    by_cases a2 : a.kind = 2
    · rw [if_pos a2]
      by_cases b1 : b.kind = 1
      · rw [if_pos b1]; simp [eqE, cmpPe]
      · rw [if_neg b1]
        by_cases b2 : b.kind = 2
        · rw [if_pos b2]
          exact eqT_cmp0 (value_tame0 ha a2) (value_tame0 hb b2)
        · rw [if_neg b2]; split <;> simp [eqE, cmpPe]
    · rw [if_neg a2]
      by_cases a3 : a.kind = 3
      · rw [if_pos a3]
        split
        · simp [eqE, cmpPe]
        split
        · simp [eqE, cmpPe]
        split
        · simp [eqE, cmpPe, cmpI_zero]
        · simp [eqE, cmpPe]
      · rw [if_neg a3]
        split
        · simp [eqE, cmpPe]
        split
        · simp [eqE, cmpPe]
        split
        · simp [eqE, cmpPe]
        · simp [eqE, cmpPe, cmpS_zero]

theorem tr_good {a b c : PEl} (ha : GoodPe a) (hb : GoodPe b) (hc : GoodPe c) : tr (cmpPe a b) (cmpPe b c) (cmpPe a c) := by
  cases a <;> cases b <;> cases c <;> simp only [cmpPe] <;> first
    | exact tr_S _ _ _
    | exact tr_I _ _ _
    | exact tr_T ha hb hc
    | exact tr_E fun p hp q hq s hs => tr_T (ha p hp) (hb q hq) (hc s hs)
    | (unfold tr; refine ⟨fun _ _ => ?_, fun _ _ => ?_, fun _ _ => ?_⟩ <;> omega)
    | (unfold tr; simp)
def GoodE (x : PEl) : Prop := ∃ e : EL, tameEl e ∧ e.l.length * 88 ≤ 140737488351232 ∧ x = toE e
theorem goodE_ord : Cmpr cmpPe GoodE := ⟨cmpPe_neg', cmpPe_rng', fun {a b d} ha hb hd => by
  obtain ⟨e1, t1, -, rfl⟩ := ha
  obtain ⟨e2, t2, -, rfl⟩ := hb
  obtain ⟨e3, t3, -, rfl⟩ := hd
  exact tr_good (good_toE t1) (good_toE t2) (good_toE t3)⟩
theorem goodE_from {x : PEl} (h : GoodE x) : FromEl x := by
  obtain ⟨e, -, -, rfl⟩ := h
  exact ⟨e, rfl⟩
theorem goodE_eq {x y : PEl} (hx : GoodE x) (hy : GoodE y) : eqEl (backE x) (backE y) = true ↔ cmpPe x y = 0 := by
  obtain ⟨e, h1, -, rfl⟩ := id hx
  obtain ⟨f, g1, -, rfl⟩ := id hy
  rw [← eqE_toE, eqE_cmp0 (tame_back h1) (tame_back g1), cmpPe_back (goodE_from hx), cmpPe_neg' _ (toE e), cmpPe_back (goodE_from hy), cmpPe_neg' (toE e)]
  omega
theorem goodE_list {p q : List PEl} (hp : GP GoodE p) (hq : GP GoodE q) : listB eqEl (p.map backE) (q.map backE) = true ↔ wc cmpPe p q = 0 := by
  rw [wc_zero]
  induction p generalizing q with
  | nil =>
    cases q with
    | nil => simp [listB, pairB]; exact .nil
    | cons y q => simp [listB]; intro h; cases h
  | cons x p ih =>
    cases q with
    | nil => simp [listB]; intro h; cases h
    | cons y q =>
      have h1 := goodE_eq (hp x (by simp)) (hq y (by simp))
      have h2 := ih (q := q) (fun z hz => hp z (by simp [hz])) (fun z hz => hq z (by simp [hz]))
      simp only [listB, List.length_map, Bool.and_eq_true, decide_eq_true_eq] at h2
      simp only [listB, List.map_cons, List.length_cons, List.length_map, pairB, Bool.and_eq_true, decide_eq_true_eq, Nat.add_right_cancel_iff, h1]
      constructor
      · rintro ⟨h3, h4, h5⟩; exact .cons h4 (h2.1 ⟨h3, h5⟩)
      · intro h
        cases h with
        | cons h3 h4 => have := h2.2 h4; exact ⟨this.1, h3, this.2⟩
theorem goodE_lists {a b : List (List PEl)} (ha : ∀ p ∈ a, GP GoodE p) (hb : ∀ p ∈ b, GP GoodE p) : listB (listB eqEl) (a.map (·.map backE)) (b.map (·.map backE)) = true ↔ All2 (fun p q => wc cmpPe p q = 0) a b := by
  induction a generalizing b with
  | nil =>
    cases b with
    | nil => simp [listB, pairB]; exact .nil
    | cons y q => simp [listB]; intro h; cases h
  | cons x a ih =>
    cases b with
    | nil => simp [listB]; intro h; cases h
    | cons y b =>
      have h1 := goodE_list (ha x (by simp)) (hb y (by simp))
      have h2 := ih (b := b) (fun z hz => ha z (by simp [hz])) (fun z hz => hb z (by simp [hz]))
      simp only [listB, List.length_map, Bool.and_eq_true, decide_eq_true_eq] at h1 h2
      simp only [listB, List.map_cons, List.length_cons, List.length_map, pairB, Bool.and_eq_true, decide_eq_true_eq, Nat.add_right_cancel_iff, h1]
      constructor
      · rintro ⟨h3, h4, h5⟩; exact .cons h4 (h2.1 ⟨h3, h5⟩)
      · intro h
        cases h with
        | cons h3 h4 => have := h2.2 h4; exact ⟨this.1, h3, this.2⟩
end Go.Proofs.YtihapgangilncaaGreat
namespace Go.Proofs.YtihapgangilncaaGreat
open Go.RowKit
set_option linter.unusedSimpArgs false

theorem wc_eq0 {α : Type} {c : α → α → Int} {x y : α} {xs ys : List α} (h : c x y = 0) : wc c (x :: xs) (y :: ys) = wc c xs ys := by
  rw [wc]
  cases xs <;> cases ys <;> simp [fl, wc, h]
theorem wc_end {α : Type} {c : α → α → Int} {p q : List α} (h : p = [] ∨ q = []) : wc c p q = cmpI (p.length : Int) (q.length : Int) := by
  rcases h with rfl | rfl
  · cases q with
    | nil => simp [wc, cmpI]
    | cons y ys => simp only [wc, cmpI, List.length_nil, List.length_cons]; rw [if_pos (by omega)]
  · cases p with
    | nil => simp [wc, cmpI]
    | cons y ys => simp only [wc, cmpI, List.length_nil, List.length_cons]; rw [if_neg (by omega), if_pos (by omega)]
theorem wc_drop {α : Type} {c : α → α → Int} {p q : List α} {k : Nat} (h1 : k < p.length) (h2 : k < q.length) : wc c (p.drop k) (q.drop k) = wc c (p[k] :: p.drop (k + 1)) (q[k] :: q.drop (k + 1)) := by
  rw [List.drop_eq_getElem_cons h1, List.drop_eq_getElem_cons h2]
theorem fl_drop {α : Type} {p q : List α} {k : Nat} (h1 : k < p.length) (h2 : k < q.length) : fl (p.drop (k + 1)) (q.drop (k + 1)) = if k + 1 = p.length then (if k + 1 = q.length then 0 else -1) else (if k + 1 = q.length then 1 else 0) := by
  have e : ∀ l : List α, k < l.length → (k + 1 = l.length ↔ l.drop (k + 1) = []) := fun l hl => by rw [List.drop_eq_nil_iff]; omega
  simp only [e p h1, e q h2]
  cases p.drop (k + 1) <;> cases q.drop (k + 1) <;> simp [fl]

set_option maxRecDepth 100000 in
set_option maxHeartbeats 4000000 in
set_option pp.maxSteps 1000000 in
set_option pp.deepTerms true in
theorem walkCompare_c {w : World} {X Y : List Nat} {va vb : Value} {p q : List EL} (ha : IsSl kEl 168 w X va p) (hb : IsSl kEl 168 w Y vb q) (R : Ending → World → Prop) (hR : Ends R w (.int .i64 (wc cmpPe (p.map toE) (q.map toE)))) :
    Calls Tryz.prog 116 #[va, vb] w R := by
  obtain ⟨o, c, b, off, rfl, l2, l3, l4, l5⟩ := id ha.ex
  obtain ⟨o2, c2, b2, off2, rfl, m2, m3, m4, m5⟩ := id hb.ex
  have l4' := Lib.hid l4
  have l5' := Lib.hid l5
  have m4' := Lib.hid m4
  have m5' := Lib.hid m5
  have hR' := Lib.hid hR
  have hpI : (p.length : Int) ≤ 140737488351232 := by omega
  have hqI : (q.length : Int) ≤ 140737488351232 := by omega
  clear hR ha hb l4 l5 m4 m5
  go_enter Tryz.func116, Tryz.ntmps116
  go_wp2_with fail
  go_loopw [5] (fun i wr => ∃ k : Nat, k ≤ p.length ∧ k ≤ q.length ∧ i = .int .i64 k ∧ Ext w wr ∧ Hid (wc cmpPe (p.map toE) (q.map toE) = wc cmpPe ((p.map toE).drop k) ((q.map toE).drop k))) (fun i _ => q.length - (intOf i).toNat)
  case atStart => exact ⟨0, Nat.zero_le _, Nat.zero_le _, rfl, Ext.refl _, Lib.hid (by simp)⟩
  case round =>
    obtain ⟨k, hk, hk2, rfl, hEr, hall⟩ := hrel
    rename World => wr
    by_cases hlt : k < p.length ∧ k < q.length
    · obtain ⟨hlt, hlt2⟩ := hlt
      obtain ⟨cs, hc, hcs⟩ := l5'.out k hlt
      obtain ⟨ds, hd, hds⟩ := m5'.out k hlt2
      obtain ⟨rfl, -⟩ := l4'.out (by omega)
      obtain ⟨rfl, -⟩ := m4'.out (by omega)
      obtain ⟨x0, x1, x2, x3, x4, x5, x6, x7, x8, x9, x10, rfl⟩ := kEl_eleven hcs
      obtain ⟨y0, y1, y2, y3, y4, y5, y6, y7, y8, y9, y10, rfl⟩ := kEl_eleven hds
      have q0 := hEr.keep (hc 0 (by decide))
      have q1 := hEr.keep (hc 1 (by decide))
      have q2 := hEr.keep (hc 2 (by decide))
      have q3 := hEr.keep (hc 3 (by decide))
      have q4 := hEr.keep (hc 4 (by decide))
      have q5 := hEr.keep (hc 5 (by decide))
      have q6 := hEr.keep (hc 6 (by decide))
      have q7 := hEr.keep (hc 7 (by decide))
      have q8 := hEr.keep (hc 8 (by decide))
      have q9 := hEr.keep (hc 9 (by decide))
      have q10 := hEr.keep (hc 10 (by decide))
      have r0 := hEr.keep (hd 0 (by decide))
      have r1 := hEr.keep (hd 1 (by decide))
      have r2 := hEr.keep (hd 2 (by decide))
      have r3 := hEr.keep (hd 3 (by decide))
      have r4 := hEr.keep (hd 4 (by decide))
      have r5 := hEr.keep (hd 5 (by decide))
      have r6 := hEr.keep (hd 6 (by decide))
      have r7 := hEr.keep (hd 7 (by decide))
      have r8 := hEr.keep (hd 8 (by decide))
      have r9 := hEr.keep (hd 9 (by decide))
      have r10 := hEr.keep (hd 10 (by decide))
      simp only [show kEl.size = 11 from rfl, Nat.add_zero] at q0 q1 q2 q3 q4 q5 q6 q7 q8 q9 q10 r0 r1 r2 r3 r4 r5 r6 r7 r8 r9 r10
      have hv' := Lib.hid hcs
      have hu' := Lib.hid hds
      have hi1 : (k : Int) < (p.length : Int) := by omega
      have hi2 : (k : Int) < (q.length : Int) := by omega
      have hkm : (k : Int) + 1 ≤ 9223372036854775807 := by omega
      have hx1 : IntKind.i64.wrap ((p.length : Int) - 1) = (p.length : Int) - 1 := IntWalk.i64_in _ (by omega)
      have hx2 : IntKind.i64.wrap ((q.length : Int) - 1) = (q.length : Int) - 1 := IntWalk.i64_in _ (by omega)
      have hw0 : wc cmpPe ((p.map toE).drop k) ((q.map toE).drop k) = wc cmpPe (toE p[k] :: (p.map toE).drop (k + 1)) (toE q[k] :: (q.map toE).drop (k + 1)) := by
        rw [wc_drop (by simpa using hlt) (by simpa using hlt2), List.getElem_map, List.getElem_map]
      have hf0 : fl ((p.map toE).drop (k + 1)) ((q.map toE).drop (k + 1)) = _ := fl_drop (by simpa using hlt) (by simpa using hlt2)
      rw [List.length_map, List.length_map] at hf0
      have hw0' := Lib.hid (hall.out.trans hw0)
      have hf0' := Lib.hid hf0
      clear hc hd hcs hds hw0 hf0 hall
      go_wp2_with fail
      refine wp_region_script [0, 1, 2, 3, 4, 5, 6, 7, 9] [] (fun w' => w' = wr.drew) [(.read, 0), (.read, 1), (.read, 2), (.read, 3), (.read, 4), (.read, 5), (.read, 6), (.read, 7), (.one, 8), (.pure, 9)] (by kernel_rfl) (by kernel_rfl) ?_
      iterate 8 (first | (apply scr_r; (· rfl); (· (first | rfl | (simp [Region.wanted, yielded, go_sem]; done) | (simp [Region.wanted, yielded, go_sem, *]; done))); (· (go_simp; try rfl)); (· (simp [go_sem]; try rfl))) | (apply scr_r0; (· rfl); (· (first | rfl | (simp [Region.wanted, yielded, go_sem]; done) | (simp [Region.wanted, yielded, go_sem, *]; done))); (· (simp [go_sem]; try rfl))))
      refine scr_one rfl rfl (fun K hK => ?_)
      go_simp
      refine specCompareElems_c (cs := [x0, x1, x2, x3, x4, x5, x6, x7, x8, x9, x10]) (ds := [y0, y1, y2, y3, y4, y5, y6, y7, y8, y9, y10]) (kEl.mv hv'.out (hEr.drew.mv _)) (kEl.mv hu'.out (hEr.drew.mv _)) _ ?_
      obtain ⟨z, hz⟩ : ∃ z, cmpPe (toE p[k]) (toE q[k]) = z := ⟨_, rfl⟩
      rw [hz]
      intro w3 hE3
      refine hK _ _ (fun h => by simp at h) ?_
      clear hK
      have hz' := Lib.hid hz
      have hE3' := Lib.hid (hEr.drew.trans hE3)
      clear hz q0 q1 q2 q3 q4 q5 q6 q7 q8 q9 q10 r0 r1 r2 r3 r4 r5 r6 r7 r8 r9 r10 hEr hE3
      (apply scr_pure'; (· rfl); (· rfl); (· (intro w'; go_simp; try rfl)); (· (simp [go_sem]; try rfl)))
      refine scr_end ?_
      simp only [Exit.then]
      by_cases hz0 : z = 0
      · have hzb : (z == 0) = true := by rw [hz0]; rfl
        go_wp2_with fail
        go_roundw
        case rel => exact ⟨k + 1, by omega, by omega, by go_num, hE3'.out, Lib.hid (by rw [hw0'.out, wc_eq0 (hz'.out.trans hz0)])⟩
        case measure => simp [intOf]; omega
      · have hzb : (z == 0) = false := by rw [beq_eq_false_iff_ne]; exact hz0
        by_cases e1 : k + 1 = p.length <;> by_cases e2 : k + 1 = q.length
        · have b1 : ((k : Int) == (p.length : Int) - 1) = true := by rw [beq_iff_eq]; omega
          have b2 : ((k : Int) == (q.length : Int) - 1) = true := by rw [beq_iff_eq]; omega
          have hres : wc cmpPe (p.map toE) (q.map toE) = z := by rw [hw0'.out, wc, hf0'.out, if_pos e1, if_pos e2, hz'.out]; simp [hz0]
          have hres' := Lib.hid hres
          clear e1 e2 hres
          go_wp2_with fail
          have := hR'.out
          rw [hres'.out] at this
          exact this _ hE3'.out
        · have b1 : ((k : Int) == (p.length : Int) - 1) = true := by rw [beq_iff_eq]; omega
          have b2 : ((k : Int) == (q.length : Int) - 1) = false := by rw [beq_eq_false_iff_ne]; omega
          have hres : wc cmpPe (p.map toE) (q.map toE) = -1 := by rw [hw0'.out, wc, hf0'.out, if_pos e1, if_neg e2]; rfl
          have hres' := Lib.hid hres
          clear e1 e2 hres
          go_wp2_with fail
          have := hR'.out
          rw [hres'.out] at this
          exact this _ hE3'.out
        · have b1 : ((k : Int) == (p.length : Int) - 1) = false := by rw [beq_eq_false_iff_ne]; omega
          have b2 : ((k : Int) == (q.length : Int) - 1) = true := by rw [beq_iff_eq]; omega
          have hres : wc cmpPe (p.map toE) (q.map toE) = 1 := by rw [hw0'.out, wc, hf0'.out, if_neg e1, if_pos e2]; rfl
          have hres' := Lib.hid hres
          clear e1 e2 hres
          go_wp2_with fail
          have := hR'.out
          rw [hres'.out] at this
          exact this _ hE3'.out
        · have b1 : ((k : Int) == (p.length : Int) - 1) = false := by rw [beq_eq_false_iff_ne]; omega
          have b2 : ((k : Int) == (q.length : Int) - 1) = false := by rw [beq_eq_false_iff_ne]; omega
          have hres : wc cmpPe (p.map toE) (q.map toE) = z := by rw [hw0'.out, wc, hf0'.out, if_neg e1, if_neg e2, hz'.out]; simp [hz0]
          have hres' := Lib.hid hres
          clear e1 e2 hres
          go_wp2_with fail
          have := hR'.out
          rw [hres'.out] at this
          exact this _ hE3'.out
    · have hend : wc cmpPe (p.map toE) (q.map toE) = cmpI (p.length : Int) (q.length : Int) := by
        have e : (p.map toE).drop k = [] ∨ (q.map toE).drop k = [] := by
          simp only [List.drop_eq_nil_iff, List.length_map]
          omega
        rw [hall.out, wc_end e, List.length_drop, List.length_drop, List.length_map, List.length_map]
        rw [Int.ofNat_sub hk, Int.ofNat_sub hk2]
        unfold cmpI
        repeat' split
        all_goals omega
      rw [hend] at hR'
      clear hall hend
      by_cases hl1 : k < p.length
      · have hl2 : ¬ k < q.length := fun h => hlt ⟨hl1, h⟩
        have hi1 : (k : Int) < (p.length : Int) := by omega
        have hi2 : ¬ (k : Int) < (q.length : Int) := by omega
        clear hlt
        go_wp2_with fail
        refine specCompareInts_c _ ?_
        intro w3 hE3
        dsimp only
        go_wp2_with fail
        exact hR'.out w3 (hEr.trans hE3)
      · have hi1 : ¬ (k : Int) < (p.length : Int) := by omega
        clear hlt
        go_wp2_with fail
        refine specCompareInts_c _ ?_
        intro w3 hE3
        dsimp only
        go_wp2_with fail
        exact hR'.out w3 (hEr.trans hE3)
end Go.Proofs.YtihapgangilncaaGreat
namespace Go.Proofs.YtihapgangilncaaGreat
open Go.RowKit
set_option linter.unusedSimpArgs false

def wE (p q : List EL) : Int := wc cmpPe (p.map toE) (q.map toE)
def AtP (s : List (List EL)) (p : List EL) (i : Nat) : Prop := i ≤ s.length ∧ (∀ j (h : j < s.length), j < i → wE s[j] p < 0) ∧ ∀ j (h : j < s.length), i ≤ j → 0 ≤ wE s[j] p

set_option maxRecDepth 100000 in
set_option maxHeartbeats 4000000 in
set_option pp.maxSteps 1000000 in
set_option pp.deepTerms true in
theorem place_c {w : World} {X Y : List Nat} {sv pv : Value} {s : List (List EL)} {p : List EL} (hs : IsSl kPth 24 w X sv s) (hp : IsSl kEl 168 w Y pv p) (hmono : ∀ i j (hi : i < s.length) (hj : j < s.length), i ≤ j → wE s[j] p < 0 → wE s[i] p < 0)
    (R : Ending → World → Prop) (hR : ∀ w' i, Ext w w' → AtP s p i → R (.returned (.tuple #[.int .i64 (i : Int), .bool (hasAtC wE s p i)])) w') :
    Calls Tryz.prog 59 #[sv, pv] w R := by
  have hpo := hp.one
  obtain ⟨o, c, b, off, rfl, l2, l3, l4, l5⟩ := id hs.ex
  have l4' := Lib.hid l4
  have l5' := Lib.hid l5
  have hp' := Lib.hid hp
  have hm' := Lib.hid hmono
  have hR' := Lib.hid hR
  have hsI : (s.length : Int) ≤ 140737488351232 := by omega
  clear hR hs l4 l5 l3 l2 hp hmono
  go_enter Tryz.func59, Tryz.ntmps59
  go_wp2_with fail
  go_loopw [6, 7, 8] (fun lo hi _ wr => ∃ a b : Nat, lo = .int .i64 a ∧ hi = .int .i64 b ∧ a ≤ b ∧ b ≤ s.length ∧ Ext w wr ∧ Hid ((∀ j (h : j < s.length), j < a → wE s[j] p < 0) ∧ ∀ j (h : j < s.length), b ≤ j → 0 ≤ wE s[j] p))
    (fun lo hi _ _ => (intOf hi).toNat - (intOf lo).toNat)
  case atStart => exact ⟨0, s.length, rfl, rfl, Nat.zero_le _, Nat.le_refl _, Ext.refl _, Lib.hid ⟨fun j _ hj => by omega, fun j hj h => by omega⟩⟩
  case round =>
    obtain ⟨a, z, rfl, rfl, haz, hzl, hE, hI⟩ := hrel
    rename World => wr
    by_cases hlt : a < z
    · obtain ⟨m, hm⟩ : ∃ m, a + (z - a) / 2 = m := ⟨_, rfl⟩
      have hml : m < s.length := by omega
      have hmz : m < z := by omega
      have ham : a ≤ m := by omega
      obtain ⟨rfl, -⟩ := l4'.out (by omega)
      obtain ⟨ms, hc, hms⟩ := l5'.out m hml
      obtain ⟨mv, rfl, hmv⟩ := hms
      have x0 := hE.keep (hc 0 (by decide))
      simp only [show kPth.size = 1 from rfl, Nat.add_zero, Nat.mul_one, List.getElem?_cons_zero] at x0
      have hmvo := hmv.one
      have hmv' := Lib.hid hmv
      have hltI : (a : Int) < (z : Int) := by omega
      have hw1 : IntKind.i64.wrap ((z : Int) - (a : Int)) = (z : Int) - (a : Int) := IntWalk.i64_in _ (by omega)
      have hmI : (m : Int) < (s.length : Int) := by omega
      have hme : (a : Int) + ((z : Int) - (a : Int)) / 2 = (m : Int) := by omega
      have hm0 : (0 : Int) ≤ (m : Int) := by omega
      obtain ⟨y, hy⟩ : ∃ y, wE (s[m]'hml) p = y := ⟨_, rfl⟩
      have hy' := Lib.hid hy
      have hm2 := Lib.hid hml
      have hE' := Lib.hid hE
      clear hc hmv hy hE
      go_wp2_with fail
      refine walkCompare_c (hmv'.out.mv (hE'.out.mv X) (by decide)) (hp'.out.mv (hE'.out.mv Y) (by decide)) _ ?_
      intro w9 hE9
      have hE9' := Lib.hid (hE'.out.trans hE9)
      clear hE9
      have hyy : wc cmpPe ((s[m]'hm2.out).map toE) (p.map toE) = y := hy'.out
      rw [hyy]
      clear hyy x0
      dsimp only
      by_cases hneg : y < 0
      · go_wp2_with fail
        refine ⟨⟨m + 1, z, by go_num, rfl, by omega, hzl, hE9'.out, Lib.hid ⟨fun j h hj => ?_, hI.out.2⟩⟩, ?_⟩
        · exact hm'.out j m h hm2.out (by omega) (by rw [hy'.out]; exact hneg)
        · simp [intOf]; omega
      · go_wp2_with fail
        refine ⟨⟨a, m, rfl, rfl, by omega, by omega, hE9'.out, Lib.hid ⟨hI.out.1, fun j h hj => ?_⟩⟩, ?_⟩
        · exact Int.not_lt.1 fun hc => hneg (by
            have := hm'.out m j hm2.out h (by omega) hc
            rw [hy'.out] at this
            exact this)
        · simp [intOf]; omega
    · obtain rfl : a = z := by omega
      have hltI : ¬ (a : Int) < (a : Int) := by omega
      have hat : AtP s p a := ⟨hzl, hI.out.1, fun j h hj => hI.out.2 j h hj⟩
      have hat' := Lib.hid hat
      clear hat hI
      by_cases hin : a < s.length
      · obtain ⟨rfl, -⟩ := l4'.out (by omega)
        obtain ⟨ms, hc, hms⟩ := l5'.out a hin
        obtain ⟨mv, rfl, hmv⟩ := hms
        have x0 := hE.keep (hc 0 (by decide))
        simp only [show kPth.size = 1 from rfl, Nat.add_zero, Nat.mul_one, List.getElem?_cons_zero] at x0
        have hmvo := hmv.one
        have hmv' := Lib.hid hmv
        have hini : (a : Int) < (s.length : Int) := by omega
        have hh : hasAtC wE s p a = decide (wE (s[a]'hin) p = 0) := by unfold hasAtC; rw [List.getElem?_eq_getElem hin]
        have hh' := Lib.hid hh
        have hE' := Lib.hid hE
        clear hc hmv hh hE
        go_wp2_with fail
        refine walkCompare_c (hmv'.out.mv (hE'.out.mv X) (by decide)) (hp'.out.mv (hE'.out.mv Y) (by decide)) _ ?_
        obtain ⟨y, hy⟩ : ∃ y, wE (s[a]'hin) p = y := ⟨_, rfl⟩
        have hyy : wc cmpPe ((s[a]'hin).map toE) (p.map toE) = y := hy
        rw [hyy]
        rw [hy] at hh'
        intro w9 hE9
        have hE9' := Lib.hid (hE'.out.trans hE9)
        clear hE9 hyy hy x0
        dsimp only
        by_cases h0 : y = 0
        · have hyb : (y == 0) = true := by rw [beq_iff_eq]; exact h0
          go_wp2_with fail
          have := hR'.out w9 a hE9'.out hat'.out
          rw [hh'.out, decide_eq_true h0] at this
          exact this
        · have hyb : (y == 0) = false := by rw [beq_eq_false_iff_ne]; exact h0
          go_wp2_with fail
          have := hR'.out w9 a hE9'.out hat'.out
          rw [hh'.out, decide_eq_false h0] at this
          exact this
      · have hini : ¬ (a : Int) < (s.length : Int) := by omega
        have hh : hasAtC wE s p a = false := by unfold hasAtC; rw [List.getElem?_eq_none (by omega)]
        have hh' := Lib.hid hh
        have hE' := Lib.hid hE
        clear hh hE
        go_wp2_with fail
        have := hR'.out wr a hE'.out hat'.out
        rw [hh'.out] at this
        exact this
end Go.Proofs.YtihapgangilncaaGreat
namespace Go.Proofs.YtihapgangilncaaGreat
open Go.RowKit
set_option linter.unusedSimpArgs false

set_option maxRecDepth 100000 in
set_option maxHeartbeats 4000000 in
theorem newSet_c {w : World} (R : Ending → World → Prop) (hR : ∀ w', Ext w w' → w'.heap[w.heap.size]? = some (.cells #[.slice none 0 0, .slice none 0 0] 126 (0, 0)) → R (.returned (.pointer (some ⟨w.heap.size, 0, none⟩))) w') :
    Calls Tryz.prog 113 #[.slice none 0 0] w R := by
  have hR' := Lib.hid hR
  clear hR
  go_enter Tryz.func113, Tryz.ntmps113
  go_wp2_with fail
  refine abs1 (G := fun wr => Code.wp _ _ _ _ wr) ?_
  intro w1 hE1 hb1 hs1
  have hb1' := Lib.hid hb1
  clear hb1 hs1
  go_loopw [5, 10] (fun _ i wr => i = .int .i64 0 ∧ wr = w1) (fun _ i _ => 0)
  case atStart => exact ⟨rfl, rfl⟩
  case round =>
    obtain ⟨rfl, rfl⟩ := hrel
    go_wp2_with fail
    exact hR'.out _ hE1 hb1'.out

theorem tree_len {β : Type} {G : PEl → Prop} (ho : Cmpr cmpPe G) {t : Tr β PEl} (hw : Tr.Wf cmpPe G t) {L : List (List PEl)} (hL : ∀ p ∈ L, GP G p) (hh : ∀ q, GP G q → (t.has cmpPe q ↔ ∃ p ∈ L, p ≠ [] ∧ wc cmpPe p q = 0)) : t.paths.length ≤ L.length :=
  pigeon (wc_ord ho) (Tr.paths_srt ho hw).dst (Tr.paths_good hw) hL fun x hx => by
    obtain ⟨p, hp, _, h0⟩ := (hh x (Tr.paths_good hw x hx)).1 ⟨x, hx, (wc_ord ho).self x⟩
    exact ⟨p, hp, h0⟩

set_option maxRecDepth 100000 in
set_option maxHeartbeats 8000000 in
set_option pp.maxSteps 1000000 in
set_option pp.deepTerms true in
theorem toSet_c {G : PEl → Prop} (ho : Cmpr cmpPe G) {w : World} {X : List Nat} {lv : Value} {l : List (List EL)} (hl : IsSl kPth 24 w X lv l) (hX : Old X w) (hG : ∀ p ∈ l, GP G (p.map toE)) (hbytes : (l.length + 1) * 40 ≤ 140737488351232) (R : Ending → World → Prop)
    (hR : ∀ w' (t : BT), Ext w w' → Store w' X (BT.flat t) → (∀ b ∈ bls (BT.flat t), w.heap.size ≤ b) → Tr.Wf cmpPe G t → (∀ q, GP G q → (Tr.has cmpPe t q ↔ ∃ p ∈ l.map (·.map toE), p ≠ [] ∧ wc cmpPe p q = 0)) → R (.returned (.pointer (some ⟨BT.b t, 0, none⟩))) w') :
    Calls Tryz.prog 58 #[lv] w R := by
  obtain ⟨o, c, b, off, rfl, l2, l3, l4, l5⟩ := id hl.ex
  have l4' := Lib.hid l4
  have l5' := Lib.hid l5
  have hX' := Lib.hid hX
  have hG' := Lib.hid hG
  have hR' := Lib.hid hR
  have hbytes' := Lib.hid hbytes
  have hlI : (l.length : Int) ≤ 140737488351232 := by omega
  clear hR hX hl l4 l5 hG hbytes l3
  go_enter Tryz.func58, Tryz.ntmps58
  go_wp2_with fail
  refine newSet_c _ ?_
  intro w1 hE1 hb1
  have hoX : w.heap.size ∉ X := fun h => by have := hX'.out _ h; omega
  have hst0 : Hid (Store w1 X (BT.flat (.mk (w.heap.size, .slice none 0 0, .slice none 0 0) [] []))) := Lib.hid (by
    rw [BT.flat_eq]
    exact Store.mk1 (n := ⟨w.heap.size, .slice none 0 0, .slice none 0 0, [], []⟩) hb1 (Row.nil _ _ _ _) (Row.nil _ _ _ _) hoX)
  have hwf0 : Hid (Tr.Wf cmpPe G (.mk (w.heap.size, .slice none 0 0, .slice none 0 0) [] [] : BT)) := Lib.hid (.mk (by simp [SrtC]) (by simp) (by simp [SrtC]) (by simp) (by simp) (by simp))
  have hhas0 : Hid (∀ q, GP G q → (Tr.has cmpPe (.mk (w.heap.size, .slice none 0 0, .slice none 0 0) [] [] : BT) q ↔ ∃ p ∈ (l.take 0).map (·.map toE), p ≠ [] ∧ wc cmpPe p q = 0)) := Lib.hid (fun q hq => by
    constructor
    · rintro ⟨z, hz, -⟩
      rw [Tr.paths_nil] at hz
      simp at hz
    · simp)
  have hbl0 : Hid (∀ b ∈ bls (BT.flat (.mk (w.heap.size, .slice none 0 0, .slice none 0 0) [] [])), w.heap.size ≤ b) := Lib.hid (fun b hb => by
    rw [BT.flat_eq] at hb
    simp [bls, Nd.bl, vb, Value.ownBlock, BT.flatL] at hb
    omega)
  clear hb1 hoX
  dsimp only
  go_wp2_with fail
  go_loopw [5, 9] (fun _ i wr => ∃ (k : Nat) (t : BT), k ≤ l.length ∧ i = .int .i64 k ∧ Ext w wr ∧ BT.b t = w.heap.size ∧ Hid (Store wr X (BT.flat t)) ∧ Hid (Tr.Wf cmpPe G t) ∧ Hid (∀ q, GP G q → (Tr.has cmpPe t q ↔ ∃ p ∈ (l.take k).map (·.map toE), p ≠ [] ∧ wc cmpPe p q = 0)) ∧ Hid (∀ b ∈ bls (BT.flat t), w.heap.size ≤ b)) (fun _ i _ => l.length - (intOf i).toNat)
  case atStart => exact ⟨0, _, Nat.zero_le _, rfl, hE1, rfl, hst0, hwf0, hhas0, hbl0⟩
  case round =>
    obtain ⟨k, t, hk, rfl, hEr, htb, hst, hwf, hhas, hbl⟩ := hrel
    rename World => wr
    clear hst0 hwf0 hhas0 hbl0
    by_cases hlt : k < l.length
    · obtain ⟨cs, hc, hcs⟩ := l5'.out k hlt
      obtain ⟨rfl, -⟩ := l4'.out (by omega)
      obtain ⟨pv, rfl, hpv⟩ := hcs
      have x0 := hEr.keep (hc 0 (by decide))
      simp only [show kPth.size = 1 from rfl, Nat.add_zero, Nat.mul_one, List.getElem?_cons_zero] at x0
      have hpo := hpv.one
      have hi1 : (k : Int) < (l.length : Int) := by omega
      have hkm : (k : Int) + 1 ≤ 9223372036854775807 := by omega
      have hGk := Lib.hid (hG'.out _ (List.getElem_mem hlt))
      have hpv' := Lib.hid (hpv.mv ((hEr.mv X).moreL (Z := bls (BT.flat t)) hbl.out) (by decide))
      obtain ⟨p, hp⟩ : ∃ p, l[k]'hlt = p := ⟨_, rfl⟩
      have htk := Lib.hid (show (l.take (k + 1)).map (·.map toE) = (l.take k).map (·.map toE) ++ [p.map toE] by rw [List.take_succ_eq_append_getElem hlt, List.map_append, hp]; rfl)
      rw [hp] at hGk hpv'
      have hkl : t.paths.length ≤ k := by
        have := tree_len ho hwf.out (L := (l.take k).map (·.map toE)) (fun x hx => by
          obtain ⟨e, he, rfl⟩ := List.mem_map.1 hx
          exact hG'.out e (List.mem_of_mem_take he)) hhas.out
        rw [List.length_map, List.length_take] at this
        omega
      have hkl' := Lib.hid hkl
      clear hc hpv hp hkl
      go_wp2_with fail
      refine toPath_c (X := bls (BT.flat t) ++ X) hpv'.out (fun b hb => ?_) _ ?_
      · rcases List.mem_append.1 hb with hb | hb
        · exact hst.out.lt b hb
        · exact Nat.lt_of_lt_of_le (hX'.out b hb) hEr.size
      intro w3 qv hE3 hq
      have hqo := hq.one
      have hq' := Lib.hid hq
      have hEw3 := Lib.hid (hEr.trans hE3)
      have hst3 := Lib.hid (hst.out.ext hE3)
      clear hq hE3 hst hEr
      dsimp only
      go_wp2_with fail
      rw [← htb]
      refine setInsert_c ho hst3.out hwf.out (hX'.out.le hEw3.out.size) hq'.out hGk.out (Nat.le_trans (Nat.mul_le_mul_right 40 (Nat.succ_le_succ (Nat.le_trans hkl'.out (Nat.le_of_lt hlt)))) hbytes'.out) _ ?_ ?_
      · intro hpe w4 hE4
        have hr : Hid (∀ q, GP G q → (Tr.has cmpPe t q ↔ ∃ p ∈ (l.take (k + 1)).map (·.map toE), p ≠ [] ∧ wc cmpPe p q = 0)) := Lib.hid (fun q hq => by
          rw [hhas.out q hq, htk.out, hpe]
          simp [or_and_right, exists_or])
        have hst4 := Lib.hid (hst3.out.ext hE4)
        have hEw4 := Lib.hid (hEw3.out.trans hE4)
        clear hpe hE4
        rw [htb]
        dsimp only
        go_wp2_with fail
        go_roundw
        case rel => exact ⟨k + 1, t, by omega, by go_num, hEw4.out, htb, hst4, hwf, hr, hbl⟩
        case measure => simp [intOf]; omega
      · intro hpe w4 t4 ht4
        have hr : Hid (∀ q, GP G q → (Tr.has cmpPe t4 q ↔ ∃ p ∈ (l.take (k + 1)).map (·.map toE), p ≠ [] ∧ wc cmpPe p q = 0)) := Lib.hid (fun q hq => by
          rw [ht4.has q hq, hhas.out q hq, htk.out]
          simp only [List.mem_append, List.mem_singleton, or_and_right, exists_or, exists_eq_left]
          simp [hpe])
        have hst4 := Lib.hid ht4.st
        have hwf4 := Lib.hid ht4.wf
        have hEw4 := Lib.hid (hEw3.out.mutated ht4.mu hbl.out)
        have hbl4 : Hid (∀ b ∈ bls (BT.flat t4), w.heap.size ≤ b) := Lib.hid (fun b hb => (ht4.bl b hb).elim (hbl.out b) (fun h => Nat.le_trans hEw3.out.size h))
        have htb4 : BT.b t4 = w.heap.size := ht4.b.trans htb
        clear hpe ht4
        rw [htb]
        dsimp only
        go_wp2_with fail
        go_roundw
        case rel => exact ⟨k + 1, t4, by omega, by go_num, hEw4.out, htb4, hst4, hwf4, hr, hbl4⟩
        case measure => simp [intOf]; omega
    · have ek : k = l.length := by omega
      subst ek
      have hi1 : ¬ (l.length : Int) < (l.length : Int) := by omega
      have hfin := hhas.out
      rw [List.take_of_length_le (Nat.le_refl _)] at hfin
      have hfin' := Lib.hid hfin
      clear hfin hhas
      go_wp2_with fail
      rw [← htb]
      exact hR'.out wr t hEr hst.out hbl.out hwf.out hfin'.out
end Go.Proofs.YtihapgangilncaaGreat
