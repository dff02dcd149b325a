/- Rows made at full length and filled by copy: FieldList.Copy. (PathElement).Copy and (PathElementSet).Copy. (peCopy printed by gen_pecopy.py) Unions and intersections of sets of paths (plain). spec.walkCompare: the order of a walk (printed by gen_walkc.py). -/
import Derived.Test.YtihapgangilncaaGreatKESCmp
import Derived.Laws.OwnMore
import Derived.Test.YtihapgangilncaaGreatKESetL
namespace Go.Proofs.YtihapgangilncaaGreat
open Go.RowKit
set_option linter.unusedSimpArgs false

section
variable {P : Program}
theorem wpL_makeN {w : World} {ops : Array Oper} {rest : List Oper} {o : Oper} {a : Act} {Q : Exit → Act → World → Prop} (hgd : o.guard = none) (t : TypeId) (lo co : Operand) (ho : o.op = .makeSlice t lo co)
    {e : TypeId} {z : Value} {size bytes : Nat} (ht : P.underlying t = some (.slice e)) (hi : (P.info? e).map (fun i => (i.zero, i.size, i.bytes)) = some (some z, size, bytes))
    {n : Nat} (hl : a.eval lo = .int .i64 (n : Int)) (hc : a.eval co = .int .i64 (n : Int)) (hbytes : bytes * n ≤ 281474976710656) (h63 : n ≤ maxLen)
    (h : ∀ w' cur, w'.heap[w.heap.size]? = some (.cells cur e (0, 0)) → cur.size = n * size → Ext w w' → wpList P ops Q rest (a.put o.dst (.slice (some ⟨w.heap.size, 0, none⟩) n n)) w') : wpList P ops Q (o :: rest) a w := by
  obtain ⟨i, hi1, hz, hsize, hby⟩ := info_parts hi
  subst hby
  obtain ⟨w', hr, h2, h3⟩ := run_make_full (P := P) w 0 t e i z size ht hi1 hz hsize .i64 .i64 n hbytes h63 (Nat.zero_le _)
  refine wpList_plain hgd fun _ hK => ?_
  unfold Oper.wp execOp
  simp only [ho, Sem.run_bind, Sem.run_pure, Result.andThen_ok, hl, hc, hr]
  rcases h2.2 with ⟨e1, -⟩ | ⟨g, cap, cur, e1, -, hg, -, -, hcs, -⟩
  · cases e1
  · cases e1
    exact hK _ _ (h w' cur hg hcs (World.grownBy.ext h3))
end

/-- the cells of a slice, row by row -/
theorem IsSl.rows {α : Type} {k : Kind α} {bytes : Nat} {w : World} {X : List Nat} {v : Value} {us : List α} (h : IsSl k bytes w X v us) :
    ∃ o c b off, ∃ rows : List (List Value), v = .slice o us.length c ∧ us.length ≤ c ∧ us.length * bytes ≤ 140737488351232 ∧ (0 < us.length → o = some ⟨b, off, none⟩ ∧ b ∉ X) ∧ All2 (k.is w X) rows us ∧
      ∀ j y, rows.flatten[j]? = some y → w.cell? ⟨b, off + j, none⟩ = some y := by
  obtain ⟨o, c, b, off, h1, h2, h3, h4, h5⟩ := h.ex
  have key : ∀ m, m ≤ us.length → ∃ rows : List (List Value), All2 (k.is w X) rows (us.take m) ∧ rows.flatten.length = m * k.size ∧ ∀ j y, rows.flatten[j]? = some y → w.cell? ⟨b, off + j, none⟩ = some y := by
    intro m
    induction m with
    | zero => intro _; exact ⟨[], .nil, by simp, fun j y hj => by simp at hj⟩
    | succ m ih =>
      intro hm
      obtain ⟨rows, r1, r2, r3⟩ := ih (by omega)
      obtain ⟨cs, hc, hcs⟩ := h5 m (by omega)
      have hl := k.len hcs
      refine ⟨rows ++ [cs], ?_, ?_, fun j y hj => ?_⟩
      · rw [List.take_succ_eq_append_getElem (by omega)]
        exact r1.snoc hcs
      · rw [List.flatten_append, List.length_append, r2, Nat.add_mul]; simp [hl]
      · rw [List.flatten_append] at hj
        by_cases hlt : j < rows.flatten.length
        · rw [List.getElem?_append_left hlt] at hj
          exact r3 j y hj
        · rw [List.getElem?_append_right (by omega)] at hj
          simp only [List.flatten_cons, List.flatten_nil, List.append_nil] at hj
          have hjl : j - rows.flatten.length < k.size := by
            have := (List.getElem?_eq_some_iff.1 hj).1
            omega
          have := hc (j - rows.flatten.length) hjl
          rw [hj] at this
          rw [← this]
          congr 2
          rw [r2] at hlt ⊢
          omega
  obtain ⟨rows, r1, -, r3⟩ := key us.length (Nat.le_refl _)
  rw [List.take_of_length_le (Nat.le_refl _)] at r1
  exact ⟨o, c, b, off, rows, h1, h2, h3, h4, r1, r3⟩

theorem Tryz.infoFd : (Tryz.prog.info? 223).map (·.size) = some 2 := by kernel_rfl

end Go.Proofs.YtihapgangilncaaGreat
namespace Go.Proofs.YtihapgangilncaaGreat
open Go.RowKit
set_option linter.unusedSimpArgs false

theorem Tryz.size81 : (Tryz.prog.info? 81).map (·.size) = some 1 := by kernel_rfl

end Go.Proofs.YtihapgangilncaaGreat
namespace Go.Proofs.YtihapgangilncaaGreat
open Go.RowKit
set_option linter.unusedSimpArgs false
set_option linter.unusedVariables false

section
variable {α : Type} {c : α → α → Int} {G : α → Prop}
/-- no two are equal -/
def Dst (c : α → α → Int) (l : List α) : Prop := l.Pairwise (fun a b => c a b ≠ 0)
theorem SrtC.dst {l : List α} (h : SrtC c l) : Dst c l := h.imp fun h => by omega
/-- a list without equal ones, all of which another one has, is not the longer one -/
theorem pigeon (h : Cmpr c G) : ∀ {l m : List α}, Dst c l → (∀ x ∈ l, G x) → (∀ x ∈ m, G x) → (∀ x ∈ l, hasC c m x) → l.length ≤ m.length
  | [], _, _, _, _, _ => by simp
  | x :: l, m, hd, hl, hm, hh => by
    obtain ⟨y, hy, h0⟩ := hh x (by simp)
    obtain ⟨m1, m2, rfl⟩ := List.append_of_mem hy
    have hd1 := List.pairwise_cons.1 hd
    have := pigeon h (l := l) (m := m1 ++ m2) hd1.2 (fun z hz => hl z (by simp [hz])) (fun z hz => hm z (by
      rcases List.mem_append.1 hz with hz | hz <;> simp [hz])) (fun z hz => by
      obtain ⟨q, hq, q0⟩ := hh z (by simp [hz])
      rcases List.mem_append.1 hq with hq | hq
      · exact ⟨q, by simp [hq], q0⟩
      · rcases List.mem_cons.1 hq with e | hq
        · subst e
          have := h.congr (hm q (by simp)) (hl x (by simp)) (hl z (by simp [hz])) h0
          exact absurd (this ▸ q0) (hd1.1 z hz)
        · exact ⟨q, by simp [hq], q0⟩)
    simp only [List.length_cons, List.length_append] at this ⊢
    omega
theorem dst_len (h : Cmpr c G) {l m : List α} (dl : Dst c l) (dm : Dst c m) (gl : ∀ x ∈ l, G x) (gm : ∀ x ∈ m, G x) (hh : ∀ p, G p → (hasC c l p ↔ hasC c m p)) : l.length = m.length :=
  Nat.le_antisymm (pigeon h dl gl gm fun x hx => (hh x (gl x hx)).1 (hasC_self h hx)) (pigeon h dm gm gl fun x hx => (hh x (gm x hx)).2 (hasC_self h hx))
theorem mem_has_mem {l : List α} (P : α → Bool) {p : α} : hasC c (l.filter P) p ↔ ∃ q ∈ l, P q = true ∧ c q p = 0 := by
  simp only [hasC, List.mem_filter]
  constructor
  · rintro ⟨q, ⟨h1, h2⟩, h3⟩; exact ⟨q, h1, h2, h3⟩
  · rintro ⟨q, h1, h2, h3⟩; exact ⟨q, ⟨h1, h2⟩, h3⟩
def hasBl (c : α → α → Int) (l : List α) (p : α) : Bool := l.any fun q => decide (c q p = 0)
theorem hasBl_iff {l : List α} {p : α} : hasBl c l p = true ↔ hasC c l p := by simp [hasBl, hasC]
end

section
variable {α σ : Type} {c : α → α → Int} {G : α → Prop}
end

section
variable {α : Type} {c : α → α → Int} {G : α → Prop}
theorem Tr.wf_parts {β : Type} {s : Tr β α} (h : s.Wf c G) : SrtC c s.ms ∧ (∀ x ∈ s.ms, G x) ∧ SrtC c (s.cs.map (·.1)) ∧ (∀ p ∈ s.cs, G p.1) ∧ (∀ p ∈ s.cs, p.2.paths ≠ []) ∧ ∀ p ∈ s.cs, Tr.Wf c G p.2 := by
  cases h with
  | mk h1 h2 h3 h4 h5 h6 => exact ⟨h1, h2, h3, h4, h5, h6⟩
end
end Go.Proofs.YtihapgangilncaaGreat
namespace Go.Proofs.YtihapgangilncaaGreat
open Go.RowKit
set_option linter.unusedSimpArgs false

theorem wc_eq0 {α : Type} {c : α → α → Int} {x y : α} {xs ys : List α} (h : c x y = 0) : wc c (x :: xs) (y :: ys) = wc c xs ys := by
  rw [wc]
  cases xs <;> cases ys <;> simp [fl, wc, h]
theorem wc_end {α : Type} {c : α → α → Int} {p q : List α} (h : p = [] ∨ q = []) : wc c p q = cmpI (p.length : Int) (q.length : Int) := by
  rcases h with rfl | rfl
  · cases q with
    | nil => simp [wc, cmpI]
    | cons y ys => simp only [wc, cmpI, List.length_nil, List.length_cons]; rw [if_pos (by omega)]
  · cases p with
    | nil => simp [wc, cmpI]
    | cons y ys => simp only [wc, cmpI, List.length_nil, List.length_cons]; rw [if_neg (by omega), if_pos (by omega)]
theorem wc_drop {α : Type} {c : α → α → Int} {p q : List α} {k : Nat} (h1 : k < p.length) (h2 : k < q.length) : wc c (p.drop k) (q.drop k) = wc c (p[k] :: p.drop (k + 1)) (q[k] :: q.drop (k + 1)) := by
  rw [List.drop_eq_getElem_cons h1, List.drop_eq_getElem_cons h2]
theorem fl_drop {α : Type} {p q : List α} {k : Nat} (h1 : k < p.length) (h2 : k < q.length) : fl (p.drop (k + 1)) (q.drop (k + 1)) = if k + 1 = p.length then (if k + 1 = q.length then 0 else -1) else (if k + 1 = q.length then 1 else 0) := by
  have e : ∀ l : List α, k < l.length → (k + 1 = l.length ↔ l.drop (k + 1) = []) := fun l hl => by rw [List.drop_eq_nil_iff]; omega
  simp only [e p h1, e q h2]
  cases p.drop (k + 1) <;> cases q.drop (k + 1) <;> simp [fl]

set_option maxRecDepth 100000 in
set_option maxHeartbeats 4000000 in
set_option pp.maxSteps 1000000 in
set_option pp.deepTerms true in
theorem walkCompare_c {w : World} {X Y : List Nat} {va vb : Value} {p q : List EL} (ha : IsSl kEl 168 w X va p) (hb : IsSl kEl 168 w Y vb q) (R : Ending → World → Prop) (hR : Ends R w (.int .i64 (wc cmpPe (p.map toE) (q.map toE)))) :
    Calls Tryz.prog 116 #[va, vb] w R := by
  obtain ⟨o, c, b, off, rfl, l2, l3, l4, l5⟩ := id ha.ex
  obtain ⟨o2, c2, b2, off2, rfl, m2, m3, m4, m5⟩ := id hb.ex
  have l4' := Lib.hid l4
  have l5' := Lib.hid l5
  have m4' := Lib.hid m4
  have m5' := Lib.hid m5
  have hR' := Lib.hid hR
  have hpI : (p.length : Int) ≤ 140737488351232 := by omega
  have hqI : (q.length : Int) ≤ 140737488351232 := by omega
  clear hR ha hb l4 l5 m4 m5
  go_enter Tryz.func116, Tryz.ntmps116
  go_wp2_with fail
  go_loopw [5] (fun i wr => ∃ k : Nat, k ≤ p.length ∧ k ≤ q.length ∧ i = .int .i64 k ∧ Ext w wr ∧ Hid (wc cmpPe (p.map toE) (q.map toE) = wc cmpPe ((p.map toE).drop k) ((q.map toE).drop k))) (fun i _ => q.length - (intOf i).toNat)
  case atStart => exact ⟨0, Nat.zero_le _, Nat.zero_le _, rfl, Ext.refl _, Lib.hid (by simp)⟩
  case round =>
    obtain ⟨k, hk, hk2, rfl, hEr, hall⟩ := hrel
    rename World => wr
    by_cases hlt : k < p.length ∧ k < q.length
    · obtain ⟨hlt, hlt2⟩ := hlt
      obtain ⟨cs, hc, hcs⟩ := l5'.out k hlt
      obtain ⟨ds, hd, hds⟩ := m5'.out k hlt2
      obtain ⟨rfl, -⟩ := l4'.out (by omega)
      obtain ⟨rfl, -⟩ := m4'.out (by omega)
      obtain ⟨x0, x1, x2, x3, x4, x5, x6, x7, x8, x9, x10, rfl⟩ := kEl_eleven hcs
      obtain ⟨y0, y1, y2, y3, y4, y5, y6, y7, y8, y9, y10, rfl⟩ := kEl_eleven hds
      have q0 := hEr.keep (hc 0 (by decide))
      have q1 := hEr.keep (hc 1 (by decide))
      have q2 := hEr.keep (hc 2 (by decide))
      have q3 := hEr.keep (hc 3 (by decide))
      have q4 := hEr.keep (hc 4 (by decide))
      have q5 := hEr.keep (hc 5 (by decide))
      have q6 := hEr.keep (hc 6 (by decide))
      have q7 := hEr.keep (hc 7 (by decide))
      have q8 := hEr.keep (hc 8 (by decide))
      have q9 := hEr.keep (hc 9 (by decide))
      have q10 := hEr.keep (hc 10 (by decide))
      have r0 := hEr.keep (hd 0 (by decide))
      have r1 := hEr.keep (hd 1 (by decide))
      have r2 := hEr.keep (hd 2 (by decide))
      have r3 := hEr.keep (hd 3 (by decide))
      have r4 := hEr.keep (hd 4 (by decide))
      have r5 := hEr.keep (hd 5 (by decide))
      have r6 := hEr.keep (hd 6 (by decide))
      have r7 := hEr.keep (hd 7 (by decide))
      have r8 := hEr.keep (hd 8 (by decide))
      have r9 := hEr.keep (hd 9 (by decide))
      have r10 := hEr.keep (hd 10 (by decide))
      simp only [show kEl.size = 11 from rfl, Nat.add_zero] at q0 q1 q2 q3 q4 q5 q6 q7 q8 q9 q10 r0 r1 r2 r3 r4 r5 r6 r7 r8 r9 r10
      have hv' := Lib.hid hcs
      have hu' := Lib.hid hds
      have hi1 : (k : Int) < (p.length : Int) := by omega
      have hi2 : (k : Int) < (q.length : Int) := by omega
      have hkm : (k : Int) + 1 ≤ 9223372036854775807 := by omega
      have hx1 : IntKind.i64.wrap ((p.length : Int) - 1) = (p.length : Int) - 1 := IntWalk.i64_in _ (by omega)
      have hx2 : IntKind.i64.wrap ((q.length : Int) - 1) = (q.length : Int) - 1 := IntWalk.i64_in _ (by omega)
      have hw0 : wc cmpPe ((p.map toE).drop k) ((q.map toE).drop k) = wc cmpPe (toE p[k] :: (p.map toE).drop (k + 1)) (toE q[k] :: (q.map toE).drop (k + 1)) := by
        rw [wc_drop (by simpa using hlt) (by simpa using hlt2), List.getElem_map, List.getElem_map]
      have hf0 : fl ((p.map toE).drop (k + 1)) ((q.map toE).drop (k + 1)) = _ := fl_drop (by simpa using hlt) (by simpa using hlt2)
      rw [List.length_map, List.length_map] at hf0
      have hw0' := Lib.hid (hall.out.trans hw0)
      have hf0' := Lib.hid hf0
      clear hc hd hcs hds hw0 hf0 hall
      go_wp2_with fail
      refine wp_region_script [0, 1, 2, 3, 4, 5, 6, 7, 9] [] (fun w' => w' = wr.drew) [(.read, 0), (.read, 1), (.read, 2), (.read, 3), (.read, 4), (.read, 5), (.read, 6), (.read, 7), (.one, 8), (.pure, 9)] (by kernel_rfl) (by kernel_rfl) ?_
      iterate 8 (first | (apply scr_r; (· rfl); (· (first | rfl | (simp [Region.wanted, yielded, go_sem]; done) | (simp [Region.wanted, yielded, go_sem, *]; done))); (· (go_simp; try rfl)); (· (simp [go_sem]; try rfl))) | (apply scr_r0; (· rfl); (· (first | rfl | (simp [Region.wanted, yielded, go_sem]; done) | (simp [Region.wanted, yielded, go_sem, *]; done))); (· (simp [go_sem]; try rfl))))
      refine scr_one rfl rfl (fun K hK => ?_)
      go_simp
      refine specCompareElems_c (cs := [x0, x1, x2, x3, x4, x5, x6, x7, x8, x9, x10]) (ds := [y0, y1, y2, y3, y4, y5, y6, y7, y8, y9, y10]) (kEl.mv hv'.out (hEr.drew.mv _)) (kEl.mv hu'.out (hEr.drew.mv _)) _ ?_
      obtain ⟨z, hz⟩ : ∃ z, cmpPe (toE p[k]) (toE q[k]) = z := ⟨_, rfl⟩
      rw [hz]
      intro w3 hE3
      refine hK _ _ (fun h => by simp at h) ?_
      clear hK
      have hz' := Lib.hid hz
      have hE3' := Lib.hid (hEr.drew.trans hE3)
      clear hz q0 q1 q2 q3 q4 q5 q6 q7 q8 q9 q10 r0 r1 r2 r3 r4 r5 r6 r7 r8 r9 r10 hEr hE3
      (apply scr_pure'; (· rfl); (· rfl); (· (intro w'; go_simp; try rfl)); (· (simp [go_sem]; try rfl)))
      refine scr_end ?_
      simp only [Exit.then]
      by_cases hz0 : z = 0
      · have hzb : (z == 0) = true := by rw [hz0]; rfl
        go_wp2_with fail
        go_roundw
        case rel => exact ⟨k + 1, by omega, by omega, by go_num, hE3'.out, Lib.hid (by rw [hw0'.out, wc_eq0 (hz'.out.trans hz0)])⟩
        case measure => simp [intOf]; omega
      · have hzb : (z == 0) = false := by rw [beq_eq_false_iff_ne]; exact hz0
        by_cases e1 : k + 1 = p.length <;> by_cases e2 : k + 1 = q.length
        · have b1 : ((k : Int) == (p.length : Int) - 1) = true := by rw [beq_iff_eq]; omega
          have b2 : ((k : Int) == (q.length : Int) - 1) = true := by rw [beq_iff_eq]; omega
          have hres : wc cmpPe (p.map toE) (q.map toE) = z := by rw [hw0'.out, wc, hf0'.out, if_pos e1, if_pos e2, hz'.out]; simp [hz0]
          have hres' := Lib.hid hres
          clear e1 e2 hres
          go_wp2_with fail
          have := hR'.out
          rw [hres'.out] at this
          exact this _ hE3'.out
        · have b1 : ((k : Int) == (p.length : Int) - 1) = true := by rw [beq_iff_eq]; omega
          have b2 : ((k : Int) == (q.length : Int) - 1) = false := by rw [beq_eq_false_iff_ne]; omega
          have hres : wc cmpPe (p.map toE) (q.map toE) = -1 := by rw [hw0'.out, wc, hf0'.out, if_pos e1, if_neg e2]; rfl
          have hres' := Lib.hid hres
          clear e1 e2 hres
          go_wp2_with fail
          have := hR'.out
          rw [hres'.out] at this
          exact this _ hE3'.out
        · have b1 : ((k : Int) == (p.length : Int) - 1) = false := by rw [beq_eq_false_iff_ne]; omega
          have b2 : ((k : Int) == (q.length : Int) - 1) = true := by rw [beq_iff_eq]; omega
          have hres : wc cmpPe (p.map toE) (q.map toE) = 1 := by rw [hw0'.out, wc, hf0'.out, if_neg e1, if_pos e2]; rfl
          have hres' := Lib.hid hres
          clear e1 e2 hres
          go_wp2_with fail
          have := hR'.out
          rw [hres'.out] at this
          exact this _ hE3'.out
        · have b1 : ((k : Int) == (p.length : Int) - 1) = false := by rw [beq_eq_false_iff_ne]; omega
          have b2 : ((k : Int) == (q.length : Int) - 1) = false := by rw [beq_eq_false_iff_ne]; omega
          have hres : wc cmpPe (p.map toE) (q.map toE) = z := by rw [hw0'.out, wc, hf0'.out, if_neg e1, if_neg e2, hz'.out]; simp [hz0]
          have hres' := Lib.hid hres
          clear e1 e2 hres
          go_wp2_with fail
          have := hR'.out
          rw [hres'.out] at this
          exact this _ hE3'.out
    · have hend : wc cmpPe (p.map toE) (q.map toE) = cmpI (p.length : Int) (q.length : Int) := by
        have e : (p.map toE).drop k = [] ∨ (q.map toE).drop k = [] := by
          simp only [List.drop_eq_nil_iff, List.length_map]
          omega
        rw [hall.out, wc_end e, List.length_drop, List.length_drop, List.length_map, List.length_map]
        rw [Int.ofNat_sub hk, Int.ofNat_sub hk2]
        unfold cmpI
        repeat' split
        all_goals omega
      rw [hend] at hR'
      clear hall hend
      by_cases hl1 : k < p.length
      · have hl2 : ¬ k < q.length := fun h => hlt ⟨hl1, h⟩
        have hi1 : (k : Int) < (p.length : Int) := by omega
        have hi2 : ¬ (k : Int) < (q.length : Int) := by omega
        clear hlt
        go_wp2_with fail
        refine specCompareInts_c _ ?_
        intro w3 hE3
        dsimp only
        go_wp2_with fail
        exact hR'.out w3 (hEr.trans hE3)
      · have hi1 : ¬ (k : Int) < (p.length : Int) := by omega
        clear hlt
        go_wp2_with fail
        refine specCompareInts_c _ ?_
        intro w3 hE3
        dsimp only
        go_wp2_with fail
        exact hR'.out w3 (hEr.trans hE3)
end Go.Proofs.YtihapgangilncaaGreat
