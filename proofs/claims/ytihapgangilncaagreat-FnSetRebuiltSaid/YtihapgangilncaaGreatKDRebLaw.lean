/- laws.FnSetRebuilt, the walk with its plain law: it returns true for every list of paths. -/
import Derived.Test.YtihapgangilncaaGreatKDLaw
import Derived.Test.YtihapgangilncaaGreatKDRebP
import Derived.Test.YtihapgangilncaaGreatKDSpecES
import Derived.Test.YtihapgangilncaaGreatKDOrdP
namespace Go.Proofs.YtihapgangilncaaGreat
open Go.RowKit Go.Deep Go.ChangeShapes Go.WideShapes Go.ChangeAt
set_option linter.unusedSimpArgs false

section
variable {P : Program}
/-- v = append(v, s...), in a region that draws its order -/
theorem wp_rowAppS {α : Type} {k : Kind α} {bytes : Nat} {w w2 : World} {X : List Nat} {v sv : Value} {us ts : List α} {e : TypeId} {o : Oper} {a : Act} {K : Act → World → Prop} {Q : Exit → Act → World → Prop}
    (hrow : Row k e w X v us) (hE : Ext w w2) (hX : Old X w2) (hs2 : IsSl k bytes w2 (vb v ++ X) sv ts) (s x : Operand) (t : TypeId)
    (ho : o.op = .call { callee := .builtin .append, args := #[s, x], argTypes := #[t, t] })
    {z : Value} (ht : P.underlying t = some (.slice e)) (hi : (P.info? e).map (fun i => (i.zero, i.size, i.bytes)) = some (some z, k.size, bytes))
    (hzs : z.cells.size = k.size) (hsz : 0 < k.size) (hs : a.eval s = v) (hx : a.eval x = sv)
    (hbytes : (us.length + ts.length) * bytes ≤ 140737488355328) (h63 : us.length + ts.length ≤ maxLen)
    (h : ∀ v' w', Row k e w' X v' (us ++ ts) → w2.grownBy w' v.ownBlock → (∀ g, v'.ownBlock = some g → v.ownBlock = some g ∨ w2.heap.size ≤ g) → K (a.put o.dst v') w') : o.wp P a w2 K Q := by
  obtain ⟨rows, h1, h2, h3⟩ := hrow.ex
  obtain ⟨so, c, b, off, rs, rfl, l2, l3, l4, r1, r2⟩ := hs2.rows
  have hml := All2.mem_len (s := k.size) (fun r a h => k.len h) r1
  have hrl : rs.flatten.length = ts.length * k.size := by rw [flat_len hml, r1.length]
  obtain ⟨v', w', hr, k1, k2, _, k4⟩ := run_append_gen (P := P) w2 t o.type e ht hi hzs hsz (h1.ext hE) so ts.length c rs.flatten hrl (fun hn => by
    rcases Nat.eq_zero_or_pos ts.length with h0 | h0
    · exact h0
    · have := (l4 h0).1; rw [hn] at this; cases this) (fun ad had j u hj => by
    have hp : 0 < ts.length := by
      rcases Nat.eq_zero_or_pos ts.length with h0 | h0
      · rw [h0, Nat.zero_mul] at hrl
        rw [List.eq_nil_of_length_eq_zero hrl] at hj
        simp at hj
      · exact h0
    have := (l4 hp).1
    rw [had] at this
    cases this
    rw [addr_add]
    exact r2 j u hj) (Row.flat r1) h63 hbytes
  unfold Oper.wp execOp
  simp only [ho, resolve, invoke, builtin, Sem.run_bind, Sem.run_pure, Result.andThen_ok, List.map_toArray, List.map_cons, List.map_nil, hs, hx, hr]
  have hd : ∀ g, v'.ownBlock = some g → v.ownBlock = some g ∨ w2.heap.size ≤ g := fun g hg => (k4 g hg).imp id (fun e => Nat.le_of_eq e.symm)
  have hmv : Mv w2 (vb v ++ X) w' (vb v' ++ X) := Mv.app k2 hd
  refine h v' w' ⟨rows ++ rs, by simpa using k1, (h2.imp fun _ _ h => k.mv (k.mv h (hE.mv _)) hmv).glue (r1.imp fun _ _ h => k.mv h hmv), fun g hg hx => ?_⟩ k2 hd
  rcases hd g hg with h | h
  · exact h3 g h hx
  · have := hX g hx; omega
end

/-- the first elements of paths -/
def heads (l : List (List EL)) : List EL := l.flatMap (·.take 1)
theorem heads_len (l : List (List EL)) : (heads l).length ≤ l.length := by
  induction l with
  | nil => simp [heads]
  | cons p l ih => simp only [heads, List.flatMap_cons, List.length_append, List.length_cons] at ih ⊢; have : (p.take 1).length ≤ 1 := by rw [List.length_take]; omega
                   omega
theorem heads_succ {l : List (List EL)} {k : Nat} (h : k < l.length) : heads (l.take (k + 1)) = heads (l.take k) ++ (l[k]'h).take 1 := by
  rw [List.take_succ_eq_append_getElem h]; simp only [heads, List.flatMap_append, List.flatMap_cons, List.flatMap_nil, List.append_nil]
theorem heads_mem {l : List (List EL)} {x : EL} {tl : List EL} (h : (x :: tl) ∈ l) : x ∈ heads l := List.mem_flatMap.2 ⟨_, h, by simp⟩
theorem heads_of {l : List (List EL)} {x : EL} (h : x ∈ heads l) : ∃ p ∈ l, x ∈ p := by
  obtain ⟨p, hp, hx⟩ := List.mem_flatMap.1 h
  exact ⟨p, hp, List.mem_of_mem_take hx⟩

theorem es_facts {a : List (List EL)} (ha : ∀ p ∈ a, GP GoodE (p.map toE)) {es : List EL} (he : es = (esOf ((heads a).map toE)).map backE) : (∀ y ∈ es, GoodE (toE y)) ∧ (∀ k (h : k < es.length), ∀ x ∈ (es.take k).map toE, cmpPe x (toE es[k]) ≠ 0) ∧ (∀ x tl, (x :: tl) ∈ a → ∃ y ∈ es.map toE, cmpPe y (toE x) = 0) ∧ es.length ≤ a.length := by
  have hg : ∀ x ∈ (heads a).map toE, GoodE x := fun x hx => by
    obtain ⟨y, hy, rfl⟩ := List.mem_map.1 hx
    obtain ⟨p, hp, hyp⟩ := heads_of hy
    exact ha p hp _ (List.mem_map.2 ⟨y, hyp, rfl⟩)
  obtain ⟨h1, h2, h3⟩ := esOf_set hg
  have h4 := (esOf_facts (fun _ _ _ ha hb hc h1 h2 => goodE_ord.lt_tr ha hb hc h1 h2) hg).2.2
  subst he
  generalize esOf ((heads a).map toE) = E at h1 h2 h3 h4
  refine ⟨fun y hy => ?_, fun k hk x hx => ?_, fun x tl hx => ?_, ?_⟩
  · obtain ⟨z, hz, rfl⟩ := List.mem_map.1 hy
    exact goodE_back (h2 z hz)
  · obtain ⟨y, hy, rfl⟩ := List.mem_map.1 hx
    obtain ⟨i, hi, rfl⟩ := List.getElem_of_mem hy
    have hi2 : i < k ∧ i < E.length := by simp only [List.length_take, List.length_map] at hi; omega
    have hk2 : k < E.length := by simpa using hk
    rw [List.getElem_take, List.getElem_map, List.getElem_map, cmpPe_back (goodE_from (h2 _ (List.getElem_mem hi2.2))), goodE_ord.neg, cmpPe_back (goodE_from (h2 _ (List.getElem_mem hk2)))]
    have := List.pairwise_iff_getElem.1 h1 i k hi2.2 hk2 hi2.1
    have := goodE_ord.neg E[i] E[k]
    omega
  · have hxg := hg (toE x) (List.mem_map.2 ⟨x, heads_mem hx, rfl⟩)
    obtain ⟨y, hy, h0⟩ := (h3 _ hxg).2 (hasC_self goodE_ord (List.mem_map.2 ⟨x, heads_mem hx, rfl⟩))
    exact ⟨_, List.mem_map.2 ⟨_, List.mem_map.2 ⟨y, hy, rfl⟩, rfl⟩, by rw [cmpPe_back (goodE_from (h2 y hy))]; exact h0⟩
  · have := heads_len a
    rw [List.length_map] at h4 ⊢
    omega

set_option maxRecDepth 100000 in
set_option maxHeartbeats 8000000 in
set_option pp.maxSteps 1000000 in
set_option pp.deepTerms true in
theorem fnSetRebuilt_law {w : World} {va : Value} {a : List (List EL)} (ha : IsSl kPth 24 w [] va a) : Calls Tryz.prog 10 #[va] w fun e w' => e = .returned (.bool true) ∧ Below w.heap.size w w' := by
  suffices h : ∀ R : Ending → World → Prop, Ends R w (.bool true) → Calls Tryz.prog 10 #[va] w R from h _ (fun w' hE => ⟨rfl, hE⟩)
  intro R hR
  obtain ⟨o, c, b, off, rfl, l2, l3, l4, l5⟩ := id ha.ex
  have ha' := Lib.hid ha
  have hR' := Lib.hid hR
  have l4' := Lib.hid l4
  have l5' := Lib.hid l5
  clear hR ha l4 l5
  by_cases h1 : (a.length : Int) > 2147483647
  · have h1b : (2147483647 : Int) < (a.length : Int) := h1
    go_enter Tryz.func10, Tryz.ntmps10
    go_wp2_with fail
    exact hR'.out _ (Ext.refl _)
  have h1b : ¬ (2147483647 : Int) < (a.length : Int) := h1
  have hn := Lib.hid (show a.length ≤ 2147483647 by omega)
  have n1 := Lib.hid (show (a.length + 1) * 168 ≤ 140737488351232 by omega)
  have hpI : (a.length : Int) ≤ 140737488351232 := by omega
  clear h1 l2 l3
  go_enter Tryz.func10, Tryz.ntmps10
  go_wp2_with fail
  refine orderlyPaths_c ha'.out _ ?_
  intro t1 ht1 w1 hE1
  have ht1' := Lib.hid ht1
  clear ht1
  dsimp only
  cases t1
  · go_wp2_with fail
    exact hR'.out _ hE1
  have hGa := Lib.hid (good_list ha'.out (ht1'.out rfl))
  clear ht1'
  go_wp2_with fail
  refine setMembers_c (ha'.out.mv (hE1.mv []) (by decide)) (Old.nil _) hGa.out n1.out _ ?_
  intro w2 mv ms hE2 hmv hms hmg hmh
  have hml : ms.length ≤ a.length := by
    have := reb_le hGa.out (reb_start hms hmg hmh)
    simpa using this
  have hreb0 := Lib.hid (reb_start hms hmg hmh)
  obtain ⟨mems, hmems⟩ : ∃ m, ms.map backE = m := ⟨_, rfl⟩
  rw [hmems] at hmv hreb0
  have hml2 : mems.length ≤ a.length := by rw [← hmems, List.length_map]; exact hml
  obtain ⟨mo, mc, mb, moff, rfl, -, -, m4, m5⟩ := id hmv.ex
  have hE02 := hE1.trans hE2
  have m4' := Lib.hid m4
  have m5' := Lib.hid m5
  have hml' := Lib.hid hml2
  have hmI : (mems.length : Int) ≤ 140737488351232 := by omega
  clear hms hmg hmh hml hml2 hmems hmv m4 m5 hE1 hE2
  dsimp only
  go_wp2_with fail
  have hr0 : Hid (Row kPth 22 w2 [] (.slice none 0 0) ((mems.take 0).map fun e => [e])) := Lib.hid (Row.nil _ _ _ _)
  go_loopw [3, 20] (fun v i wr => ∃ k : Nat, k ≤ mems.length ∧ i = .int .i64 k ∧ Ext w wr ∧ Ext w2 wr ∧ Hid (∀ g, v.ownBlock = some g → w2.heap.size ≤ g) ∧ Hid (Row kPth 22 wr [] v ((mems.take k).map fun e => [e]))) (fun _ i _ => mems.length - (intOf i).toNat)
  case atStart => exact ⟨0, Nat.zero_le _, rfl, hE02, Ext.refl _, Lib.hid (fun g h => by simp [Value.ownBlock] at h), hr0⟩
  case round =>
    obtain ⟨k, hk, rfl, hEw, hE2r, hgv, hrow⟩ := hrel
    rename World => wr
    clear hr0
    by_cases hlt : k < mems.length
    · obtain ⟨cs, hc, hcs⟩ := m5'.out k hlt
      obtain ⟨rfl, -⟩ := m4'.out (by omega)
      have hone := kEl.one hcs
      obtain ⟨c0, c1, c2, c3, c4, c5, c6, c7, c8, c9, c10, rfl⟩ := kEl_eleven hcs
      have q0 := hE2r.keep (hc 0 (by decide)); have q1 := hE2r.keep (hc 1 (by decide)); have q2 := hE2r.keep (hc 2 (by decide)); have q3 := hE2r.keep (hc 3 (by decide)); have q4 := hE2r.keep (hc 4 (by decide)); have q5 := hE2r.keep (hc 5 (by decide)); have q6 := hE2r.keep (hc 6 (by decide)); have q7 := hE2r.keep (hc 7 (by decide)); have q8 := hE2r.keep (hc 8 (by decide)); have q9 := hE2r.keep (hc 9 (by decide)); have q10 := hE2r.keep (hc 10 (by decide))
      simp only [show kEl.size = 11 from rfl, Nat.add_zero] at q0 q1 q2 q3 q4 q5 q6 q7 q8 q9 q10
      have hi1 : (k : Int) < (mems.length : Int) := by omega
      have hkm : (k : Int) + 1 ≤ 9223372036854775807 := by omega
      have hmv : Mv w2 [] wr (vb u3 ++ []) := (hE2r.mv []).moreL (fun g hg => hgv.out g (by simpa [vb] using hg))
      have hcs' := Lib.hid (kEl.mv hcs hmv)
      have hone' := Lib.hid hone
      have hlk : ((mems.take k).map fun e => [e]).length = k := by rw [List.length_map, List.length_take]; omega
      have hb4 := Lib.hid (show (((mems.take k).map fun e => [e]).length + 1) * 24 ≤ 140737488355328 by rw [hlk]; have := hml'.out; have := hn.out; omega)
      have hb5 := Lib.hid (show ((mems.take k).map fun e => [e]).length + 1 ≤ maxLen by rw [hlk, maxLen_eq]; omega)
      have htk := Lib.hid (show ((mems.take (k + 1)).map fun e => [e]) = ((mems.take k).map fun e => [e]) ++ [[mems[k]]] by rw [List.take_succ_eq_append_getElem hlt, List.map_append]; rfl)
      clear hc hcs hmv hone hlk
      go_wp2_with (first
        | (refine wpL_storeRow (cells := #[c0, c1, c2, c3, c4, c5, c6, c7, c8, c9, c10]) rfl 47 _ _ rfl Tryz.size47 rfl rfl (alloc_new _ _ rfl) rfl (by simpa using hone'.out) ?_; intro w5 h5 g5; have hEx : Ext wr w5 := ((Ext.refl wr).push _).grown g5 (fun k hk => by cases hk; exact Nat.le_refl _); have s0 : w5.cell? ⟨wr.heap.size, 0, none⟩ = some (c0) := cells_of h5 0; have s1 : w5.cell? ⟨wr.heap.size, 1, none⟩ = some (c1) := cells_of h5 1; have s2 : w5.cell? ⟨wr.heap.size, 2, none⟩ = some (c2) := cells_of h5 2; have s3 : w5.cell? ⟨wr.heap.size, 3, none⟩ = some (c3) := cells_of h5 3; have s4 : w5.cell? ⟨wr.heap.size, 4, none⟩ = some (c4) := cells_of h5 4; have s5 : w5.cell? ⟨wr.heap.size, 5, none⟩ = some (c5) := cells_of h5 5; have s6 : w5.cell? ⟨wr.heap.size, 6, none⟩ = some (c6) := cells_of h5 6; have s7 : w5.cell? ⟨wr.heap.size, 7, none⟩ = some (c7) := cells_of h5 7; have s8 : w5.cell? ⟨wr.heap.size, 8, none⟩ = some (c8) := cells_of h5 8; have s9 : w5.cell? ⟨wr.heap.size, 9, none⟩ = some (c9) := cells_of h5 9; have s10 : w5.cell? ⟨wr.heap.size, 10, none⟩ = some (c10) := cells_of h5 10; have hEx' := Lib.hid hEx; clear hEx h5 g5)
        | (at_builtin; go_loud (refine wpL_rowApp (c := #[.slice (some ⟨w5.heap.size, 0, none⟩) 1 1]) (u := [mems[k]]) rfl hrow.out (hEx'.out.push _) (Old.nil _) ⟨_, rfl, (Row.lit (k := kEl) (e := 47) (u := mems[k]) ((push_get _ _ _).trans (if_pos rfl)) (kEl.mv (kEl.mv hcs'.out (hEx'.out.mv _)) (((Ext.alloc w5 _).mv _).moreL (Z := [w5.heap.size]) (by simp))) (fun h => by have := (hrow.out.ext hEx'.out).old (Old.nil _) _ h; omega)).isSl (by simp)⟩ _ _ _ rfl Tryz.underlying24 Tryz.info22 rfl (by decide) rfl (congrArg (fun n => Value.slice (some ⟨n, 0, none⟩) 1 1) (Array.size_push (xs := w5.heap) (Obj.cells #[c0, c1, c2, c3, c4, c5, c6, c7, c8, c9, c10] 47)).symm) hb4.out hb5.out ?_; intro v' w8 hrow8 hg8 hne8 hd8)))
      go_roundw
      case rel =>
        have hsz := Lib.hid (Nat.le_trans hE2r.size (Nat.le_trans hEx'.out.size (Ext.alloc w5 (.cells #[c0, c1, c2, c3, c4, c5, c6, c7, c8, c9, c10] 47)).size))
        have hE8 : Ext w2 w8 := (hE2r.trans (hEx'.out.push _)).grown hg8 (fun j hj => hgv.out j hj)
        refine ⟨k + 1, by omega, by go_num, hE02.trans hE8, hE8, Lib.hid (fun g hg => ?_), Lib.hid (by rw [htk.out]; exact hrow8)⟩
        rcases hd8 g hg with h | h
        · exact hgv.out g h
        · exact Nat.le_trans hsz.out h
      case measure => simp [intOf]; omega
    · have ek : k = mems.length := by omega
      subst ek
      have hrow1 := hrow.out
      rw [List.take_of_length_le (Nat.le_refl _)] at hrow1
      have hrow1' := Lib.hid hrow1
      have hgw : Hid (∀ g, u3.ownBlock = some g → w.heap.size ≤ g) := Lib.hid (fun g hg => Nat.le_trans hE02.size (hgv.out g hg))
      have hu3 := hrow1.one
      clear hrow1 hrow hgv hk
      go_wp2_with fail
      rename World => wa
      have hea := Lib.hid hEw
      have hf0 : Hid (Row kEl 47 wa (vb u3 ++ []) (.slice none 0 0) (heads (a.take 0))) := Lib.hid (Row.nil _ _ _ _)
      go_loopw [4, 32] (fun v i wr => ∃ k : Nat, k ≤ a.length ∧ i = .int .i64 k ∧ Ext wa wr ∧ Hid (∀ g, v.ownBlock = some g → wa.heap.size ≤ g) ∧ Hid (Row kEl 47 wr (vb u3 ++ []) v (heads (a.take k)))) (fun _ i _ => a.length - (intOf i).toNat)
      case atStart => exact ⟨0, Nat.zero_le _, rfl, Ext.refl _, Lib.hid (fun g h => by simp [Value.ownBlock] at h), hf0⟩
      case round =>
        obtain ⟨k, hk, rfl, hEar, hgv, hrow⟩ := hrel
        rename World => wr
        clear hf0
        by_cases hlt : k < a.length
        · obtain ⟨cs, hc, hcs⟩ := l5'.out k hlt
          obtain ⟨rfl, -⟩ := l4'.out (by omega)
          obtain ⟨pv, rfl, hpv⟩ := hcs
          have hEr := Lib.hid (hea.out.trans hEar)
          have q0 := hEr.out.keep (hc 0 (by decide))
          simp only [show kPth.size = 1 from rfl, Nat.mul_one, Nat.add_zero] at q0
          have hi1 : (k : Int) < (a.length : Int) := by omega
          have hkm : (k : Int) + 1 ≤ 9223372036854775807 := by omega
          have hlk : (heads (a.take k)).length ≤ k := by have := heads_len (a.take k); rw [List.length_take] at this; omega
          have hb4 := Lib.hid (show ((heads (a.take k)).length + 1) * 168 ≤ 140737488355328 by have := hn.out; omega)
          have hb5 := Lib.hid (show (heads (a.take k)).length + 1 ≤ maxLen by rw [maxLen_eq]; omega)
          have htk := Lib.hid (heads_succ hlt)
          obtain ⟨p, hp⟩ : ∃ p, a[k] = p := ⟨_, rfl⟩
          rw [hp] at hpv htk
          obtain ⟨po, pc, pb, poff, rfl, p2, p3, p4, p5⟩ := id hpv.ex
          have hmv := Lib.hid (((hEr.out.mv []).moreL (Z := vb u3) (fun g hg => hgw.out g (by simpa [vb] using hg))).moreL (Z := vb u4) (fun g hg => Nat.le_trans hea.out.size (hgv.out g (by simpa [vb] using hg))))
          have p4' := Lib.hid p4
          have p5' := Lib.hid p5
          clear hc hpv hlk p4 p5 hp p2
          by_cases hz : 0 < p.length
          · have hzI : (0 : Int) < (p.length : Int) := by omega
            obtain ⟨cs, hc, hcs⟩ := p5'.out 0 hz
            obtain ⟨rfl, -⟩ := p4'.out hz
            have hone := kEl.one hcs
            obtain ⟨c0, c1, c2, c3, c4, c5, c6, c7, c8, c9, c10, rfl⟩ := kEl_eleven hcs
            have q0 := hEr.out.keep (hc 0 (by decide)); have q1 := hEr.out.keep (hc 1 (by decide)); have q2 := hEr.out.keep (hc 2 (by decide)); have q3 := hEr.out.keep (hc 3 (by decide)); have q4 := hEr.out.keep (hc 4 (by decide)); have q5 := hEr.out.keep (hc 5 (by decide)); have q6 := hEr.out.keep (hc 6 (by decide)); have q7 := hEr.out.keep (hc 7 (by decide)); have q8 := hEr.out.keep (hc 8 (by decide)); have q9 := hEr.out.keep (hc 9 (by decide)); have q10 := hEr.out.keep (hc 10 (by decide))
            simp only [show kEl.size = 11 from rfl, Nat.add_zero, Nat.zero_mul] at q0 q1 q2 q3 q4 q5 q6 q7 q8 q9 q10
            have hcs' := Lib.hid (kEl.mv hcs hmv.out)
            have hone' := Lib.hid hone
            have ht1 := Lib.hid (show p.take 1 = [p[0]] by cases p with | nil => simp at hz | cons x t => simp)
            clear hc hcs hone
            go_wp2_with (at_builtin; go_loud (refine wpL_rowApp (c := #[c0, c1, c2, c3, c4, c5, c6, c7, c8, c9, c10]) (u := p[0]) rfl hrow.out (Ext.refl _) ((hrow1'.out.ext hEar).old (Old.nil _)) hcs'.out _ _ _ rfl Tryz.underlying22 Tryz.info47 rfl (by decide) rfl rfl hb4.out hb5.out ?_; intro v' w8 hrow8 hg8 hne8 hd8))
            go_roundw
            case rel =>
              have hE8 : Ext wa w8 := hEar.grown hg8 (fun j hj => hgv.out j hj)
              refine ⟨k + 1, by omega, by go_num, hE8, Lib.hid (fun g hg => ?_), Lib.hid (by rw [htk.out, ht1.out]; exact hrow8)⟩
              rcases hd8 g hg with h | h
              · exact hgv.out g h
              · exact Nat.le_trans hEar.size h
            case measure => simp [intOf]; omega
          · have hzI : ¬ (0 : Int) < (p.length : Int) := by omega
            have ht1 := Lib.hid (show p.take 1 = [] by cases p with | nil => rfl | cons x t => simp at hz)
            go_wp2_with fail
            go_roundw
            case rel => exact ⟨k + 1, by omega, by go_num, hEar, hgv, Lib.hid (by rw [htk.out, ht1.out, List.append_nil (heads (List.take k a))]; exact hrow.out)⟩
            case measure => simp [intOf]; omega
        · have ek : k = a.length := by omega
          subst ek
          have hrow2 := hrow.out
          rw [List.take_of_length_le (Nat.le_refl _)] at hrow2
          have hf := Lib.hid (hrow2.isSl (bytes := 168) (by have := heads_len a; have := hn.out; omega))
          have hfo := hrow2.one
          clear hrow2 hrow hgv hk
          go_wp2_with fail
          rename World => wb
          have hwb := Lib.hid (hea.out.trans hEar)
          refine specElemSet_c (G := GoodE) (fun _ _ _ ha hb hc h1 h2 => goodE_ord.lt_tr ha hb hc h1 h2) (fun x hx => goodE_from hx) hf.out ((hrow1'.out.ext hEar).old (Old.nil _)) (fun y hy => (by obtain ⟨p, hp, hyp⟩ := heads_of hy; exact hGa.out p hp _ (List.mem_map.2 ⟨y, hyp, rfl⟩) : GoodE (toE y))) (by have := heads_len a; have := n1.out; omega) _ ?_
          intro wc ev hEc hev
          obtain ⟨es, hes⟩ : ∃ es, (esOf ((heads a).map toE)).map backE = es := ⟨_, rfl⟩
          rw [hes] at hev
          have hfa := Lib.hid (es_facts hGa.out hes.symm)
          obtain ⟨eo, ec, -, -, rfl, -⟩ := id hev.ex
          have hev' := Lib.hid hev
          have hesI : (es.length : Int) ≤ 140737488351232 := by have := hfa.out.2.2.2; have := hn.out; omega
          have hwc := Lib.hid (hwb.out.trans hEc)
          have hra := Lib.hid ((hrow1'.out.ext hEar).ext hEc)
          clear hes hev hf hfo hEar hEc
          dsimp only
          go_wp2_with fail
          go_loopw [3, 49] (fun v i wr => ∃ (k : Nat) (M : List (List EL)), k ≤ es.length ∧ i = .int .i64 k ∧ Hid (∀ g, v.ownBlock = some g → w.heap.size ≤ g) ∧ Ext w wr ∧ Hid (Row kPth 22 wr [] v M) ∧ Hid (IsSl kEl 168 wr (vb v ++ []) (.slice eo es.length ec) es) ∧ Hid (Reb a ((es.take k).map toE) (M.map (·.map toE)))) (fun _ i _ => es.length - (intOf i).toNat)
          case atStart => exact ⟨0, _, Nat.zero_le _, rfl, hgw, hwc.out, hra, hev', hreb0⟩
          case round =>
            obtain ⟨k, M, hk, rfl, hgv, hEwr, hrow, hsl, hreb⟩ := hrel
            rename World => wr
            clear hra hreb0 hgw hrow1' hev'
            by_cases hlt : k < es.length
            · obtain ⟨eo', ec', eb, eoff, heq, -, -, e4, e5⟩ := id hsl.out.ex
              cases heq
              obtain ⟨cs, hc, hcs⟩ := e5 k hlt
              obtain ⟨rfl, -⟩ := e4 (by omega)
              clear e4 e5
              have hone := kEl.one hcs
              obtain ⟨c0, c1, c2, c3, c4, c5, c6, c7, c8, c9, c10, rfl⟩ := kEl_eleven hcs
              have q0 := hc 0 (by decide); have q1 := hc 1 (by decide); have q2 := hc 2 (by decide); have q3 := hc 3 (by decide); have q4 := hc 4 (by decide); have q5 := hc 5 (by decide); have q6 := hc 6 (by decide); have q7 := hc 7 (by decide); have q8 := hc 8 (by decide); have q9 := hc 9 (by decide); have q10 := hc 10 (by decide)
              simp only [show kEl.size = 11 from rfl, Nat.add_zero] at q0 q1 q2 q3 q4 q5 q6 q7 q8 q9 q10
              have hi1 : (k : Int) < (es.length : Int) := by omega
              have hkm : (k : Int) + 1 ≤ 9223372036854775807 := by omega
              have hcs' := Lib.hid hcs
              have hone' := Lib.hid hone
              have htk := Lib.hid (show (es.take (k + 1)).map toE = (es.take k).map toE ++ [toE es[k]] by rw [List.take_succ_eq_append_getElem hlt, List.map_append]; rfl)
              obtain ⟨e, he⟩ : ∃ e, es[k] = e := ⟨_, rfl⟩
              have hge := Lib.hid (he ▸ hfa.out.1 _ (List.getElem_mem hlt) : GoodE (toE e))
              have hfr := Lib.hid (he ▸ hfa.out.2.1 k hlt : ∀ x ∈ (es.take k).map toE, cmpPe x (toE e) ≠ 0)
              rw [he] at hcs' htk
              clear hc hcs hone he
              go_wp2_with (first
                | (refine wpL_storeRow (cells := #[c0, c1, c2, c3, c4, c5, c6, c7, c8, c9, c10]) rfl 47 _ _ rfl Tryz.size47 rfl rfl (alloc_new _ _ rfl) rfl (by simpa using hone'.out) ?_; intro w5 h5 g5; have hEx : Ext wr w5 := ((Ext.refl wr).push _).grown g5 (fun k hk => by cases hk; exact Nat.le_refl _); have s0 : w5.cell? ⟨wr.heap.size, 0, none⟩ = some (c0) := cells_of h5 0; have s1 : w5.cell? ⟨wr.heap.size, 1, none⟩ = some (c1) := cells_of h5 1; have s2 : w5.cell? ⟨wr.heap.size, 2, none⟩ = some (c2) := cells_of h5 2; have s3 : w5.cell? ⟨wr.heap.size, 3, none⟩ = some (c3) := cells_of h5 3; have s4 : w5.cell? ⟨wr.heap.size, 4, none⟩ = some (c4) := cells_of h5 4; have s5 : w5.cell? ⟨wr.heap.size, 5, none⟩ = some (c5) := cells_of h5 5; have s6 : w5.cell? ⟨wr.heap.size, 6, none⟩ = some (c6) := cells_of h5 6; have s7 : w5.cell? ⟨wr.heap.size, 7, none⟩ = some (c7) := cells_of h5 7; have s8 : w5.cell? ⟨wr.heap.size, 8, none⟩ = some (c8) := cells_of h5 8; have s9 : w5.cell? ⟨wr.heap.size, 9, none⟩ = some (c9) := cells_of h5 9; have s10 : w5.cell? ⟨wr.heap.size, 10, none⟩ = some (c10) := cells_of h5 10; have hEx' := Lib.hid hEx; clear hEx h5 g5))
              have hu3 := hrow.out.one
              refine wp_region_script [0, 1, 2, 3, 7] [4] (fun w' => Ext w5 w') [(.pure, 0), (.read, 1), (.pure, 2), (.read, 3), (.one, 4), (.one, 5), (.one, 6), (.pure, 7)] (by kernel_rfl) (by kernel_rfl) ?_
              have hC : Ext w5 w5.drew := (Ext.refl _).drew
              (apply scr_pure'; (· rfl); (· rfl); (· (intro w'; go_simp; try rfl)); (· (simp [go_sem]; try rfl)))
              (apply scr_read'; (· rfl); (· rfl); (· first | exact hC | exact (Ext.refl _).drew); (· (intro w' hw'; have s0_ := hw'.keep s0; have s1_ := hw'.keep s1; have s2_ := hw'.keep s2; have s3_ := hw'.keep s3; have s4_ := hw'.keep s4; have s5_ := hw'.keep s5; have s6_ := hw'.keep s6; have s7_ := hw'.keep s7; have s8_ := hw'.keep s8; have s9_ := hw'.keep s9; have s10_ := hw'.keep s10; go_simp; try rfl)); (· (simp [go_sem]; try rfl)))
              (apply scr_pure'; (· rfl); (· rfl); (· (intro w'; go_simp; try rfl)); (· (simp [go_sem]; try rfl)))
              (apply scr_read'; (· rfl); (· rfl); (· first | exact hC | exact (Ext.refl _).drew); (· (intro w' hw'; have s0_ := hw'.keep s0; have s1_ := hw'.keep s1; have s2_ := hw'.keep s2; have s3_ := hw'.keep s3; have s4_ := hw'.keep s4; have s5_ := hw'.keep s5; have s6_ := hw'.keep s6; have s7_ := hw'.keep s7; have s8_ := hw'.keep s8; have s9_ := hw'.keep s9; have s10_ := hw'.keep s10; go_simp; try rfl)); (· (simp [go_sem]; try rfl)))
              have hEd := Lib.hid (hEx'.out.trans hC)
              have hEwd := Lib.hid (hEwr.trans hEd.out)
              have hrd := Lib.hid (hrow.out.ext hEd.out)
              have hXd := Lib.hid (hrd.out.old (Old.nil _))
              refine scr_one rfl rfl (fun K hK => ?_)
              go_simp
              refine setWithPrefix_c (X := vb u3 ++ []) (l := a) (ha'.out.mv ((hEwd.out.mv []).moreL (fun g hg => hgv.out g (by simpa [vb] using hg))) (by decide)) hXd.out hGa.out n1.out (es := [c0, c1, c2, c3, c4, c5, c6, c7, c8, c9, c10]) (kEl.mv hcs'.out (hEd.out.mv _)) hge.out _ ?_
              intro w6 tv T hE6 htv hts htg htn hth
              have hto := htv.one
              have hst := reb_step hGa.out hreb.out hge.out hfr.out hts htg htn hth
              have hln : ∀ p ∈ T.map (·.map backE), (p.length + 1) * 168 ≤ 140737488351232 := fun p hp => by
                obtain ⟨q, hq, rfl⟩ := List.mem_map.1 hp
                have := memP_len ha'.out ((hth q (htg q hq) (htn q hq)).1 (hasC_self (wc_ord goodE_ord) hq))
                rw [List.length_map]
                simpa using this
              generalize T.map (·.map backE) = N at htv hst hln
              rw [← htk.out] at hst
              have hMN : M.map (·.map toE) ++ (N.map (·.map toE)).map (toE e :: ·) = (M ++ N.map (e :: ·)).map (·.map toE) := by simp [List.map_map, Function.comp_def]
              rw [hMN] at hst
              have hle := reb_le hGa.out hst
              rw [List.length_map, List.length_append, List.length_map] at hle
              have hle' := Lib.hid hle
              have hst' := Lib.hid hst
              have hln' := Lib.hid hln
              have htv' := Lib.hid htv
              have hE6' := Lib.hid hE6
              have hC6 := Lib.hid (hC.trans hE6)
              refine hK _ _ (fun _ => hC6.out) ?_
              clear hK hts htg htn hth htv hst hln hMN hle hE6 hC s0 s1 s2 s3 s4 s5 s6 s7 s8 s9 s10
              refine scr_one rfl rfl (fun K hK => ?_)
              go_simp
              refine lawsAt_c (X := vb u3 ++ []) (es := [c0, c1, c2, c3, c4, c5, c6, c7, c8, c9, c10]) (kEl.mv hcs'.out ((hEd.out.trans hE6'.out).mv _)) htv'.out (hXd.out.le hE6'.out.size) hln'.out (by have := hle'.out; have := hn.out; omega) _ ?_
              intro w7 nv hE7 hnv
              have hnvo := hnv.one
              have hnv' := Lib.hid hnv
              have hd7 := Lib.hid (hEd.out.trans (hE6'.out.trans hE7))
              refine hK _ _ (fun h => by simp at h) ?_
              clear hK hnv hE7
              refine scr_one rfl rfl (fun K hK => ?_)
              refine wp_rowAppS (k := kPth) (bytes := 24) hrow.out hd7.out (Old.nil _) hnv'.out _ _ _ rfl Tryz.underlying24 Tryz.info22 rfl (by decide) (by go_simp) (by go_simp) (by rw [List.length_map]; have := hle'.out; have := hn.out; omega) (by rw [List.length_map, maxLen_eq]; have := hle'.out; have := hn.out; omega) ?_
              intro v' w8 hr8 hg8 hd8
              have hvo8 := hr8.one
              have hr8' := Lib.hid hr8
              have hg8' := Lib.hid hg8
              have hd8' := Lib.hid hd8
              clear hr8 hg8 hd8
              refine hK _ _ (fun h => by simp at h) ?_
              clear hK
              (apply scr_pure'; (· rfl); (· rfl); (· (intro w'; go_simp; try rfl)); (· (simp [go_sem]; try rfl)))
              refine scr_end ?_
              try simp only [Exit.then]
              go_wp2_with fail
              go_roundw
              case rel =>
                have hsz := Lib.hid (Nat.le_trans hEwr.size hd7.out.size)
                have hEw8 : Ext w w8 := (hEwr.trans hd7.out).grown hg8'.out (fun j hj => hgv.out j hj)
                refine ⟨k + 1, _, by omega, by go_num, Lib.hid (fun g hg => ?_), hEw8, hr8', Lib.hid ((hsl.out.mv (hd7.out.mv _) (by decide)).mv (Mv.app hg8'.out hd8'.out) (by decide)), hst'⟩
                rcases hd8'.out g hg with h | h
                · exact hgv.out g h
                · exact Nat.le_trans hsz.out h
              case measure => simp [intOf]; omega
            · have ek : k = es.length := by omega
              subst ek
              have hreb1 := hreb.out
              rw [List.take_of_length_le (Nat.le_refl _)] at hreb1
              have hend := Lib.hid (reb_end hGa.out hreb1 (fun x hx => by obtain ⟨y, hy, rfl⟩ := List.mem_map.1 hx; exact hfa.out.1 y hy) hfa.out.2.2.1)
              have hreb1' := Lib.hid hreb1
              have hMl := Lib.hid (show M.length ≤ a.length by have := reb_le hGa.out hreb1; rwa [List.length_map] at this)
              have hM := Lib.hid (hrow.out.isSl (bytes := 24) (by have := hMl.out; have := hn.out; omega))
              have hu3 := hrow.out.one
              obtain ⟨yo, yn, yc, rfl, hyn⟩ : ∃ o n c, u3 = .slice o n c ∧ n = M.length := by obtain ⟨o2, c2, _, _, h, -⟩ := hM.out.ex; exact ⟨_, _, _, h, rfl⟩
              have hyn' := Lib.hid hyn
              clear hreb1 hreb hrow hgv hk hyn
              go_wp2_with fail
              refine implSetEqual_c hM.out (ha'.out.mv (hEwr.mv []) (by decide)) (Old.nil _) (fun p hp => hreb1'.out.good _ (List.mem_map.2 ⟨p, hp, rfl⟩)) hGa.out (by have := hMl.out; have := hn.out; omega) (by have := hn.out; omega) _ ?_
              intro r hr w7 hE7
              have hre : r = true := hr.2 fun q hq => (memP_has (fun p hp h => hreb1'.out.ne _ (List.mem_map.2 ⟨p, hp, rfl⟩) (by simp [h])) q).trans (hend.out q hq)
              subst hre
              clear hr
              dsimp only
              go_wp2_with fail
              refine setSizeOf_c (ha'.out.mv ((hEwr.trans hE7).mv []) (by decide)) (Old.nil _) hGa.out n1.out _ ?_
              intro L hL1 hL2 hL3 hL4 w8 hE8
              have hlen : L.length = yn := by
                have := reb_len hreb1'.out hend.out hL1 hL2 hL4
                rw [List.length_map] at this
                rw [hyn'.out, this]
              rw [hlen]
              clear hL1 hL2 hL3 hL4 hlen
              dsimp only
              have hyy : ((yn : Int) == (yn : Int)) = true := by simp
              go_wp2_with fail
              exact hR'.out w8 ((hEwr.trans hE7).trans hE8)
end Go.Proofs.YtihapgangilncaaGreat
