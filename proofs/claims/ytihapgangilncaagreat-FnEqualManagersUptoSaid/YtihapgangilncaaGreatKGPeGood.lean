/- slices.BinarySearchFunc over path elements, with the comparison of PathElementSet.Insert. PathElementSet.Insert. Sets of path elements as sorted lists (plain), and impl.toElemSet. Orderly path elements: the comparison among them is transitive (plain). -/
import Derived.Test.YtihapgangilncaaGreatKGPeCmp
import Derived.Test.YtihapgangilncaaGreatKGIns
import Derived.Test.YtihapgangilncaaGreatKGGrd
import Derived.Test.YtihapgangilncaaGreatKGTransT
import Derived.Test.YtihapgangilncaaGreatKGTameS
namespace Go.Proofs.YtihapgangilncaaGreat
open Go.RowKit
set_option linter.unusedSimpArgs false

set_option maxRecDepth 100000 in
theorem wp_call_v2 {o : Oper} {a : Act} {w : World} {next : Act → World → Prop} {Q : Exit → Act → World → Prop} {dst : Option Tmp} {f : FuncId} {t : Tmp} {xs : Array Operand} {ats : Array TypeId} {ty : TypeId} {pos : String} {after : Array Edge} {guard : Option (Nat × Bool)}
    (ho : o = { dst, op := .call { callee := .value (.tmp t), args := xs, argTypes := ats }, type := ty, pos, after, guard }) (h : a.eval (.tmp t) = .func (.func f) #[] #[])
    (he : ∀ (args : Array Value) (w : World), (callFunc f args).run Tryz.prog w = .ok (.enter f args) w) (hc : Calls Tryz.prog f (#[] ++ xs.map a.eval ++ #[]) w fun
      | .returned v, w'' => next (a.put o.dst v) w''
      | .panicked chain, w'' => Q (.panic chain) a w''
      | .outgrown, _ => LetsOut Q) : Oper.wp Tryz.prog o a w next Q := by
  subst ho
  have e : execOp a.eval { dst, op := .call { callee := .value (.tmp t), args := xs, argTypes := ats }, type := ty, pos, after, guard } = callFunc f (#[] ++ xs.map a.eval ++ #[]) := by
    simp only [execOp, resolve, h]
    rfl
  unfold Oper.wp
  rw [e]
  rw [he, Oper.upon_enter]
  refine hc.mono ?_
  rintro (_ | _ | _) w'' h <;> exact h

set_option maxRecDepth 100000 in
theorem callFunc_ins1 (args : Array Value) (w : World) : (callFunc 99 args).run Tryz.prog w = .ok (.enter 99 args) w := rfl

set_option maxRecDepth 100000 in
set_option maxHeartbeats 1000000 in
theorem insCmp_c {w : World} {cs ds : List Value} {a b : PEl} (ha : kPe.is w [] cs a) (hb : kPe.is w [] ds b) (R : Ending → World → Prop) (hR : Ends R w (.int .i64 (cmpPe a b))) :
    Calls Tryz.prog 99 #[.agg cs.toArray, .agg ds.toArray] w R := by
  obtain ⟨a0, a1, a2, a3, rfl, o0, o1, o2, o3⟩ := kPe_4 ha
  obtain ⟨b0, b1, b2, b3, rfl, u0, u1, u2, u3⟩ := kPe_4 hb
  have ha' := Lib.hid ha
  have hb' := Lib.hid hb
  have hR' := Lib.hid hR
  clear ha hb hR
  go_enter Tryz.func99, Tryz.ntmps99
  go_wp2_with fail
  refine abs2 (G := fun wr => Calls _ _ _ wr _) ?_
  intro w1 hE1 hb1 hb2 hs1
  refine peCompare_c (cs := [a0, a1, a2, a3]) (ds := [b0, b1, b2, b3]) (kPe.mv ha'.out (hE1.mv [])) (kPe.mv hb'.out (hE1.mv [])) _ ?_
  intro w2 hE2
  dsimp only
  go_wp2_with fail
  exact hR'.out _ (hE1.trans hE2)

/-- where t stands, or would stand, in us: behind all that come ahead of it -/
def At (us : List PEl) (t : PEl) (i : Nat) : Prop := i ≤ us.length ∧ (∀ j (h : j < us.length), j < i → cmpPe us[j] t < 0) ∧ ∀ j (h : j < us.length), i ≤ j → 0 ≤ cmpPe us[j] t
def HasAt (us : List PEl) (t : PEl) (i : Nat) : Bool := match us[i]? with
  | some x => decide (cmpPe x t = 0)
  | none => false

set_option maxRecDepth 100000 in
set_option maxHeartbeats 8000000 in
set_option pp.maxSteps 1000000 in
set_option pp.deepTerms true in
theorem bsearch_c {w : World} {v : Value} {us : List PEl} {cs : List Value} {t : PEl} (hv : IsSl kPe 32 w [] v us) (ht : kPe.is w [] cs t) (hmono : ∀ i j (hi : i < us.length) (hj : j < us.length), i ≤ j → cmpPe us[j] t < 0 → cmpPe us[i] t < 0)
    (R : Ending → World → Prop) (hR : ∀ w' i, Ext w w' → At us t i → R (.returned (.tuple #[.int .i64 (i : Int), .bool (HasAt us t i)])) w') :
    Calls Tryz.prog 98 #[v, .agg cs.toArray, .func (.func 99) #[] #[]] w R := by
  obtain ⟨a0, a1, a2, a3, rfl, o0, o1, o2, o3⟩ := kPe_4 ht
  obtain ⟨o, c, b, off, rfl, l1, l2, l3, l4⟩ := hv.ex
  have e4 : kPe.size = 4 := rfl
  rw [e4] at l4
  have ht' := Lib.hid ht
  have hR' := Lib.hid hR
  have hm' := Lib.hid hmono
  have l3' := Lib.hid l3
  have l4' := Lib.hid l4
  clear hv ht hR hmono l3 l4 e4
  go_enter Tryz.func98, Tryz.ntmps98
  go_wp2_with fail
  refine abs1 (G := fun wr => Code.wp _ _ _ _ wr) ?_
  intro w1 hE1 hb1 hs1
  have e0 : w1.cell? ⟨w.heap.size, 0, none⟩ = some (a0) := cells_of hb1 0; have e1 : w1.cell? ⟨w.heap.size, 1, none⟩ = some (a1) := cells_of hb1 1; have e2 : w1.cell? ⟨w.heap.size, 2, none⟩ = some (a2) := cells_of hb1 2; have e3 : w1.cell? ⟨w.heap.size, 3, none⟩ = some (a3) := cells_of hb1 3
  clear hb1 hs1
  go_loopw [9, 10, 11] (fun lo hi _ wr => ∃ p q : Nat, lo = .int .i64 p ∧ hi = .int .i64 q ∧ p ≤ q ∧ q ≤ us.length ∧ Ext w wr ∧ Ext w1 wr ∧ Hid ((∀ j (h : j < us.length), j < p → cmpPe us[j] t < 0) ∧ ∀ j (h : j < us.length), q ≤ j → 0 ≤ cmpPe us[j] t))
    (fun lo hi _ _ => (intOf hi).toNat - (intOf lo).toNat)
  case atStart => exact ⟨0, us.length, rfl, rfl, Nat.zero_le _, Nat.le_refl _, hE1, Ext.refl _, Lib.hid ⟨fun j _ hj => by omega, fun j hj h => by omega⟩⟩
  case round =>
    obtain ⟨p, q, rfl, rfl, hpq, hql, hE, hEw, hI⟩ := hrel
    replace e0 := hEw.keep e0; replace e1 := hEw.keep e1; replace e2 := hEw.keep e2; replace e3 := hEw.keep e3
    by_cases hlt : p < q
    · have hm : (p + q) / 2 < us.length := by omega
      obtain ⟨rfl, -⟩ := l3'.out (by omega)
      obtain ⟨ms, hc, hms⟩ := l4'.out ((p + q) / 2) hm
      obtain ⟨m0, m1, m2, m3, rfl, v0, v1, v2, v3⟩ := kPe_4 hms
      have x0 := hE.keep (hc 0 (by omega))
      have x1 := hE.keep (hc 1 (by omega))
      have x2 := hE.keep (hc 2 (by omega))
      have x3 := hE.keep (hc 3 (by omega))
      simp only [Nat.add_zero] at x0
      have hms' := Lib.hid (kPe.mv hms (hE.mv []))
      have htw := Lib.hid (kPe.mv ht'.out (hE.mv []))
      have hE' := Lib.hid hE
      have hEw' := Lib.hid hEw
      have hm2 := Lib.hid hm
      have hmlt : ((p : Int) + (q : Int)) / 2 < (us.length : Int) := by omega
      have hmn : (((p : Int) + (q : Int)) / 2).toNat = (p + q) / 2 := by omega
      have hm0 : (0 : Int) ≤ ((p : Int) + (q : Int)) / 2 := by omega
      clear hc hms hE hEw
      go_wp2_with fail
      refine wp_region_script [0, 1, 2, 3, 4, 5, 7] [] (fun w' => Ext wr w') [(.pure, 0), (.pure, 1), (.pure, 2), (.pure, 3), (.read, 4), (.read, 5), (.one, 6), (.pure, 7)] (by kernel_rfl) (by kernel_rfl) ?_
      have hC : Ext wr wr.drew := (Ext.refl wr).drew
      iterate 4 (apply scr_pure'; (· rfl); (· rfl); (· (intro w'; go_simp; try rfl)); (· (simp [go_sem]; try rfl)))
      (apply scr_read'; (· rfl); (· rfl); (· first | exact hC | exact (Ext.refl _).drew); (· (intro w' hw'; have x0_ := hw'.keep x0; have x1_ := hw'.keep x1; have x2_ := hw'.keep x2; have x3_ := hw'.keep x3; go_simp; try rfl)); (· (simp [go_sem]; try rfl)))
      (apply scr_read'; (· rfl); (· rfl); (· first | exact hC | exact (Ext.refl _).drew); (· (intro w' hw'; have e0_ := hw'.keep e0; have e1_ := hw'.keep e1; have e2_ := hw'.keep e2; have e3_ := hw'.keep e3; go_simp; try rfl)); (· (simp [go_sem]; try rfl)))
      refine scr_one rfl rfl (fun K hK => ?_)
      refine wp_call_v2 (f := 99) rfl rfl callFunc_ins1 ?_
      go_simp
      refine insCmp_c (cs := [m0, m1, m2, m3]) (ds := [a0, a1, a2, a3]) (kPe.mv hms'.out (hC.mv [])) (kPe.mv htw.out (hC.mv [])) _ ?_
      intro w9 hE9
      refine hK _ _ (fun h => by simp at h) ?_
      clear hK
      obtain ⟨x, hx⟩ : ∃ x, us[(p + q) / 2]'hm2.out = x := ⟨_, rfl⟩
      rw [hx]
      obtain ⟨z, hz⟩ : ∃ z, cmpPe x t = z := ⟨_, rfl⟩
      rw [hz]
      have hx' := Lib.hid hx
      have hz' := Lib.hid hz
      clear hx hz
      by_cases hneg : z < 0
      · (apply scr_pure'; (· rfl); (· rfl); (· (intro w'; go_simp; try rfl)); (· (simp [go_sem]; try rfl)))
        refine scr_end ?_
        simp only [Exit.then]
        go_wp2_with fail
        go_roundw
        case rel =>
          refine ⟨(p + q) / 2 + 1, q, by go_num, rfl, by omega, hql, hE'.out.trans (hC.trans hE9), hEw'.out.trans (hC.trans hE9), Lib.hid ⟨fun j h hj => ?_, hI.out.2⟩⟩
          exact hm'.out j _ h hm2.out (by omega) (by rw [hx'.out, hz'.out]; exact hneg)
        case measure => simp [intOf]; omega
      · (apply scr_pure'; (· rfl); (· rfl); (· (intro w'; go_simp; try rfl)); (· (simp [go_sem]; try rfl)))
        refine scr_end ?_
        simp only [Exit.then]
        go_wp2_with fail
        go_roundw
        case rel =>
          refine ⟨p, (p + q) / 2, rfl, by go_num, by omega, by omega, hE'.out.trans (hC.trans hE9), hEw'.out.trans (hC.trans hE9), Lib.hid ⟨hI.out.1, fun j h hj => ?_⟩⟩
          exact Int.not_lt.1 fun hc => hneg (by
            have := hm'.out _ j hm2.out h (by omega) hc
            rw [hx'.out, hz'.out] at this
            exact this)
        case measure => simp [intOf]; omega
    · obtain rfl : p = q := by omega
      have hat : At us t p := ⟨hql, hI.out.1, fun j h hj => hI.out.2 j h hj⟩
      have hat' := Lib.hid hat
      clear hat hI
      by_cases hin : p < us.length
      · obtain ⟨rfl, -⟩ := l3'.out (by omega)
        obtain ⟨ms, hc, hms⟩ := l4'.out p hin
        obtain ⟨m0, m1, m2, m3, rfl, v0, v1, v2, v3⟩ := kPe_4 hms
        have x0 := hE.keep (hc 0 (by omega))
        have x1 := hE.keep (hc 1 (by omega))
        have x2 := hE.keep (hc 2 (by omega))
        have x3 := hE.keep (hc 3 (by omega))
        simp only [Nat.add_zero] at x0
        have hms' := Lib.hid (kPe.mv hms (hE.mv []))
        have htw := Lib.hid (kPe.mv ht'.out (hE.mv []))
        have hE' := Lib.hid hE
        have hin2 := Lib.hid hin
        have hini : (p : Int) < (us.length : Int) := by omega
        obtain ⟨z, hz⟩ : ∃ z, cmpPe (us[p]'hin) t = z := ⟨_, rfl⟩
        have hh : HasAt us t p = decide (z = 0) := by unfold HasAt; rw [List.getElem?_eq_getElem hin]; show decide (cmpPe (us[p]'hin) t = 0) = _; rw [hz]
        have hh' := Lib.hid hh
        have hz' := Lib.hid hz
        clear hc hms hE hEw hh hz
        go_wp2_with fail
        refine wp_region_script [0, 1, 2, 3, 4, 5, 6, 7, 8, 9, 10, 12, 13, 14, 15] [] (fun w' => Ext wr w') [(.pure, 0), (.pure, 1), (.pure, 2), (.pure, 3), (.pure, 4), (.pure, 5), (.pure, 6), (.pure, 7), (.pure, 8), (.read, 9), (.read, 10), (.one, 11), (.pure, 12), (.pure, 13), (.pure, 14), (.pure, 15)] (by kernel_rfl) (by kernel_rfl) ?_
        have hC : Ext wr wr.drew := (Ext.refl wr).drew
        iterate 9 (first | (apply scr_pG; (· rfl); (· (first | rfl | (simp [Region.wanted, yielded, go_sem]; done) | (simp [Region.wanted, yielded, go_sem, *]; done))); (· (intro w'; go_simp; try rfl)); (· (simp [go_sem]; try rfl))) | (apply scr_p0; (· rfl); (· (first | rfl | (simp [Region.wanted, yielded, go_sem]; done) | (simp [Region.wanted, yielded, go_sem, *]; done))); (· (simp [go_sem]; try rfl))))
        (first | (apply scr_rG; (· rfl); (· (first | rfl | (simp [Region.wanted, yielded, go_sem]; done) | (simp [Region.wanted, yielded, go_sem, *]; done))); (· first | exact hC | exact (Ext.refl _).drew); (· (intro w' hw'; have x0_ := hw'.keep x0; have x1_ := hw'.keep x1; have x2_ := hw'.keep x2; have x3_ := hw'.keep x3; go_simp; try rfl)); (· (simp [go_sem]; try rfl))) | (apply scr_r0G; (· rfl); (· (first | rfl | (simp [Region.wanted, yielded, go_sem]; done) | (simp [Region.wanted, yielded, go_sem, *]; done))); (· first | exact hC | exact (Ext.refl _).drew); (· (simp [go_sem]; try rfl))))
        (first | (apply scr_rG; (· rfl); (· (first | rfl | (simp [Region.wanted, yielded, go_sem]; done) | (simp [Region.wanted, yielded, go_sem, *]; done))); (· first | exact hC | exact (Ext.refl _).drew); (· (intro w' hw'; have e0_ := hw'.keep e0; have e1_ := hw'.keep e1; have e2_ := hw'.keep e2; have e3_ := hw'.keep e3; go_simp; try rfl)); (· (simp [go_sem]; try rfl))) | (apply scr_r0G; (· rfl); (· (first | rfl | (simp [Region.wanted, yielded, go_sem]; done) | (simp [Region.wanted, yielded, go_sem, *]; done))); (· first | exact hC | exact (Ext.refl _).drew); (· (simp [go_sem]; try rfl))))
        refine scr_oneG rfl (by simp [Region.wanted, yielded, go_sem, hini]) (fun K hK => ?_)
        refine wp_call_v2 (f := 99) rfl rfl callFunc_ins1 ?_
        go_simp
        refine insCmp_c (cs := [m0, m1, m2, m3]) (ds := [a0, a1, a2, a3]) (kPe.mv hms'.out (hC.mv [])) (kPe.mv htw.out (hC.mv [])) _ ?_
        rw [hz'.out]
        intro w9 hE9
        refine hK _ _ (fun h => by simp at h) ?_
        clear hK
        by_cases h0 : z = 0
        · have h0b : (z == 0) = true := by simp [h0]
          have hfin := Lib.hid (show HasAt us t p = true by rw [hh'.out]; simp [h0])
          iterate 4 (first | (apply scr_pG; (· rfl); (· (first | rfl | (simp [Region.wanted, yielded, go_sem]; done) | (simp [Region.wanted, yielded, go_sem, *]; done))); (· (intro w'; go_simp; try rfl)); (· (simp [go_sem]; try rfl))) | (apply scr_p0; (· rfl); (· (first | rfl | (simp [Region.wanted, yielded, go_sem]; done) | (simp [Region.wanted, yielded, go_sem, *]; done))); (· (simp [go_sem]; try rfl))))
          refine scr_end ?_
          simp only [Exit.then]
          go_wp2_with fail
          have := hR'.out w9 p (hE'.out.trans (hC.trans hE9)) hat'.out
          rw [hfin.out] at this
          exact this
        · have h0b : (z == 0) = false := by simp [h0]
          have hfin := Lib.hid (show HasAt us t p = false by rw [hh'.out]; simp [h0])
          iterate 4 (first | (apply scr_pG; (· rfl); (· (first | rfl | (simp [Region.wanted, yielded, go_sem]; done) | (simp [Region.wanted, yielded, go_sem, *]; done))); (· (intro w'; go_simp; try rfl)); (· (simp [go_sem]; try rfl))) | (apply scr_p0; (· rfl); (· (first | rfl | (simp [Region.wanted, yielded, go_sem]; done) | (simp [Region.wanted, yielded, go_sem, *]; done))); (· (simp [go_sem]; try rfl))))
          refine scr_end ?_
          simp only [Exit.then]
          go_wp2_with fail
          have := hR'.out w9 p (hE'.out.trans (hC.trans hE9)) hat'.out
          rw [hfin.out] at this
          exact this
      · have hpe : p = us.length := by omega
        have hini : ¬ (p : Int) < (us.length : Int) := by omega
        have hfin := Lib.hid (show HasAt us t p = false by simp [HasAt, hpe])
        have hE' := Lib.hid hE
        clear hpe hE hEw
        go_wp2_with fail
        refine wp_region_script [0, 1, 2, 3, 4, 5, 6, 7, 8, 9, 10, 12, 13, 14, 15] [] (fun w' => Ext wr w') [(.pure, 0), (.pure, 1), (.pure, 2), (.pure, 3), (.pure, 4), (.pure, 5), (.pure, 6), (.pure, 7), (.pure, 8), (.read, 9), (.read, 10), (.one, 11), (.pure, 12), (.pure, 13), (.pure, 14), (.pure, 15)] (by kernel_rfl) (by kernel_rfl) ?_
        have hC : Ext wr wr.drew := (Ext.refl wr).drew
        iterate 9 (first | (apply scr_pG; (· rfl); (· (first | rfl | (simp [Region.wanted, yielded, go_sem]; done) | (simp [Region.wanted, yielded, go_sem, *]; done))); (· (intro w'; go_simp; try rfl)); (· (simp [go_sem]; try rfl))) | (apply scr_p0; (· rfl); (· (first | rfl | (simp [Region.wanted, yielded, go_sem]; done) | (simp [Region.wanted, yielded, go_sem, *]; done))); (· (simp [go_sem]; try rfl))))
        (first | (apply scr_rG; (· rfl); (· (first | rfl | (simp [Region.wanted, yielded, go_sem]; done) | (simp [Region.wanted, yielded, go_sem, *]; done))); (· first | exact hC | exact (Ext.refl _).drew); (· (intro w' hw'; have e0_ := hw'.keep e0; go_simp; try rfl)); (· (simp [go_sem]; try rfl))) | (apply scr_r0G; (· rfl); (· (first | rfl | (simp [Region.wanted, yielded, go_sem]; done) | (simp [Region.wanted, yielded, go_sem, *]; done))); (· first | exact hC | exact (Ext.refl _).drew); (· (simp [go_sem]; try rfl))))
        (first | (apply scr_rG; (· rfl); (· (first | rfl | (simp [Region.wanted, yielded, go_sem]; done) | (simp [Region.wanted, yielded, go_sem, *]; done))); (· first | exact hC | exact (Ext.refl _).drew); (· (intro w' hw'; have e0_ := hw'.keep e0; go_simp; try rfl)); (· (simp [go_sem]; try rfl))) | (apply scr_r0G; (· rfl); (· (first | rfl | (simp [Region.wanted, yielded, go_sem]; done) | (simp [Region.wanted, yielded, go_sem, *]; done))); (· first | exact hC | exact (Ext.refl _).drew); (· (simp [go_sem]; try rfl))))
        refine scr_one0 rfl (by simp [Region.wanted, yielded, go_sem, hini]) (fun h => by simp at h) (by simp [go_sem]; rfl) ?_
        iterate 4 (first | (apply scr_pG; (· rfl); (· (first | rfl | (simp [Region.wanted, yielded, go_sem]; done) | (simp [Region.wanted, yielded, go_sem, *]; done))); (· (intro w'; go_simp; try rfl)); (· (simp [go_sem]; try rfl))) | (apply scr_p0; (· rfl); (· (first | rfl | (simp [Region.wanted, yielded, go_sem]; done) | (simp [Region.wanted, yielded, go_sem, *]; done))); (· (simp [go_sem]; try rfl))))
        refine scr_end ?_
        simp only [Exit.then]
        go_wp2_with fail
        have := hR'.out wr.drew p hE'.out.drew hat'.out
        rw [hfin.out] at this
        first | exact this | simpa [go_sem] using this
end Go.Proofs.YtihapgangilncaaGreat
namespace Go.Proofs.YtihapgangilncaaGreat
open Go.RowKit
set_option linter.unusedSimpArgs false

theorem ins_mut {w wz w8 w9 : World} {bo : Nat} {v : Value} (hE : Ext w wz) (h8 : wz.grownBy w8 v.ownBlock) (h9 : w8.grownBy w9 (some bo)) : Mut w (bo :: vb v) w9 :=
  ⟨h9.os.trans (h8.os.trans hE.below.os), h9.tape.trans (h8.tape.trans hE.below.tape), h9.output.trans (h8.output.trans hE.below.output), Nat.le_trans hE.size (Nat.le_trans h8.size h9.size), fun i hi hx => by
    simp only [List.mem_cons, not_or] at hx
    have h1 := Nat.lt_of_lt_of_le hi hE.size
    exact (h9.block i (Nat.lt_of_lt_of_le h1 h8.size) (fun e => hx.1 (Option.some.inj e))).trans ((h8.block i h1 (fun e => hx.2 (by simp [vb, ← e]))).trans (hE.below.block i hi))⟩
/-- the set us with t put in at place i, if it is not there -/
def insAt (us : List PEl) (t : PEl) (i : Nat) : List PEl := if HasAt us t i then us else us.take i ++ t :: us.drop i

theorem Tryz.info79 : (Tryz.prog.info? 79).map (fun i => (i.zero, i.size, i.bytes)) = some (some (.slice none 0 0), 1, 24) := by kernel_rfl

set_option maxRecDepth 100000 in
set_option maxHeartbeats 8000000 in
set_option pp.maxSteps 1000000 in
set_option pp.deepTerms true in
theorem esInsert_c {w : World} {X : List Nat} {bs off : Nat} {old : Array Value} {T : TypeId} {v : Value} {us : List PEl} {cs : List Value} {t : PEl} (hb : w.heap[bs]? = some (.cells old T (0, 0))) (hoff : off < old.size) (hov : old[off]? = some v)
    (hrow : Row kPe 89 w (bs :: X) v us) (hX : Old (bs :: X) w) (ht : kPe.is w (vb v ++ bs :: X) cs t) (hmono : ∀ i j (hi : i < us.length) (hj : j < us.length), i ≤ j → cmpPe us[j] t < 0 → cmpPe us[i] t < 0)
    (hbytes : (us.length + 1) * 32 ≤ 140737488351232) (R : Ending → World → Prop)
    (hR : ∀ w' v' i, At us t i → w'.heap[bs]? = some (.cells (old.setIfInBounds off v') T (0, 0)) → Row kPe 89 w' (bs :: X) v' (insAt us t i) → Mut w (bs :: vb v) w' → (∀ g, v'.ownBlock = some g → v.ownBlock = some g ∨ w.heap.size ≤ g) → R (.returned (.tuple #[])) w') :
    Calls Tryz.prog 51 #[.pointer (some ⟨bs, off, none⟩), .agg cs.toArray] w R := by
  obtain ⟨a0, a1, a2, a3, rfl, o0, o1, o2, o3⟩ := kPe_4 ht
  have hsl := hrow.isSl (bytes := 32) (Nat.le_trans (Nat.mul_le_mul_right _ (Nat.le_succ _)) hbytes)
  have hvo := hrow.one
  have hblt := (Array.getElem?_eq_some_iff.1 hb).1
  have c0 : w.cell? ⟨bs, off, none⟩ = some v := by rw [cells_of hb]; exact hov
  have hself : old.setIfInBounds off v = old := by
    apply Array.ext_getElem?
    intro j
    rw [Array.getElem?_setIfInBounds]
    split
    · rename_i e; rw [← e, hov]
    · rfl
  have hsl' := Lib.hid (hsl.mv ((Mv.refl w _).less (Z := []) (by simp)) (by decide))
  have hb' := Lib.hid hb
  have hoff' := Lib.hid hoff
  have hrow' := Lib.hid hrow
  have hX' := Lib.hid hX
  have ht' := Lib.hid ht
  have hm' := Lib.hid hmono
  have hbytes' := Lib.hid hbytes
  have hself' := Lib.hid hself
  have hR' := Lib.hid hR
  clear hb hoff hov hrow hX ht hmono hbytes hR hsl hself
  go_enter Tryz.func51, Tryz.ntmps51
  go_wp2_with fail
  refine abs1 (G := fun wr => Code.wp _ _ _ _ wr) ?_
  intro w1 hE1 hb1 hs1
  have e0 : w1.cell? ⟨w.heap.size, 0, none⟩ = some (a0) := cells_of hb1 0; have e1 : w1.cell? ⟨w.heap.size, 1, none⟩ = some (a1) := cells_of hb1 1; have e2 : w1.cell? ⟨w.heap.size, 2, none⟩ = some (a2) := cells_of hb1 2; have e3 : w1.cell? ⟨w.heap.size, 3, none⟩ = some (a3) := cells_of hb1 3
  replace c0 := hE1.keep c0
  clear hb1 hs1
  refine wp_region_script [0, 1, 2, 3, 4, 6, 7, 8, 9, 10] [] (fun w' => Ext w1 w') [(.pure, 0), (.pure, 1), (.pure, 2), (.read, 3), (.read, 4), (.one, 5), (.pure, 6), (.pure, 7), (.pure, 8), (.pure, 9), (.pure, 10)] (by kernel_rfl) (by kernel_rfl) ?_
  have hC : Ext w1 w1.drew := (Ext.refl _).drew
  iterate 3 (apply scr_pure'; (· rfl); (· rfl); (· (intro w'; go_simp; try rfl)); (· (simp [go_sem]; try rfl)))
  (apply scr_read'; (· rfl); (· rfl); (· first | exact hC | exact (Ext.refl _).drew); (· (intro w' hw'; have c0_ := hw'.keep c0; go_simp; try rfl)); (· (simp [go_sem]; try rfl)))
  (apply scr_read'; (· rfl); (· rfl); (· first | exact hC | exact (Ext.refl _).drew); (· (intro w' hw'; have e0_ := hw'.keep e0; have e1_ := hw'.keep e1; have e2_ := hw'.keep e2; have e3_ := hw'.keep e3; go_simp; try rfl)); (· (simp [go_sem]; try rfl)))
  refine scr_one rfl rfl (fun K hK => ?_)
  go_simp
  refine bsearch_c (cs := [a0, a1, a2, a3]) (t := t) (hsl'.out.mv ((hE1.trans hC).mv []) (by decide)) (kPe.mv (kPe.mv ht'.out ((Mv.refl w _).less (Z := []) (by simp))) ((hE1.trans hC).mv [])) hm'.out _ ?_
  intro w2 i hE2 hat
  have hE12 := hC.trans hE2
  refine hK _ _ (fun h => by simp at h) ?_
  clear hK
  obtain ⟨fb, hfb⟩ : ∃ q, HasAt us t i = q := ⟨_, rfl⟩
  rw [hfb]
  have hfb' := Lib.hid hfb
  have hat' := Lib.hid hat
  clear hfb hat
  iterate 5 (apply scr_pure'; (· rfl); (· rfl); (· (intro w'; go_simp; try rfl)); (· (simp [go_sem]; try rfl)))
  refine scr_end ?_
  simp only [Exit.then]
  replace c0 := hE12.keep c0; replace e0 := hE12.keep e0; replace e1 := hE12.keep e1; replace e2 := hE12.keep e2; replace e3 := hE12.keep e3
  replace hE1 := hE1.trans hE12
  clear hE2 hE12 hC
  cases fb
  · go_wp2_with fail
    refine wp_region_script [0, 1, 2, 3, 4, 5, 6, 9, 10] [7] (fun w' => Ext w2 w') [(.pure, 0), (.pure, 1), (.pure, 2), (.pure, 3), (.read, 4), (.pure, 5), (.read, 6), (.one, 7), (.one, 8), (.pure, 9), (.pure, 10), (.one, 11)] (by kernel_rfl) (by kernel_rfl) ?_
    have hC : Ext w2 w2.drew := (Ext.refl _).drew
    iterate 4 (apply scr_pure'; (· rfl); (· rfl); (· (intro w'; go_simp; try rfl)); (· (simp [go_sem]; try rfl)))
    (apply scr_read'; (· rfl); (· rfl); (· first | exact hC | exact (Ext.refl _).drew); (· (intro w' hw'; have c0_ := hw'.keep c0; go_simp; try rfl)); (· (simp [go_sem]; try rfl)))
    (apply scr_pure'; (· rfl); (· rfl); (· (intro w'; go_simp; try rfl)); (· (simp [go_sem]; try rfl)))
    (apply scr_read'; (· rfl); (· rfl); (· first | exact hC | exact (Ext.refl _).drew); (· (intro w' hw'; have e0_ := hw'.keep e0; have e1_ := hw'.keep e1; have e2_ := hw'.keep e2; have e3_ := hw'.keep e3; go_simp; try rfl)); (· (simp [go_sem]; try rfl)))
    refine scr_one rfl rfl (fun K hK => ?_)
    go_simp
    refine hK _ _ (fun _ => hC.push _) ?_
    clear hK
    refine scr_one rfl rfl (fun K hK => ?_)
    go_simp
    have hEW : Ext w (w2.alloc (.cells #[a0, a1, a2, a3] 89)).drew := (hE1.push _).drew
    obtain ⟨W, hW⟩ : ∃ W, (w2.alloc (.cells #[a0, a1, a2, a3] 89)).drew = W := ⟨_, rfl⟩
    have hq : W.heap[w2.heap.size]? = some (.cells #[a0, a1, a2, a3] 89 (0, 0)) := by
      rw [← hW]
      exact (push_get _ _ _).trans (if_pos rfl)
    have hC2 : Ext w2 W := by rw [← hW]; exact ((Ext.refl w2).push _).drew
    rw [hW] at hEW ⊢
    have hqv : v.ownBlock ≠ some w2.heap.size := fun e => by have := hrow'.out.lt e; have := hE1.size; omega
    refine insert_c (X := bs :: X) (cs := [a0, a1, a2, a3]) (u := t) (hrow'.out.ext hEW) (hX'.out.le hEW.size) hq (kPe.mv ht'.out (hEW.mv _)) hqv hat'.out.1 hbytes'.out _ ?_
    intro w3 v' hrow3 hg3 hne3 hd3
    have hvo3 := hrow3.one
    have hb3 : w3.heap[bs]? = some (.cells old T (0, 0)) := (hg3.block bs (Nat.lt_of_lt_of_le hblt hEW.size) (hrow'.out.notin (by simp))).trans ((hEW.below.block bs hblt).trans hb'.out)
    have hrow3' := Lib.hid hrow3
    have hd3' := Lib.hid hd3
    have hg3' := Lib.hid hg3
    have hEW' := Lib.hid hEW
    clear hrow3 hd3 hg3 hEW hq hW hqv hC2
    refine hK _ _ (fun h => by simp at h) ?_
    clear hK
    iterate 2 (apply scr_pure'; (· rfl); (· rfl); (· (intro w'; go_simp; try rfl)); (· (simp [go_sem]; try rfl)))
    refine scr_one rfl rfl (fun K hK => ?_)
    refine wp_storeC 79 _ _ rfl Tryz.info79 (v := v') (new := old.setIfInBounds off v') (by go_simp) (by go_simp) hvo3 hb3 hoff'.out rfl ?_
    intro w4 h4 g4
    refine hK _ _ (fun h => by simp at h) ?_
    clear hK
    refine scr_end ?_
    have h4' := Lib.hid h4
    have g4' := Lib.hid g4
    clear h4 g4
    refine bodyPost_end (by simp [results, Tryz.results51, go_sem]) rfl (hR'.out w4 v' i hat'.out h4'.out ?_ (ins_mut hEW'.out hg3'.out g4'.out) (fun g h => (hd3'.out g h).imp id (fun e => Nat.le_trans hEW'.out.size e)))
    unfold insAt
    rw [hfb'.out]
    exact hrow3'.out.keep g4'.out (by simp)
  · go_wp2_with fail
    refine bodyPost_ret (by simp [results, Tryz.results51, go_sem]) rfl (hR'.out w2 v i hat'.out ?_ ?_ (hE1.mut _) (fun g h => .inl h))
    · rw [hself'.out]
      exact (hE1.below.block bs hblt).trans hb'.out
    · unfold insAt
      rw [hfb'.out]
      exact hrow'.out.ext hE1
end Go.Proofs.YtihapgangilncaaGreat
namespace Go.Proofs.YtihapgangilncaaGreat
open Go.RowKit
set_option linter.unusedSimpArgs false

theorem cmpT_neg' (s t : T) : cmpT t s = - cmpT s t := cmpP_neg _ _
theorem cmpT_rng' (s t : T) : cmpT s t = -1 ∨ cmpT s t = 0 ∨ cmpT s t = 1 := cmpP_rng _ _
theorem cmpPe_neg' (a b : PEl) : cmpPe b a = - cmpPe a b := by
  cases a <;> cases b <;> simp only [cmpPe] <;> first | rfl | exact cmpS_neg _ _ | exact cmpE_neg cmpT_neg' _ _ | exact cmpT_neg' _ _ | exact cmpI_neg _ _
theorem cmpPe_rng' (a b : PEl) : cmpPe a b = -1 ∨ cmpPe a b = 0 ∨ cmpPe a b = 1 := by
  cases a <;> cases b <;> simp only [cmpPe] <;> first | exact cmpS_rng _ _ | exact cmpE_rng cmpT_rng' _ _ | exact cmpT_rng' _ _ | exact cmpI_rng _ _ | simp

end Go.Proofs.YtihapgangilncaaGreat
namespace Go.Proofs.YtihapgangilncaaGreat
open Go.RowKit
set_option linter.unusedSimpArgs false

def GoodPe : PEl → Prop
  | .key fs => ∀ p ∈ fs, GoodT p.2
  | .value t => GoodT t
  | _ => True
theorem good_plain (v : V) : v.clean.orderly = true → GoodT v.plain := by
  induction v using V.ind with
  | h kind n f s keys l ih =>
    intro h
    simp only [V.plain]
    simp only [V.clean] at h
    split
    · exact .bool _
    rename_i k1
    rw [if_neg k1] at h
    split
    · rename_i k2
      rw [if_pos k2] at h
      simp [V.orderly] at h
      exact .int h.1 h.2
    rename_i k2
    rw [if_neg k2] at h
    split
    · rename_i k3
      rw [if_pos k3] at h
      exact .float (noNan_of (by simpa [V.orderly] using h))
    rename_i k3
    rw [if_neg k3] at h
    split
    · exact .str _
    rename_i k4
    rw [if_neg k4] at h
    split
    · rename_i k5
      rw [if_pos k5] at h
      have h' : V.orderlyL (V.cleanL l) = true := by simpa [V.orderly] using h
      refine .list fun i hi => ?_
      rw [V.plainL_eq] at hi
      simp only [V.plainL_eq, List.getElem_map]
      have hil : i < l.length := by simpa using hi
      have := (orderlyL_iff _).1 h' i (by rw [cleanL_length]; exact hil)
      rw [cleanL_get hil] at this
      exact ih i hil this
    rename_i k5
    rw [if_neg k5] at h
    split
    · rename_i k6
      rw [if_pos k6] at h
      have h' : V.orderlyL ((insAll [] (keys.zip (V.cleanL l))).map (·.2)) = true := by simpa [V.orderly] using h
      refine .map fun i hi => ?_
      obtain ⟨p, hp, e⟩ := List.mem_map.1 (List.getElem_mem hi)
      rw [← e]
      have hz : keys.zip (V.plainL l) = (keys.zip l).map fun p => (p.1, p.2.plain) := by rw [V.plainL_eq, zip_map_right]
      rw [hz] at hp
      have hl1 := lookK_at (putAll_nodup _) hp
      rw [← lookK_insAll, ← insAll_map, lookK_map] at hl1
      cases hv : lookK p.1 (insAll [] (keys.zip l)) with
      | none => rw [hv] at hl1; cases hl1
      | some v =>
        rw [hv] at hl1
        have hpv : v.plain = p.2 := by simpa using hl1
        rw [← hpv]
        have hm := lookK_mem hv
        have hml := (List.of_mem_zip (insAll_sub hm)).2
        obtain ⟨j, hj, ej⟩ := List.getElem_of_mem hml
        subst ej
        refine ih j hj ?_
        have hc : (p.1, (l[j]).clean) ∈ insAll [] (keys.zip (V.cleanL l)) := by
          rw [V.cleanL_eq, ← zip_map_right, ← insAll_map]
          exact List.mem_map.2 ⟨_, hm, rfl⟩
        obtain ⟨q, hq, eq⟩ := List.getElem_of_mem (List.mem_map.2 ⟨_, hc, rfl⟩ : (l[j]).clean ∈ (insAll [] (keys.zip (V.cleanL l))).map (·.2))
        have := (orderlyL_iff _).1 h' q hq
        rw [eq] at this
        exact this
    · exact .null

theorem key_tame' {e : EL} (h : tameEl e) (hk : e.kind = 1) : ∀ p ∈ e.keys.zip (V.plainL e.l), ∃ v : V, p.2 = v.plain ∧ v.clean.orderly = true := by
  intro p hp
  rw [V.plainL_eq, ← zip_map_right] at hp
  obtain ⟨q, hq, rfl⟩ := List.mem_map.1 hp
  obtain ⟨i, hi, rfl⟩ := List.getElem_of_mem hq
  obtain ⟨-, h2⟩ := h
  unfold cleanEl at h2
  rw [if_pos hk] at h2
  have hi1 : i < e.keys.length := by rw [List.length_zip] at hi; omega
  have hi2 : i < e.l.length := by rw [List.length_zip] at hi; omega
  have ho := (orderlyL_iff _).1 h2 i (by rw [cleanL_length, List.length_take]; omega)
  have e1 : (V.cleanL (e.l.take (min e.keys.length e.l.length)))[i]'(by rw [cleanL_length, List.length_take]; omega) = (e.l[i]).clean := by
    rw [cleanL_get (by rw [List.length_take]; omega), List.getElem_take]
  rw [e1] at ho
  exact ⟨e.l[i], by simp, ho⟩
theorem value_tame' {e : EL} (h : tameEl e) (hk : e.kind = 2) : e.v.clean.orderly = true := by
  obtain ⟨h1, -⟩ := h
  unfold cleanEl at h1
  rw [if_neg (by omega), if_pos hk] at h1
  exact h1
theorem good_toE {e : EL} (h : tameEl e) : GoodPe (toE e) := by
  unfold toE
  split
  · rename_i k1
    intro p hp
    obtain ⟨v, e1, h1⟩ := key_tame' h k1 p hp
    rw [e1]
    exact good_plain v h1
  · split
    · rename_i k2
      exact good_plain _ (value_tame' h k2)
    · split <;> trivial
end Go.Proofs.YtihapgangilncaaGreat
