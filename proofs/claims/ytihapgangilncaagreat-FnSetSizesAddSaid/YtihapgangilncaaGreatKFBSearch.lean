/- slices.BinarySearchFunc over path elements, with the comparison of PathElementSet.Insert. -/
import Derived.Test.YtihapgangilncaaGreatKFPeCmp
import Derived.Test.YtihapgangilncaaGreatKFIns
import Derived.Test.YtihapgangilncaaGreatKFGrd
namespace Go.Proofs.YtihapgangilncaaGreat
open Go.RowKit
set_option linter.unusedSimpArgs false

set_option maxRecDepth 100000 in
theorem wp_call_v2 {o : Oper} {a : Act} {w : World} {next : Act → World → Prop} {Q : Exit → Act → World → Prop} {dst : Option Tmp} {f : FuncId} {t : Tmp} {xs : Array Operand} {ats : Array TypeId} {ty : TypeId} {pos : String} {after : Array Edge} {guard : Option (Nat × Bool)}
    (ho : o = { dst, op := .call { callee := .value (.tmp t), args := xs, argTypes := ats }, type := ty, pos, after, guard }) (h : a.eval (.tmp t) = .func (.func f) #[] #[])
    (he : ∀ (args : Array Value) (w : World), (callFunc f args).run Tryz.prog w = .ok (.enter f args) w) (hc : Calls Tryz.prog f (#[] ++ xs.map a.eval ++ #[]) w fun
      | .returned v, w'' => next (a.put o.dst v) w''
      | .panicked chain, w'' => Q (.panic chain) a w''
      | .outgrown, _ => LetsOut Q) : Oper.wp Tryz.prog o a w next Q := by
  subst ho
  have e : execOp a.eval { dst, op := .call { callee := .value (.tmp t), args := xs, argTypes := ats }, type := ty, pos, after, guard } = callFunc f (#[] ++ xs.map a.eval ++ #[]) := by
    simp only [execOp, resolve, h]
    rfl
  unfold Oper.wp
  rw [e]
  rw [he, Oper.upon_enter]
  refine hc.mono ?_
  rintro (_ | _ | _) w'' h <;> exact h

set_option maxRecDepth 100000 in
theorem callFunc_ins1 (args : Array Value) (w : World) : (callFunc 99 args).run Tryz.prog w = .ok (.enter 99 args) w := rfl

set_option maxRecDepth 100000 in
set_option maxHeartbeats 1000000 in
theorem insCmp_c {w : World} {cs ds : List Value} {a b : PEl} (ha : kPe.is w [] cs a) (hb : kPe.is w [] ds b) (R : Ending → World → Prop) (hR : Ends R w (.int .i64 (cmpPe a b))) :
    Calls Tryz.prog 99 #[.agg cs.toArray, .agg ds.toArray] w R := by
  obtain ⟨a0, a1, a2, a3, rfl, o0, o1, o2, o3⟩ := kPe_4 ha
  obtain ⟨b0, b1, b2, b3, rfl, u0, u1, u2, u3⟩ := kPe_4 hb
  have ha' := Lib.hid ha
  have hb' := Lib.hid hb
  have hR' := Lib.hid hR
  clear ha hb hR
  go_enter Tryz.func99, Tryz.ntmps99
  go_wp2_with fail
  refine abs2 (G := fun wr => Calls _ _ _ wr _) ?_
  intro w1 hE1 hb1 hb2 hs1
  refine peCompare_c (cs := [a0, a1, a2, a3]) (ds := [b0, b1, b2, b3]) (kPe.mv ha'.out (hE1.mv [])) (kPe.mv hb'.out (hE1.mv [])) _ ?_
  intro w2 hE2
  dsimp only
  go_wp2_with fail
  exact hR'.out _ (hE1.trans hE2)

/-- where t stands, or would stand, in us: behind all that come ahead of it -/
def At (us : List PEl) (t : PEl) (i : Nat) : Prop := i ≤ us.length ∧ (∀ j (h : j < us.length), j < i → cmpPe us[j] t < 0) ∧ ∀ j (h : j < us.length), i ≤ j → 0 ≤ cmpPe us[j] t
def HasAt (us : List PEl) (t : PEl) (i : Nat) : Bool := match us[i]? with
  | some x => decide (cmpPe x t = 0)
  | none => false

set_option maxRecDepth 100000 in
set_option maxHeartbeats 8000000 in
set_option pp.maxSteps 1000000 in
set_option pp.deepTerms true in
theorem bsearch_c {w : World} {v : Value} {us : List PEl} {cs : List Value} {t : PEl} (hv : IsSl kPe 32 w [] v us) (ht : kPe.is w [] cs t) (hmono : ∀ i j (hi : i < us.length) (hj : j < us.length), i ≤ j → cmpPe us[j] t < 0 → cmpPe us[i] t < 0)
    (R : Ending → World → Prop) (hR : ∀ w' i, Ext w w' → At us t i → R (.returned (.tuple #[.int .i64 (i : Int), .bool (HasAt us t i)])) w') :
    Calls Tryz.prog 98 #[v, .agg cs.toArray, .func (.func 99) #[] #[]] w R := by
  obtain ⟨a0, a1, a2, a3, rfl, o0, o1, o2, o3⟩ := kPe_4 ht
  obtain ⟨o, c, b, off, rfl, l1, l2, l3, l4⟩ := hv.ex
  have e4 : kPe.size = 4 := rfl
  rw [e4] at l4
  have ht' := Lib.hid ht
  have hR' := Lib.hid hR
  have hm' := Lib.hid hmono
  have l3' := Lib.hid l3
  have l4' := Lib.hid l4
  clear hv ht hR hmono l3 l4 e4
  go_enter Tryz.func98, Tryz.ntmps98
  go_wp2_with fail
  refine abs1 (G := fun wr => Code.wp _ _ _ _ wr) ?_
  intro w1 hE1 hb1 hs1
  have e0 : w1.cell? ⟨w.heap.size, 0, none⟩ = some (a0) := cells_of hb1 0; have e1 : w1.cell? ⟨w.heap.size, 1, none⟩ = some (a1) := cells_of hb1 1; have e2 : w1.cell? ⟨w.heap.size, 2, none⟩ = some (a2) := cells_of hb1 2; have e3 : w1.cell? ⟨w.heap.size, 3, none⟩ = some (a3) := cells_of hb1 3
  clear hb1 hs1
  go_loopw [9, 10, 11] (fun lo hi _ wr => ∃ p q : Nat, lo = .int .i64 p ∧ hi = .int .i64 q ∧ p ≤ q ∧ q ≤ us.length ∧ Ext w wr ∧ Ext w1 wr ∧ Hid ((∀ j (h : j < us.length), j < p → cmpPe us[j] t < 0) ∧ ∀ j (h : j < us.length), q ≤ j → 0 ≤ cmpPe us[j] t))
    (fun lo hi _ _ => (intOf hi).toNat - (intOf lo).toNat)
  case atStart => exact ⟨0, us.length, rfl, rfl, Nat.zero_le _, Nat.le_refl _, hE1, Ext.refl _, Lib.hid ⟨fun j _ hj => by omega, fun j hj h => by omega⟩⟩
  case round =>
    obtain ⟨p, q, rfl, rfl, hpq, hql, hE, hEw, hI⟩ := hrel
    replace e0 := hEw.keep e0; replace e1 := hEw.keep e1; replace e2 := hEw.keep e2; replace e3 := hEw.keep e3
    by_cases hlt : p < q
    · have hm : (p + q) / 2 < us.length := by omega
      obtain ⟨rfl, -⟩ := l3'.out (by omega)
      obtain ⟨ms, hc, hms⟩ := l4'.out ((p + q) / 2) hm
      obtain ⟨m0, m1, m2, m3, rfl, v0, v1, v2, v3⟩ := kPe_4 hms
      have x0 := hE.keep (hc 0 (by omega))
      have x1 := hE.keep (hc 1 (by omega))
      have x2 := hE.keep (hc 2 (by omega))
      have x3 := hE.keep (hc 3 (by omega))
      simp only [Nat.add_zero] at x0
      have hms' := Lib.hid (kPe.mv hms (hE.mv []))
      have htw := Lib.hid (kPe.mv ht'.out (hE.mv []))
      have hE' := Lib.hid hE
      have hEw' := Lib.hid hEw
      have hm2 := Lib.hid hm
      have hmlt : ((p : Int) + (q : Int)) / 2 < (us.length : Int) := by omega
      have hmn : (((p : Int) + (q : Int)) / 2).toNat = (p + q) / 2 := by omega
      have hm0 : (0 : Int) ≤ ((p : Int) + (q : Int)) / 2 := by omega
      clear hc hms hE hEw
      go_wp2_with fail
      refine wp_region_script [0, 1, 2, 3, 4, 5, 7] [] (fun w' => Ext wr w') [(.pure, 0), (.pure, 1), (.pure, 2), (.pure, 3), (.read, 4), (.read, 5), (.one, 6), (.pure, 7)] (by kernel_rfl) (by kernel_rfl) ?_
      have hC : Ext wr wr.drew := (Ext.refl wr).drew
      iterate 4 (apply scr_pure'; (· rfl); (· rfl); (· (intro w'; go_simp; try rfl)); (· (simp [go_sem]; try rfl)))
      (apply scr_read'; (· rfl); (· rfl); (· first | exact hC | exact (Ext.refl _).drew); (· (intro w' hw'; have x0_ := hw'.keep x0; have x1_ := hw'.keep x1; have x2_ := hw'.keep x2; have x3_ := hw'.keep x3; go_simp; try rfl)); (· (simp [go_sem]; try rfl)))
      (apply scr_read'; (· rfl); (· rfl); (· first | exact hC | exact (Ext.refl _).drew); (· (intro w' hw'; have e0_ := hw'.keep e0; have e1_ := hw'.keep e1; have e2_ := hw'.keep e2; have e3_ := hw'.keep e3; go_simp; try rfl)); (· (simp [go_sem]; try rfl)))
      refine scr_one rfl rfl (fun K hK => ?_)
      refine wp_call_v2 (f := 99) rfl rfl callFunc_ins1 ?_
      go_simp
      refine insCmp_c (cs := [m0, m1, m2, m3]) (ds := [a0, a1, a2, a3]) (kPe.mv hms'.out (hC.mv [])) (kPe.mv htw.out (hC.mv [])) _ ?_
      intro w9 hE9
      refine hK _ _ (fun h => by simp at h) ?_
      clear hK
      obtain ⟨x, hx⟩ : ∃ x, us[(p + q) / 2]'hm2.out = x := ⟨_, rfl⟩
      rw [hx]
      obtain ⟨z, hz⟩ : ∃ z, cmpPe x t = z := ⟨_, rfl⟩
      rw [hz]
      have hx' := Lib.hid hx
      have hz' := Lib.hid hz
      clear hx hz
      by_cases hneg : z < 0
      · (apply scr_pure'; (· rfl); (· rfl); (· (intro w'; go_simp; try rfl)); (· (simp [go_sem]; try rfl)))
        refine scr_end ?_
        simp only [Exit.then]
        go_wp2_with fail
        go_roundw
        case rel =>
          refine ⟨(p + q) / 2 + 1, q, by go_num, rfl, by omega, hql, hE'.out.trans (hC.trans hE9), hEw'.out.trans (hC.trans hE9), Lib.hid ⟨fun j h hj => ?_, hI.out.2⟩⟩
          exact hm'.out j _ h hm2.out (by omega) (by rw [hx'.out, hz'.out]; exact hneg)
        case measure => simp [intOf]; omega
      · (apply scr_pure'; (· rfl); (· rfl); (· (intro w'; go_simp; try rfl)); (· (simp [go_sem]; try rfl)))
        refine scr_end ?_
        simp only [Exit.then]
        go_wp2_with fail
        go_roundw
        case rel =>
          refine ⟨p, (p + q) / 2, rfl, by go_num, by omega, by omega, hE'.out.trans (hC.trans hE9), hEw'.out.trans (hC.trans hE9), Lib.hid ⟨hI.out.1, fun j h hj => ?_⟩⟩
          exact Int.not_lt.1 fun hc => hneg (by
            have := hm'.out _ j hm2.out h (by omega) hc
            rw [hx'.out, hz'.out] at this
            exact this)
        case measure => simp [intOf]; omega
    · obtain rfl : p = q := by omega
      have hat : At us t p := ⟨hql, hI.out.1, fun j h hj => hI.out.2 j h hj⟩
      have hat' := Lib.hid hat
      clear hat hI
      by_cases hin : p < us.length
      · obtain ⟨rfl, -⟩ := l3'.out (by omega)
        obtain ⟨ms, hc, hms⟩ := l4'.out p hin
        obtain ⟨m0, m1, m2, m3, rfl, v0, v1, v2, v3⟩ := kPe_4 hms
        have x0 := hE.keep (hc 0 (by omega))
        have x1 := hE.keep (hc 1 (by omega))
        have x2 := hE.keep (hc 2 (by omega))
        have x3 := hE.keep (hc 3 (by omega))
        simp only [Nat.add_zero] at x0
        have hms' := Lib.hid (kPe.mv hms (hE.mv []))
        have htw := Lib.hid (kPe.mv ht'.out (hE.mv []))
        have hE' := Lib.hid hE
        have hin2 := Lib.hid hin
        have hini : (p : Int) < (us.length : Int) := by omega
        obtain ⟨z, hz⟩ : ∃ z, cmpPe (us[p]'hin) t = z := ⟨_, rfl⟩
        have hh : HasAt us t p = decide (z = 0) := by unfold HasAt; rw [List.getElem?_eq_getElem hin]; show decide (cmpPe (us[p]'hin) t = 0) = _; rw [hz]
        have hh' := Lib.hid hh
        have hz' := Lib.hid hz
        clear hc hms hE hEw hh hz
        go_wp2_with fail
        refine wp_region_script [0, 1, 2, 3, 4, 5, 6, 7, 8, 9, 10, 12, 13, 14, 15] [] (fun w' => Ext wr w') [(.pure, 0), (.pure, 1), (.pure, 2), (.pure, 3), (.pure, 4), (.pure, 5), (.pure, 6), (.pure, 7), (.pure, 8), (.read, 9), (.read, 10), (.one, 11), (.pure, 12), (.pure, 13), (.pure, 14), (.pure, 15)] (by kernel_rfl) (by kernel_rfl) ?_
        have hC : Ext wr wr.drew := (Ext.refl wr).drew
        iterate 9 (first | (apply scr_pG; (· rfl); (· (first | rfl | (simp [Region.wanted, yielded, go_sem]; done) | (simp [Region.wanted, yielded, go_sem, *]; done))); (· (intro w'; go_simp; try rfl)); (· (simp [go_sem]; try rfl))) | (apply scr_p0; (· rfl); (· (first | rfl | (simp [Region.wanted, yielded, go_sem]; done) | (simp [Region.wanted, yielded, go_sem, *]; done))); (· (simp [go_sem]; try rfl))))
        (first | (apply scr_rG; (· rfl); (· (first | rfl | (simp [Region.wanted, yielded, go_sem]; done) | (simp [Region.wanted, yielded, go_sem, *]; done))); (· first | exact hC | exact (Ext.refl _).drew); (· (intro w' hw'; have x0_ := hw'.keep x0; have x1_ := hw'.keep x1; have x2_ := hw'.keep x2; have x3_ := hw'.keep x3; go_simp; try rfl)); (· (simp [go_sem]; try rfl))) | (apply scr_r0G; (· rfl); (· (first | rfl | (simp [Region.wanted, yielded, go_sem]; done) | (simp [Region.wanted, yielded, go_sem, *]; done))); (· first | exact hC | exact (Ext.refl _).drew); (· (simp [go_sem]; try rfl))))
        (first | (apply scr_rG; (· rfl); (· (first | rfl | (simp [Region.wanted, yielded, go_sem]; done) | (simp [Region.wanted, yielded, go_sem, *]; done))); (· first | exact hC | exact (Ext.refl _).drew); (· (intro w' hw'; have e0_ := hw'.keep e0; have e1_ := hw'.keep e1; have e2_ := hw'.keep e2; have e3_ := hw'.keep e3; go_simp; try rfl)); (· (simp [go_sem]; try rfl))) | (apply scr_r0G; (· rfl); (· (first | rfl | (simp [Region.wanted, yielded, go_sem]; done) | (simp [Region.wanted, yielded, go_sem, *]; done))); (· first | exact hC | exact (Ext.refl _).drew); (· (simp [go_sem]; try rfl))))
        refine scr_oneG rfl (by simp [Region.wanted, yielded, go_sem, hini]) (fun K hK => ?_)
        refine wp_call_v2 (f := 99) rfl rfl callFunc_ins1 ?_
        go_simp
        refine insCmp_c (cs := [m0, m1, m2, m3]) (ds := [a0, a1, a2, a3]) (kPe.mv hms'.out (hC.mv [])) (kPe.mv htw.out (hC.mv [])) _ ?_
        rw [hz'.out]
        intro w9 hE9
        refine hK _ _ (fun h => by simp at h) ?_
        clear hK
        by_cases h0 : z = 0
        · have h0b : (z == 0) = true := by simp [h0]
          have hfin := Lib.hid (show HasAt us t p = true by rw [hh'.out]; simp [h0])
          iterate 4 (first | (apply scr_pG; (· rfl); (· (first | rfl | (simp [Region.wanted, yielded, go_sem]; done) | (simp [Region.wanted, yielded, go_sem, *]; done))); (· (intro w'; go_simp; try rfl)); (· (simp [go_sem]; try rfl))) | (apply scr_p0; (· rfl); (· (first | rfl | (simp [Region.wanted, yielded, go_sem]; done) | (simp [Region.wanted, yielded, go_sem, *]; done))); (· (simp [go_sem]; try rfl))))
          refine scr_end ?_
          simp only [Exit.then]
          go_wp2_with fail
          have := hR'.out w9 p (hE'.out.trans (hC.trans hE9)) hat'.out
          rw [hfin.out] at this
          exact this
        · have h0b : (z == 0) = false := by simp [h0]
          have hfin := Lib.hid (show HasAt us t p = false by rw [hh'.out]; simp [h0])
          iterate 4 (first | (apply scr_pG; (· rfl); (· (first | rfl | (simp [Region.wanted, yielded, go_sem]; done) | (simp [Region.wanted, yielded, go_sem, *]; done))); (· (intro w'; go_simp; try rfl)); (· (simp [go_sem]; try rfl))) | (apply scr_p0; (· rfl); (· (first | rfl | (simp [Region.wanted, yielded, go_sem]; done) | (simp [Region.wanted, yielded, go_sem, *]; done))); (· (simp [go_sem]; try rfl))))
          refine scr_end ?_
          simp only [Exit.then]
          go_wp2_with fail
          have := hR'.out w9 p (hE'.out.trans (hC.trans hE9)) hat'.out
          rw [hfin.out] at this
          exact this
      · have hpe : p = us.length := by omega
        have hini : ¬ (p : Int) < (us.length : Int) := by omega
        have hfin := Lib.hid (show HasAt us t p = false by simp [HasAt, hpe])
        have hE' := Lib.hid hE
        clear hpe hE hEw
        go_wp2_with fail
        refine wp_region_script [0, 1, 2, 3, 4, 5, 6, 7, 8, 9, 10, 12, 13, 14, 15] [] (fun w' => Ext wr w') [(.pure, 0), (.pure, 1), (.pure, 2), (.pure, 3), (.pure, 4), (.pure, 5), (.pure, 6), (.pure, 7), (.pure, 8), (.read, 9), (.read, 10), (.one, 11), (.pure, 12), (.pure, 13), (.pure, 14), (.pure, 15)] (by kernel_rfl) (by kernel_rfl) ?_
        have hC : Ext wr wr.drew := (Ext.refl wr).drew
        iterate 9 (first | (apply scr_pG; (· rfl); (· (first | rfl | (simp [Region.wanted, yielded, go_sem]; done) | (simp [Region.wanted, yielded, go_sem, *]; done))); (· (intro w'; go_simp; try rfl)); (· (simp [go_sem]; try rfl))) | (apply scr_p0; (· rfl); (· (first | rfl | (simp [Region.wanted, yielded, go_sem]; done) | (simp [Region.wanted, yielded, go_sem, *]; done))); (· (simp [go_sem]; try rfl))))
        (first | (apply scr_rG; (· rfl); (· (first | rfl | (simp [Region.wanted, yielded, go_sem]; done) | (simp [Region.wanted, yielded, go_sem, *]; done))); (· first | exact hC | exact (Ext.refl _).drew); (· (intro w' hw'; have e0_ := hw'.keep e0; go_simp; try rfl)); (· (simp [go_sem]; try rfl))) | (apply scr_r0G; (· rfl); (· (first | rfl | (simp [Region.wanted, yielded, go_sem]; done) | (simp [Region.wanted, yielded, go_sem, *]; done))); (· first | exact hC | exact (Ext.refl _).drew); (· (simp [go_sem]; try rfl))))
        (first | (apply scr_rG; (· rfl); (· (first | rfl | (simp [Region.wanted, yielded, go_sem]; done) | (simp [Region.wanted, yielded, go_sem, *]; done))); (· first | exact hC | exact (Ext.refl _).drew); (· (intro w' hw'; have e0_ := hw'.keep e0; go_simp; try rfl)); (· (simp [go_sem]; try rfl))) | (apply scr_r0G; (· rfl); (· (first | rfl | (simp [Region.wanted, yielded, go_sem]; done) | (simp [Region.wanted, yielded, go_sem, *]; done))); (· first | exact hC | exact (Ext.refl _).drew); (· (simp [go_sem]; try rfl))))
        refine scr_one0 rfl (by simp [Region.wanted, yielded, go_sem, hini]) (fun h => by simp at h) (by simp [go_sem]; rfl) ?_
        iterate 4 (first | (apply scr_pG; (· rfl); (· (first | rfl | (simp [Region.wanted, yielded, go_sem]; done) | (simp [Region.wanted, yielded, go_sem, *]; done))); (· (intro w'; go_simp; try rfl)); (· (simp [go_sem]; try rfl))) | (apply scr_p0; (· rfl); (· (first | rfl | (simp [Region.wanted, yielded, go_sem]; done) | (simp [Region.wanted, yielded, go_sem, *]; done))); (· (simp [go_sem]; try rfl))))
        refine scr_end ?_
        simp only [Exit.then]
        go_wp2_with fail
        have := hR'.out wr.drew p hE'.out.drew hat'.out
        rw [hfin.out] at this
        first | exact this | simpa [go_sem] using this
end Go.Proofs.YtihapgangilncaaGreat
