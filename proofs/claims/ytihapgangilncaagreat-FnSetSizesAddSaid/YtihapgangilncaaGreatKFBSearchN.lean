/- slices.BinarySearchFunc over the nodes of a set, with whatever function value that compares (printed by gen_bsearchn.py). -/
import Derived.Test.YtihapgangilncaaGreatKFBSearch
import Derived.Test.YtihapgangilncaaGreatKFBackL
namespace Go.Proofs.YtihapgangilncaaGreat
open Go.RowKit
set_option linter.unusedSimpArgs false

/-- v is a row of set nodes with these path elements -/
def KeyRow (w : World) (v : Value) (us : List PEl) : Prop := ∃ o c b off, v = .slice o us.length c ∧ us.length ≤ c ∧ us.length * 40 ≤ 140737488351232 ∧ (0 < us.length → o = some ⟨b, off, none⟩) ∧
  ∀ i (h : i < us.length), ∃ c0 c1 c2 c3 c4 : Value, w.cell? ⟨b, off + i * 5, none⟩ = some c0 ∧ w.cell? ⟨b, off + i * 5 + 1, none⟩ = some c1 ∧ w.cell? ⟨b, off + i * 5 + 2, none⟩ = some c2 ∧ w.cell? ⟨b, off + i * 5 + 3, none⟩ = some c3 ∧ w.cell? ⟨b, off + i * 5 + 4, none⟩ = some c4 ∧ c4.oneCell' = true ∧ kPe.is w [] [c0, c1, c2, c3] us[i]
theorem KeyRow.ofSl {σ : Type} {k : Kind σ} {f : σ → PEl} (h5 : k.size = 5) (hk : ∀ {w : World} {X : List Nat} {cs : List Value} {n : σ}, k.is w X cs n → ∃ pc p, cs = pc ++ [p] ∧ kPe.is w X pc (f n)) {w : World} {X : List Nat} {v : Value} {us : List σ} (h : IsSl k 40 w X v us) : KeyRow w v (us.map f) := by
  obtain ⟨o, c, b, off, rfl, l1, l2, l3, l4⟩ := h.ex
  refine ⟨o, c, b, off, by simp, by simpa using l1, by simpa using l2, fun hp => (l3 (by simpa using hp)).1, fun i hi => ?_⟩
  obtain ⟨cs, hc, hcs⟩ := l4 i (by simpa using hi)
  obtain ⟨pc, p, rfl, hp⟩ := hk hcs
  have h1 := k.one hcs
  obtain ⟨a0, a1, a2, a3, rfl, -⟩ := kPe_4 hp
  rw [h5] at hc
  refine ⟨a0, a1, a2, a3, p, hc 0 (by omega), hc 1 (by omega), hc 2 (by omega), hc 3 (by omega), hc 4 (by omega), h1 p (by simp), ?_⟩
  rw [List.getElem_map]
  exact kPe.mv hp ((Mv.refl w _).less (by simp))
theorem KeyRow.ext {w w' : World} {v : Value} {us : List PEl} (h : KeyRow w v us) (hE : Ext w w') : KeyRow w' v us := by
  obtain ⟨o, c, b, off, rfl, l1, l2, l3, l4⟩ := h
  refine ⟨o, c, b, off, rfl, l1, l2, l3, fun i hi => ?_⟩
  obtain ⟨c0, c1, c2, c3, c4, h0, h1, h2, h3, h4, h5, h6⟩ := l4 i hi
  exact ⟨c0, c1, c2, c3, c4, hE.keep h0, hE.keep h1, hE.keep h2, hE.keep h3, hE.keep h4, h5, kPe.mv h6 (hE.mv [])⟩
/-- F compares the path element of a set node with one -/
structure NodeCmp (F : FuncId) : Prop where
  cmp : ∀ {w : World} {cs ds : List Value} {p : Value} {a b : PEl}, kPe.is w [] cs a → kPe.is w [] ds b → p.oneCell' = true → ∀ R : Ending → World → Prop, Ends R w (.int .i64 (cmpPe a b)) → Calls Tryz.prog F #[.agg (cs ++ [p]).toArray, .agg ds.toArray] w R
  enter : ∀ (args : Array Value) (w : World), (callFunc F args).run Tryz.prog w = .ok (.enter F args) w

set_option maxRecDepth 100000 in
set_option maxHeartbeats 8000000 in
set_option pp.maxSteps 1000000 in
set_option pp.deepTerms true in
theorem bsearchN_c {F : FuncId} (hF : NodeCmp F) {w : World} {v : Value} {us : List PEl} {cs : List Value} {t : PEl} (hv : KeyRow w v us) (ht : kPe.is w [] cs t) (hmono : ∀ i j (hi : i < us.length) (hj : j < us.length), i ≤ j → cmpPe us[j] t < 0 → cmpPe us[i] t < 0)
    (R : Ending → World → Prop) (hR : ∀ w' i, Ext w w' → At us t i → R (.returned (.tuple #[.int .i64 (i : Int), .bool (HasAt us t i)])) w') :
    Calls Tryz.prog 156 #[v, .agg cs.toArray, .func (.func F) #[] #[]] w R := by
  obtain ⟨a0, a1, a2, a3, rfl, o0, o1, o2, o3⟩ := kPe_4 ht
  obtain ⟨o, c, b, off, rfl, l1, l2, l3, l4⟩ := hv
  have ht' := Lib.hid ht
  have hR' := Lib.hid hR
  have hm' := Lib.hid hmono
  have l3' := Lib.hid l3
  have l4' := Lib.hid l4
  clear ht hR hmono l3 l4
  go_enter Tryz.func156, Tryz.ntmps156
  go_wp2_with fail
  refine abs1 (G := fun wr => Code.wp _ _ _ _ wr) ?_
  intro w1 hE1 hb1 hs1
  have e0 : w1.cell? ⟨w.heap.size, 0, none⟩ = some (a0) := cells_of hb1 0; have e1 : w1.cell? ⟨w.heap.size, 1, none⟩ = some (a1) := cells_of hb1 1; have e2 : w1.cell? ⟨w.heap.size, 2, none⟩ = some (a2) := cells_of hb1 2; have e3 : w1.cell? ⟨w.heap.size, 3, none⟩ = some (a3) := cells_of hb1 3
  clear hb1 hs1
  go_loopw [9, 10, 11] (fun lo hi _ wr => ∃ p q : Nat, lo = .int .i64 p ∧ hi = .int .i64 q ∧ p ≤ q ∧ q ≤ us.length ∧ Ext w wr ∧ Ext w1 wr ∧ Hid ((∀ j (h : j < us.length), j < p → cmpPe us[j] t < 0) ∧ ∀ j (h : j < us.length), q ≤ j → 0 ≤ cmpPe us[j] t))
    (fun lo hi _ _ => (intOf hi).toNat - (intOf lo).toNat)
  case atStart => exact ⟨0, us.length, rfl, rfl, Nat.zero_le _, Nat.le_refl _, hE1, Ext.refl _, Lib.hid ⟨fun j _ hj => by omega, fun j hj h => by omega⟩⟩
  case round =>
    obtain ⟨p, q, rfl, rfl, hpq, hql, hE, hEw, hI⟩ := hrel
    replace e0 := hEw.keep e0; replace e1 := hEw.keep e1; replace e2 := hEw.keep e2; replace e3 := hEw.keep e3
    by_cases hlt : p < q
    · have hm : (p + q) / 2 < us.length := by omega
      obtain rfl := l3'.out (by omega)
      obtain ⟨m0, m1, m2, m3, m4, x0, x1, x2, x3, x4, v4, hms⟩ := l4'.out ((p + q) / 2) hm
      have v0 := kPe.one hms m0 (by simp)
      have v1 := kPe.one hms m1 (by simp)
      have v2 := kPe.one hms m2 (by simp)
      have v3 := kPe.one hms m3 (by simp)
      replace x0 := hE.keep x0
      replace x1 := hE.keep x1
      replace x2 := hE.keep x2
      replace x3 := hE.keep x3
      replace x4 := hE.keep x4
      have hms' := Lib.hid (kPe.mv hms (hE.mv []))
      have htw := Lib.hid (kPe.mv ht'.out (hE.mv []))
      have hE' := Lib.hid hE
      have hEw' := Lib.hid hEw
      have hm2 := Lib.hid hm
      have hmlt : ((p : Int) + (q : Int)) / 2 < (us.length : Int) := by omega
      have hmn : (((p : Int) + (q : Int)) / 2).toNat = (p + q) / 2 := by omega
      have hm0 : (0 : Int) ≤ ((p : Int) + (q : Int)) / 2 := by omega
      clear hms hE hEw
      go_wp2_with fail
      refine wp_region_script [0, 1, 2, 3, 4, 5, 7] [] (fun w' => Ext wr w') [(.pure, 0), (.pure, 1), (.pure, 2), (.pure, 3), (.read, 4), (.read, 5), (.one, 6), (.pure, 7)] (by kernel_rfl) (by kernel_rfl) ?_
      have hC : Ext wr wr.drew := (Ext.refl wr).drew
      iterate 4 (apply scr_pure'; (· rfl); (· rfl); (· (intro w'; go_simp; try rfl)); (· (simp [go_sem]; try rfl)))
      (apply scr_read'; (· rfl); (· rfl); (· first | exact hC | exact (Ext.refl _).drew); (· (intro w' hw'; have x0_ := hw'.keep x0; have x1_ := hw'.keep x1; have x2_ := hw'.keep x2; have x3_ := hw'.keep x3; have x4_ := hw'.keep x4; go_simp; try rfl)); (· (simp [go_sem]; try rfl)))
      (apply scr_read'; (· rfl); (· rfl); (· first | exact hC | exact (Ext.refl _).drew); (· (intro w' hw'; have e0_ := hw'.keep e0; have e1_ := hw'.keep e1; have e2_ := hw'.keep e2; have e3_ := hw'.keep e3; go_simp; try rfl)); (· (simp [go_sem]; try rfl)))
      refine scr_one rfl rfl (fun K hK => ?_)
      refine wp_call_v2 (f := F) rfl rfl hF.enter ?_
      go_simp
      refine hF.cmp (cs := [m0, m1, m2, m3]) (p := m4) (ds := [a0, a1, a2, a3]) (kPe.mv hms'.out (hC.mv [])) (kPe.mv htw.out (hC.mv [])) v4 _ ?_
      intro w9 hE9
      refine hK _ _ (fun h => by simp at h) ?_
      clear hK
      obtain ⟨x, hx⟩ : ∃ x, us[(p + q) / 2]'hm2.out = x := ⟨_, rfl⟩
      rw [hx]
      obtain ⟨z, hz⟩ : ∃ z, cmpPe x t = z := ⟨_, rfl⟩
      rw [hz]
      have hx' := Lib.hid hx
      have hz' := Lib.hid hz
      clear hx hz
      by_cases hneg : z < 0
      · (apply scr_pure'; (· rfl); (· rfl); (· (intro w'; go_simp; try rfl)); (· (simp [go_sem]; try rfl)))
        refine scr_end ?_
        simp only [Exit.then]
        go_wp2_with fail
        go_roundw
        case rel =>
          refine ⟨(p + q) / 2 + 1, q, by go_num, rfl, by omega, hql, hE'.out.trans (hC.trans hE9), hEw'.out.trans (hC.trans hE9), Lib.hid ⟨fun j h hj => ?_, hI.out.2⟩⟩
          exact hm'.out j _ h hm2.out (by omega) (by rw [hx'.out, hz'.out]; exact hneg)
        case measure => simp [intOf]; omega
      · (apply scr_pure'; (· rfl); (· rfl); (· (intro w'; go_simp; try rfl)); (· (simp [go_sem]; try rfl)))
        refine scr_end ?_
        simp only [Exit.then]
        go_wp2_with fail
        go_roundw
        case rel =>
          refine ⟨p, (p + q) / 2, rfl, by go_num, by omega, by omega, hE'.out.trans (hC.trans hE9), hEw'.out.trans (hC.trans hE9), Lib.hid ⟨hI.out.1, fun j h hj => ?_⟩⟩
          exact Int.not_lt.1 fun hc => hneg (by
            have := hm'.out _ j hm2.out h (by omega) hc
            rw [hx'.out, hz'.out] at this
            exact this)
        case measure => simp [intOf]; omega
    · obtain rfl : p = q := by omega
      have hat : At us t p := ⟨hql, hI.out.1, fun j h hj => hI.out.2 j h hj⟩
      have hat' := Lib.hid hat
      clear hat hI
      by_cases hin : p < us.length
      · obtain rfl := l3'.out (by omega)
        obtain ⟨m0, m1, m2, m3, m4, x0, x1, x2, x3, x4, v4, hms⟩ := l4'.out p hin
        have v0 := kPe.one hms m0 (by simp)
        have v1 := kPe.one hms m1 (by simp)
        have v2 := kPe.one hms m2 (by simp)
        have v3 := kPe.one hms m3 (by simp)
        replace x0 := hE.keep x0
        replace x1 := hE.keep x1
        replace x2 := hE.keep x2
        replace x3 := hE.keep x3
        replace x4 := hE.keep x4
        have hms' := Lib.hid (kPe.mv hms (hE.mv []))
        have htw := Lib.hid (kPe.mv ht'.out (hE.mv []))
        have hE' := Lib.hid hE
        have hin2 := Lib.hid hin
        have hini : (p : Int) < (us.length : Int) := by omega
        obtain ⟨z, hz⟩ : ∃ z, cmpPe (us[p]'hin) t = z := ⟨_, rfl⟩
        have hh : HasAt us t p = decide (z = 0) := by unfold HasAt; rw [List.getElem?_eq_getElem hin]; show decide (cmpPe (us[p]'hin) t = 0) = _; rw [hz]
        have hh' := Lib.hid hh
        have hz' := Lib.hid hz
        clear hms hE hEw hh hz
        go_wp2_with fail
        refine wp_region_script [0, 1, 2, 3, 4, 5, 6, 7, 8, 9, 10, 12, 13, 14, 15] [] (fun w' => Ext wr w') [(.pure, 0), (.pure, 1), (.pure, 2), (.pure, 3), (.pure, 4), (.pure, 5), (.pure, 6), (.pure, 7), (.pure, 8), (.read, 9), (.read, 10), (.one, 11), (.pure, 12), (.pure, 13), (.pure, 14), (.pure, 15)] (by kernel_rfl) (by kernel_rfl) ?_
        have hC : Ext wr wr.drew := (Ext.refl wr).drew
        iterate 9 (first | (apply scr_pG; (· rfl); (· (first | rfl | (simp [Region.wanted, yielded, go_sem]; done) | (simp [Region.wanted, yielded, go_sem, *]; done))); (· (intro w'; go_simp; try rfl)); (· (simp [go_sem]; try rfl))) | (apply scr_p0; (· rfl); (· (first | rfl | (simp [Region.wanted, yielded, go_sem]; done) | (simp [Region.wanted, yielded, go_sem, *]; done))); (· (simp [go_sem]; try rfl))))
        (first | (apply scr_rG; (· rfl); (· (first | rfl | (simp [Region.wanted, yielded, go_sem]; done) | (simp [Region.wanted, yielded, go_sem, *]; done))); (· first | exact hC | exact (Ext.refl _).drew); (· (intro w' hw'; have x0_ := hw'.keep x0; have x1_ := hw'.keep x1; have x2_ := hw'.keep x2; have x3_ := hw'.keep x3; have x4_ := hw'.keep x4; go_simp; try rfl)); (· (simp [go_sem]; try rfl))) | (apply scr_r0G; (· rfl); (· (first | rfl | (simp [Region.wanted, yielded, go_sem]; done) | (simp [Region.wanted, yielded, go_sem, *]; done))); (· first | exact hC | exact (Ext.refl _).drew); (· (simp [go_sem]; try rfl))))
        (first | (apply scr_rG; (· rfl); (· (first | rfl | (simp [Region.wanted, yielded, go_sem]; done) | (simp [Region.wanted, yielded, go_sem, *]; done))); (· first | exact hC | exact (Ext.refl _).drew); (· (intro w' hw'; have e0_ := hw'.keep e0; have e1_ := hw'.keep e1; have e2_ := hw'.keep e2; have e3_ := hw'.keep e3; go_simp; try rfl)); (· (simp [go_sem]; try rfl))) | (apply scr_r0G; (· rfl); (· (first | rfl | (simp [Region.wanted, yielded, go_sem]; done) | (simp [Region.wanted, yielded, go_sem, *]; done))); (· first | exact hC | exact (Ext.refl _).drew); (· (simp [go_sem]; try rfl))))
        refine scr_oneG rfl (by simp [Region.wanted, yielded, go_sem, hini]) (fun K hK => ?_)
        refine wp_call_v2 (f := F) rfl rfl hF.enter ?_
        go_simp
        refine hF.cmp (cs := [m0, m1, m2, m3]) (p := m4) (ds := [a0, a1, a2, a3]) (kPe.mv hms'.out (hC.mv [])) (kPe.mv htw.out (hC.mv [])) v4 _ ?_
        rw [hz'.out]
        intro w9 hE9
        refine hK _ _ (fun h => by simp at h) ?_
        clear hK
        by_cases h0 : z = 0
        · have h0b : (z == 0) = true := by simp [h0]
          have hfin := Lib.hid (show HasAt us t p = true by rw [hh'.out]; simp [h0])
          iterate 4 (first | (apply scr_pG; (· rfl); (· (first | rfl | (simp [Region.wanted, yielded, go_sem]; done) | (simp [Region.wanted, yielded, go_sem, *]; done))); (· (intro w'; go_simp; try rfl)); (· (simp [go_sem]; try rfl))) | (apply scr_p0; (· rfl); (· (first | rfl | (simp [Region.wanted, yielded, go_sem]; done) | (simp [Region.wanted, yielded, go_sem, *]; done))); (· (simp [go_sem]; try rfl))))
          refine scr_end ?_
          simp only [Exit.then]
          go_wp2_with fail
          have := hR'.out w9 p (hE'.out.trans (hC.trans hE9)) hat'.out
          rw [hfin.out] at this
          exact this
        · have h0b : (z == 0) = false := by simp [h0]
          have hfin := Lib.hid (show HasAt us t p = false by rw [hh'.out]; simp [h0])
          iterate 4 (first | (apply scr_pG; (· rfl); (· (first | rfl | (simp [Region.wanted, yielded, go_sem]; done) | (simp [Region.wanted, yielded, go_sem, *]; done))); (· (intro w'; go_simp; try rfl)); (· (simp [go_sem]; try rfl))) | (apply scr_p0; (· rfl); (· (first | rfl | (simp [Region.wanted, yielded, go_sem]; done) | (simp [Region.wanted, yielded, go_sem, *]; done))); (· (simp [go_sem]; try rfl))))
          refine scr_end ?_
          simp only [Exit.then]
          go_wp2_with fail
          have := hR'.out w9 p (hE'.out.trans (hC.trans hE9)) hat'.out
          rw [hfin.out] at this
          exact this
      · have hpe : p = us.length := by omega
        have hini : ¬ (p : Int) < (us.length : Int) := by omega
        have hfin := Lib.hid (show HasAt us t p = false by simp [HasAt, hpe])
        have hE' := Lib.hid hE
        clear hpe hE hEw
        go_wp2_with fail
        refine wp_region_script [0, 1, 2, 3, 4, 5, 6, 7, 8, 9, 10, 12, 13, 14, 15] [] (fun w' => Ext wr w') [(.pure, 0), (.pure, 1), (.pure, 2), (.pure, 3), (.pure, 4), (.pure, 5), (.pure, 6), (.pure, 7), (.pure, 8), (.read, 9), (.read, 10), (.one, 11), (.pure, 12), (.pure, 13), (.pure, 14), (.pure, 15)] (by kernel_rfl) (by kernel_rfl) ?_
        have hC : Ext wr wr.drew := (Ext.refl wr).drew
        iterate 9 (first | (apply scr_pG; (· rfl); (· (first | rfl | (simp [Region.wanted, yielded, go_sem]; done) | (simp [Region.wanted, yielded, go_sem, *]; done))); (· (intro w'; go_simp; try rfl)); (· (simp [go_sem]; try rfl))) | (apply scr_p0; (· rfl); (· (first | rfl | (simp [Region.wanted, yielded, go_sem]; done) | (simp [Region.wanted, yielded, go_sem, *]; done))); (· (simp [go_sem]; try rfl))))
        (first | (apply scr_rG; (· rfl); (· (first | rfl | (simp [Region.wanted, yielded, go_sem]; done) | (simp [Region.wanted, yielded, go_sem, *]; done))); (· first | exact hC | exact (Ext.refl _).drew); (· (intro w' hw'; have e0_ := hw'.keep e0; go_simp; try rfl)); (· (simp [go_sem]; try rfl))) | (apply scr_r0G; (· rfl); (· (first | rfl | (simp [Region.wanted, yielded, go_sem]; done) | (simp [Region.wanted, yielded, go_sem, *]; done))); (· first | exact hC | exact (Ext.refl _).drew); (· (simp [go_sem]; try rfl))))
        (first | (apply scr_rG; (· rfl); (· (first | rfl | (simp [Region.wanted, yielded, go_sem]; done) | (simp [Region.wanted, yielded, go_sem, *]; done))); (· first | exact hC | exact (Ext.refl _).drew); (· (intro w' hw'; have e0_ := hw'.keep e0; go_simp; try rfl)); (· (simp [go_sem]; try rfl))) | (apply scr_r0G; (· rfl); (· (first | rfl | (simp [Region.wanted, yielded, go_sem]; done) | (simp [Region.wanted, yielded, go_sem, *]; done))); (· first | exact hC | exact (Ext.refl _).drew); (· (simp [go_sem]; try rfl))))
        refine scr_one0 rfl (by simp [Region.wanted, yielded, go_sem, hini]) (fun h => by simp at h) (by simp [go_sem]; rfl) ?_
        iterate 4 (first | (apply scr_pG; (· rfl); (· (first | rfl | (simp [Region.wanted, yielded, go_sem]; done) | (simp [Region.wanted, yielded, go_sem, *]; done))); (· (intro w'; go_simp; try rfl)); (· (simp [go_sem]; try rfl))) | (apply scr_p0; (· rfl); (· (first | rfl | (simp [Region.wanted, yielded, go_sem]; done) | (simp [Region.wanted, yielded, go_sem, *]; done))); (· (simp [go_sem]; try rfl))))
        refine scr_end ?_
        simp only [Exit.then]
        go_wp2_with fail
        have := hR'.out wr.drew p hE'.out.drew hat'.out
        rw [hfin.out] at this
        first | exact this | simpa [go_sem] using this
end Go.Proofs.YtihapgangilncaaGreat
