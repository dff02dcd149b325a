/- Set.Insert: a path put into a set. -/
import Derived.Test.YtihapgangilncaaGreatKGUniP
namespace Go.Proofs.YtihapgangilncaaGreat
open Go.RowKit
set_option linter.unusedSimpArgs false

theorem hasAtC_eq (us : List PEl) (t : PEl) (i : Nat) : hasAtC cmpPe us t i = HasAt us t i := by
  unfold hasAtC HasAt
  cases us[i]? <;> rfl
theorem insAt_eq {us : List PEl} {t : PEl} {i : Nat} (h : At us t i) : insAt us t i = insC cmpPe us t := by
  rw [insC_at h.1 h.2.1 h.2.2, hasAtC_eq]
  rfl
theorem mono_srt {G : PEl → Prop} (ho : Cmpr cmpPe G) {us : List PEl} {t : PEl} (hs : SrtC cmpPe us) (hG : ∀ x ∈ us, G x) (ht : G t) : ∀ i j (hi : i < us.length) (hj : j < us.length), i ≤ j → cmpPe us[j] t < 0 → cmpPe us[i] t < 0 := by
  intro i j hi hj hij h
  by_cases e : i = j
  · subst e; exact h
  · exact ho.lt_tr (hG _ (List.getElem_mem hi)) (hG _ (List.getElem_mem hj)) ht (List.pairwise_iff_getElem.1 hs i j hi hj (by omega)) h
theorem at_gt {G : PEl → Prop} (ho : Cmpr cmpPe G) {us : List PEl} {t : PEl} {i : Nat} (hs : SrtC cmpPe us) (hG : ∀ x ∈ us, G x) (ht : G t) (h : At us t i) (hh : HasAt us t i = false) : ∀ j (hj : j < us.length), i ≤ j → cmpPe t us[j] < 0 := by
  intro j hj hij
  have hi : i < us.length := by omega
  have h0 : cmpPe t us[i] < 0 := by
    have h1 := h.2.2 i hi (Nat.le_refl _)
    have h2 : cmpPe us[i] t ≠ 0 := fun e => by simp [HasAt, hi, e] at hh
    rw [ho.neg us[i] t]
    omega
  by_cases e : i = j
  · subst e; exact h0
  · exact ho.lt_tr ht (hG _ (List.getElem_mem hi)) (hG _ (List.getElem_mem hj)) h0 (List.pairwise_iff_getElem.1 hs i j hi hj (by omega))
theorem ms_len {β : Type} {s : Tr β PEl} : s.ms.length ≤ s.paths.length := by rw [Tr.paths_eq]; simp
theorem cs_len {β : Type} {G : PEl → Prop} {s : Tr β PEl} (h : s.Wf cmpPe G) : s.cs.length ≤ s.paths.length := by
  rw [Tr.paths_eq]
  have hne : ∀ p ∈ s.cs, p.2.paths ≠ [] := by
    cases h with
    | mk _ _ _ _ h5 _ => exact h5
  have : ∀ l : List (PEl × Tr β PEl), (∀ p ∈ l, p.2.paths ≠ []) → l.length ≤ (l.flatMap (fun p => p.2.paths.map (p.1 :: ·))).length := by
    intro l
    induction l with
    | nil => simp
    | cons p l ih =>
      intro h
      have h1 := ih (fun q hq => h q (by simp [hq]))
      have h2 : 0 < p.2.paths.length := List.length_pos_iff.2 (h p (by simp))
      simp only [List.length_cons, List.flatMap_cons, List.length_append, List.length_map]
      omega
  have := this s.cs hne
  rw [List.length_append]
  omega

section
variable {G : PEl → Prop} {X : List Nat} {t : BT} {p : List PEl} {w wr : World} {A B : List Nd} {ctx : BT → BT} {b : Nat} {vm vc : Value} {ms : List PEl} {cs : List (PEl × BT)} {p2 : List PEl} {e : PEl}
theorem Hole.ext {u : BT} (h : Hole G X t p w wr A B ctx u p2) {w' : World} (hE : Ext wr w') : Hole G X t p w w' A B ctx u p2 :=
  ⟨h.st.ext hE, h.mu.thenNew (hE.mut []) (by simp), h.bl, h.cx, h.wf, h.has, h.len⟩
theorem holeMember_c (ho : Cmpr cmpPe G) (h : Hole G X t p w wr A B ctx (.mk (b, vm, vc) ms cs) [e]) (hX : Old X w) (he : G e) {ds : List Value} (hds : kPe.is wr (Nd.bl ⟨b, vm, vc, ms, ksOf cs⟩ ++ (bls (A ++ (BT.flatL cs ++ B)) ++ X)) ds e) (hlen : (t.paths.length + 1) * 40 ≤ 140737488351232)
    (R : Ending → World → Prop) (hR : ∀ w' t', PutIn G X t p w w' t' → R (.returned (.tuple #[])) w') :
    Calls Tryz.prog 51 #[.pointer (some ⟨b, 0, none⟩), .agg ds.toArray] wr R := by
  have hns := h.node
  have hn0 := hns.each ⟨b, vm, vc, ms, ksOf cs⟩ (by simp)
  have hcell := hn0.cell
  have hlt := hn0.lt
  have hvm := hns.vm
  have hvc := hns.vc
  have hold := h.old hX
  obtain ⟨s1, s2, -⟩ := Tr.wf_parts h.wf
  have hml : ms.length ≤ t.paths.length := Nat.le_trans (ms_len (s := .mk (b, vm, vc) ms cs)) h.len
  refine esInsert_c (X := vb vc ++ (bls (A ++ (BT.flatL cs ++ B)) ++ X)) (off := 0) (old := #[vm, vc]) (T := 126) (v := vm) (us := ms) (t := e) hcell (by simp) (by simp) hvm (fun g hg => ?_) (kPe.mv hds ((Mv.refl _ _).less fun g hg => ?_)) (mono_srt ho s1 s2 he) (Nat.le_trans (Nat.mul_le_mul (Nat.succ_le_succ hml) (by decide : 32 ≤ 40)) hlen) _ ?_
  · rcases List.mem_cons.1 hg with rfl | hg
    · exact hlt _ (by simp [Nd.bl])
    · rcases List.mem_append.1 hg with hg | hg
      · exact hlt _ (by simp [Nd.bl, hg])
      · exact hold g hg
  · simp only [Nd.bl, List.mem_append, List.mem_cons] at hg ⊢
    rcases hg with hg | hg | hg | hg
    · exact .inl (.inr (.inl hg))
    · exact .inl (.inl hg)
    · exact .inl (.inr (.inr hg))
    · exact .inr hg
  intro w' v' i hat hb' hrow' hM hd
  rw [insAt_eq hat] at hrow'
  have hv' : ∀ g ∈ vb v', g ∈ vb vm ∨ wr.heap.size ≤ g := fun g hg => (hd g (by simpa [vb] using hg)).imp (fun h => by simp [vb, h]) id
  obtain ⟨t', ht'⟩ := h.member ho he (w' := w') (vm' := v') (hM.more fun g hg => by
    simp only [Nd.bl, List.mem_cons, List.mem_append] at hg ⊢
    exact hg.imp id .inl) (Store.mk1 (by simpa using hb') hrow' (hvc.mutd hM (fun g hg => by
      simp only [List.mem_cons, List.mem_append] at hg ⊢
      exact hg.imp id .inl) fun g hg => by
      simp only [List.mem_cons, List.mem_append] at hg ⊢
      rcases hg with hg | hg | hg
      · exact .inl (.inl hg)
      · exact (hv' g hg).imp (fun h => .inr (.inl h)) id
      · exact .inl (.inr (.inr hg))) (hns.out b (by simp [bls, Nd.bl]))) hv'
  exact hR w' t' ht'
theorem ks_keys (cs : List (PEl × BT)) : (ksOf cs).map (·.1) = cs.map (·.1) := by simp [ksOf, List.map_map]
theorem holeDescend_c (ho : Cmpr cmpPe G) (h : Hole G X t p w wr A B ctx (.mk (b, vm, vc) ms cs) (e :: p2)) (hX : Old X w) (he : G e) (hp : p2 ≠ []) (hG : GP G p2) {ds : List Value} (hds : kPe.is wr (Nd.bl ⟨b, vm, vc, ms, ksOf cs⟩ ++ (bls (A ++ (BT.flatL cs ++ B)) ++ X)) ds e) (hlen : (t.paths.length + 1) * 40 ≤ 140737488351232)
    (R : Ending → World → Prop) (hR : ∀ w' A' B' ctx' c vm' vc' ms' cs', Hole G X t p w w' A' B' ctx' (.mk (c, vm', vc') ms' cs') p2 → R (.returned (.pointer (some ⟨c, 0, none⟩))) w') :
    Calls Tryz.prog 152 #[.pointer (some ⟨b, 1, none⟩), .agg ds.toArray] wr R := by
  obtain ⟨s1, s2, s3, s4, s5, s6⟩ := Tr.wf_parts h.wf
  have hcl : cs.length ≤ t.paths.length := Nat.le_trans (cs_len h.wf) h.len
  have hkl : (ksOf cs).length = cs.length := by simp [ksOf]
  simp only [Tr.cs] at s3 s4
  have s4' : ∀ x ∈ (ksOf cs).map (·.1), G x := fun x hx => by
    rw [ks_keys] at hx
    obtain ⟨y, hy, rfl⟩ := List.mem_map.1 hx
    exact s4 y hy
  have s3' : SrtC cmpPe ((ksOf cs).map (·.1)) := by rw [ks_keys]; exact s3
  refine descend_c (n := ⟨b, vm, vc, ms, ksOf cs⟩) h.node (h.old hX) hds (mono_srt ho s3' s4' he) (by rw [hkl]; exact Nat.le_trans (Nat.mul_le_mul_right 40 (Nat.succ_le_succ hcl)) hlen) _ (fun w' i hi hE hat hha => ?_) (fun w' i vc' c hat hha hst hM hv hc => ?_)
  · have hi' : i < cs.length := by rw [← hkl]; exact hi
    have hki : (ksOf cs)[i]'hi = (cs[i].1, BT.b cs[i].2) := by simp [ksOf]
    rw [hki]
    obtain ⟨⟨x, s⟩, hxs⟩ : ∃ y, cs[i]'hi' = y := ⟨_, rfl⟩
    have e1 : cs = cs.take i ++ (x, s) :: cs.drop (i + 1) := by rw [← hxs, ← List.drop_eq_getElem_cons hi', List.take_append_drop]
    have hx : cmpPe x e = 0 := by
      unfold HasAt at hha
      rw [ks_keys, List.getElem?_map, List.getElem?_eq_getElem hi', hxs] at hha
      simpa using hha
    rw [hxs]
    obtain ⟨⟨sb, svm, svc⟩, sms, scs⟩ := s
    rw [e1] at h
    exact hR w' _ _ _ sb svm svc sms scs (h.found ho he hp hG hx hE)
  · have hi : i ≤ cs.length := by have := hat.1; rw [ks_keys, List.length_map] at this; exact this
    have e1 : cs = cs.take i ++ cs.drop i := (List.take_append_drop i cs).symm
    have hgt := at_gt ho s3' s4' he hat hha
    have ek : ∀ (j : Nat) (h1 : j < cs.length) (h2 : j < ((ksOf cs).map (·.1)).length), ((ksOf cs).map (·.1))[j]'h2 = cs[j].1 := fun j h1 h2 => by simp [ksOf]
    have h1 : ∀ y ∈ cs.take i, cmpPe y.1 e < 0 := fun y hy => by
      obtain ⟨j, hj, rfl⟩ := List.getElem_of_mem hy
      rw [List.length_take] at hj
      have hj' : j < cs.length := by omega
      have := hat.2.1 j (by simpa [ksOf] using hj') (by omega)
      rw [ek j hj'] at this
      rw [List.getElem_take]
      exact this
    have h2 : ∀ y ∈ cs.drop i, cmpPe e y.1 < 0 := fun y hy => by
      obtain ⟨j, hj, rfl⟩ := List.getElem_of_mem hy
      rw [List.length_drop] at hj
      have hj' : i + j < cs.length := by omega
      have := hgt (i + j) (by simpa [ksOf] using hj') (by omega)
      rw [ek (i + j) hj'] at this
      rw [List.getElem_drop]
      exact this
    have e2 : (ksOf cs).take i = ksOf (cs.take i) ∧ (ksOf cs).drop i = ksOf (cs.drop i) := by simp [ksOf, List.map_take, List.map_drop]
    rw [e2.1, e2.2] at hst
    have h' : Hole G X t p w wr A B ctx (.mk (b, vm, vc) ms (cs.take i ++ cs.drop i)) (e :: p2) := by rw [← e1]; exact h
    refine hR w' _ _ _ c _ _ _ _ (h'.new ho he hp hG h1 h2 (w' := w') (vc' := vc') (c := c) ?_ ?_ ?_ hc)
    · rw [← e1]; exact hM
    · rw [← e1]; exact hst
    · rw [← e1]; exact hv
end

def slLen : Value → Nat
  | .slice _ n _ => n
  | _ => 0

set_option maxRecDepth 100000 in
set_option maxHeartbeats 8000000 in
set_option pp.maxSteps 1000000 in
set_option pp.deepTerms true in
theorem setInsert_c {G : PEl → Prop} (ho : Cmpr cmpPe G) {w : World} {X : List Nat} {t : BT} {pv : Value} {p : List PEl} (hst : Store w X (BT.flat t)) (hwf : Tr.Wf cmpPe G t) (hX : Old X w) (hp : IsSl kPe 32 w (bls (BT.flat t) ++ X) pv p) (hG : GP G p) (hlen : (t.paths.length + 1) * 40 ≤ 140737488351232)
    (R : Ending → World → Prop) (hR0 : p = [] → ∀ w', Ext w w' → R (.returned (.tuple #[])) w') (hR : p ≠ [] → ∀ w' t', PutIn G X t p w w' t' → R (.returned (.tuple #[])) w') :
    Calls Tryz.prog 114 #[.pointer (some ⟨BT.b t, 0, none⟩), pv] w R := by
  obtain ⟨o, pcap, pb, poff, rfl, l2, l3, l4, l5⟩ := id hp.ex
  have l4' := Lib.hid l4
  have l5' := Lib.hid l5
  have hX' := Lib.hid hX
  have hG' := Lib.hid hG
  have hR0' := Lib.hid hR0
  have hR' := Lib.hid hR
  have hlen' := Lib.hid hlen
  have hpl : (p.length : Int) ≤ 140737488351232 := by omega
  have hh := Lib.hid (Hole.start (p := p) hst hwf)
  clear l4 l5 hX hG hR0 hR hlen hst hwf hp l3
  by_cases hp0 : p.length = 0
  · have hpe : p = [] := List.eq_nil_of_length_eq_zero hp0
    subst hpe
    go_enter Tryz.func114, Tryz.ntmps114
    go_wp2_with fail
    exact bodyPost_end (by simp [results, Tryz.results114, go_sem]) rfl (hR0'.out (by first | rfl | trivial) w (Ext.refl w))
  · obtain ⟨rfl, hpb⟩ := l4'.out (by omega)
    have hn0 : ¬ (p.length : Int) = 0 := by omega
    have hne : p ≠ [] := fun e => by rw [e] at hp0; exact hp0 rfl
    have hne' := Lib.hid hne
    have hpb' := Lib.hid hpb
    clear hne hpb
    obtain ⟨⟨b0, vm0, vc0⟩, ms0, cs0⟩ := t
    go_enter Tryz.func114, Tryz.ntmps114
    go_wp2_with fail
    simp only [BT.b, Tr.tag] at *
    go_loopw [0, 1] (fun sv qv wr => ∃ (k m qcap : Nat) (A B : List Nd) (ctx : BT → BT) (b : Nat) (vm vc : Value) (ms : List PEl) (cs : List (PEl × BT)), sv = .pointer (some ⟨b, 0, none⟩) ∧ qv = .slice (some ⟨pb, poff + k * 4, none⟩) m qcap ∧ k + m = p.length ∧ 0 < m ∧ m ≤ qcap ∧
      Hid (Hole G X (.mk (b0, vm0, vc0) ms0 cs0) p w wr A B ctx (.mk (b, vm, vc) ms cs) (p.drop k))) (fun _ qv _ => slLen qv)
    case atStart => exact ⟨0, p.length, pcap, [], [], id, b0, vm0, vc0, ms0, cs0, rfl, by simp, by omega, by omega, l2, hh⟩
    case round =>
      obtain ⟨k, m, qcap, A, B, ctx, b, vm, vc, ms, cs, rfl, rfl, hkm, hm0, hmc, hhole⟩ := hrel
      rename World => wr
      have hk : k < p.length := by omega
      obtain ⟨ds, hc, hds⟩ := l5'.out k hk
      have hone := kPe.one hds
      have hmv := hhole.out.mvd
      have hds' := Lib.hid (kPe.mv hds hmv)
      obtain ⟨d0, d1, d2, d3, rfl, o0, o1, o2, o3⟩ := kPe_4 hds
      have q0 := (hmv.cell hpb'.out (hc 0 (by decide))).1
      have q1 := (hmv.cell hpb'.out (hc 1 (by decide))).1
      have q2 := (hmv.cell hpb'.out (hc 2 (by decide))).1
      have q3 := (hmv.cell hpb'.out (hc 3 (by decide))).1
      simp only [show kPe.size = 4 from rfl, Nat.add_zero] at q0 q1 q2 q3
      have hdr : p.drop k = (p[k]'hk) :: p.drop (k + 1) := List.drop_eq_getElem_cons hk
      have hGk := hG'.out _ (List.getElem_mem hk)
      obtain ⟨e, he⟩ : ∃ e, p[k]'hk = e := ⟨_, rfl⟩
      rw [he] at hds' hGk hdr
      rw [hdr] at hhole
      have hmI : (0 : Int) < (m : Int) := by omega
      have hGk' := Lib.hid hGk
      have hns := Lib.hid hhole.out.node
      have hold := Lib.hid (hhole.out.old hX'.out)
      clear hc hds hone hmv hGk he hdr
      by_cases hm1 : m = 1
      · subst hm1
        have hd0 : p.drop (k + 1) = [] := List.drop_eq_nil_of_le (by omega)
        rw [hd0] at hhole
        clear hd0
        go_wp2_with fail
        refine wp_region_script [0, 1, 2, 3, 4, 5] [] (fun w' => Ext wr w') [(.pure, 0), (.pure, 1), (.pure, 2), (.pure, 3), (.pure, 4), (.read, 5), (.one, 6)] (by kernel_rfl) (by kernel_rfl) ?_
        have hC : Ext wr wr.drew := (Ext.refl wr).drew
        iterate 5 (apply scr_pure'; (· rfl); (· rfl); (· (intro w'; go_simp; try rfl)); (· (simp [go_sem]; try rfl)))
        (apply scr_read'; (· rfl); (· rfl); (· first | exact hC | exact (Ext.refl _).drew); (· (intro w' hw'; have q0_ := hw'.keep q0; have q1_ := hw'.keep q1; have q2_ := hw'.keep q2; have q3_ := hw'.keep q3; go_simp; try rfl)); (· (simp [go_sem]; try rfl)))
        refine scr_one rfl rfl (fun K hK => ?_)
        go_simp
        refine holeMember_c ho (hhole.out.ext hC) hX'.out hGk'.out (ds := [d0, d1, d2, d3]) (kPe.mv hds'.out (hC.mv _)) hlen'.out _ ?_
        intro w' t' ht'
        have ht2 := Lib.hid ht'
        refine hK _ _ (fun h => by simp at h) ?_
        clear hK ht' hhole hns hold hds' q0 q1 q2 q3
        refine scr_end ?_
        simp only [Exit.then]
        go_wp2_with fail
        exact bodyPost_end (by simp [results, Tryz.results114, go_sem]) rfl (hR'.out (by first | exact hne'.out | trivial) w' t' ht2.out)
      · have hm1I : ((m : Int) == 1) = false := by rw [beq_eq_false_iff_ne]; omega
        have hm1I' : ¬ (m : Int) = 1 := by omega
        have hqc1 : ¬ qcap = 1 := by omega
        have hm1q : 1 ≤ m := hm0
        have hm1q' : (1 : Int) ≤ (m : Int) := by omega
        have hG2 := Lib.hid (show GP G (p.drop (k + 1)) from fun x hx => hG'.out x (List.mem_of_mem_drop hx))
        have hd0 := Lib.hid (show p.drop (k + 1) ≠ [] from fun h => by rw [List.drop_eq_nil_iff] at h; omega)
        go_wp2_with fail
        refine wp_region_script [0, 1, 2, 3, 4, 5, 7] [] (fun w' => Ext wr w') [(.pure, 0), (.pure, 1), (.pure, 2), (.pure, 3), (.pure, 4), (.read, 5), (.one, 6), (.pure, 7)] (by kernel_rfl) (by kernel_rfl) ?_
        have hC : Ext wr wr.drew := (Ext.refl wr).drew
        iterate 5 (apply scr_pure'; (· rfl); (· rfl); (· (intro w'; go_simp; try rfl)); (· (simp [go_sem]; try rfl)))
        (apply scr_read'; (· rfl); (· rfl); (· first | exact hC | exact (Ext.refl _).drew); (· (intro w' hw'; have q0_ := hw'.keep q0; have q1_ := hw'.keep q1; have q2_ := hw'.keep q2; have q3_ := hw'.keep q3; go_simp; try rfl)); (· (simp [go_sem]; try rfl)))
        refine scr_one rfl rfl (fun K hK => ?_)
        go_simp
        refine holeDescend_c ho (hhole.out.ext hC) hX'.out hGk'.out hd0.out hG2.out (ds := [d0, d1, d2, d3]) (kPe.mv hds'.out (hC.mv _)) hlen'.out _ ?_
        intro w' A' B' ctx' c vm' vc' ms' cs' hh2
        have hh2' := Lib.hid hh2
        refine hK _ _ (fun h => by simp at h) ?_
        clear hK hh2 hhole hns hold hds' q0 q1 q2 q3
        (apply scr_pure'; (· rfl); (· rfl); (· (intro w'; go_simp; try rfl)); (· (simp [go_sem]; try rfl)))
        refine scr_end ?_
        simp only [Exit.then]
        go_wp2_with fail
        refine ⟨⟨k + 1, m - 1, qcap - 1, A', B', ctx', c, vm', vc', ms', cs', rfl, ?_, by omega, by omega, by omega, hh2'⟩, ?_⟩
        · rw [Nat.succ_mul, ← Nat.add_assoc]
        · show m - 1 < m
          omega
end Go.Proofs.YtihapgangilncaaGreat
