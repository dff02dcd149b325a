/- impl.fromPath and spec.CleanPath (printed by gen_pathsc.py). Set.Insert: a path put into a set. impl.toSet: a set made of a list of paths. -/
import Derived.Test.YtihapgangilncaaGreatKFBackL
import Derived.Test.YtihapgangilncaaGreatKFHole
import Derived.Test.YtihapgangilncaaGreatKFSetOps
import Derived.Test.YtihapgangilncaaGreatKFRowS
namespace Go.Proofs.YtihapgangilncaaGreat
open Go.RowKit
set_option linter.unusedSimpArgs false

/-- a slice whose elements keep clear of X, wherever it stands itself -/
def SlE {α : Type} (k : Kind α) (bytes : Nat) (w : World) (X : List Nat) (v : Value) (us : List α) : Prop := ∃ o c b off, v = .slice o us.length c ∧ us.length ≤ c ∧ us.length * bytes ≤ 140737488351232 ∧ (0 < us.length → o = some ⟨b, off, none⟩) ∧
  ∀ i (h : i < us.length), ∃ cs : List Value, (∀ j, j < k.size → w.cell? ⟨b, off + i * k.size + j, none⟩ = cs[j]?) ∧ k.is w X cs (us[i])
/-- as k, but clear of the block of v, too -/
def kAv {α : Type} (v : Value) (k : Kind α) : Kind α where
  size := k.size
  is := fun w X cs a => k.is w (vb v ++ X) cs a
  mv := fun h m => k.mv h ⟨m.size, fun j hj hx => by
    simp only [List.mem_append, not_or] at hx ⊢
    exact ⟨(m.block j hj hx.2).1, hx.1, (m.block j hj hx.2).2⟩⟩
  len := k.len
  one := k.one
theorem Row.slE {α : Type} {k : Kind α} {e : TypeId} {bytes : Nat} {w : World} {X : List Nat} {v : Value} {us : List α} (h : Row k e w X v us) (h3 : us.length * bytes ≤ 140737488351232) : SlE k bytes w (vb v ++ X) v us := by
  have h' : Row (kAv v k) e w X v us := by
    obtain ⟨rows, h1, h2, h4⟩ := h.ex
    exact ⟨rows, h1, h2.imp fun _ _ h => k.mv h ((Mv.refl _ _).less fun b hb => by
      simp only [List.mem_append] at hb ⊢
      exact hb.elim .inl id), h4⟩
  obtain ⟨o, c, b, off, rfl, l2, l3, l4, l5⟩ := (h'.isSl h3).ex
  exact ⟨o, c, b, off, rfl, l2, l3, fun hp => (l4 hp).1, l5⟩
theorem IsSl.slE {α : Type} {k : Kind α} {bytes : Nat} {w : World} {X : List Nat} {v : Value} {us : List α} (h : IsSl k bytes w X v us) : SlE k bytes w X v us := by
  obtain ⟨o, c, b, off, rfl, l2, l3, l4, l5⟩ := h.ex
  exact ⟨o, c, b, off, rfl, l2, l3, fun hp => (l4 hp).1, l5⟩
theorem SlE.less {α : Type} {k : Kind α} {bytes : Nat} {w : World} {X Y : List Nat} {v : Value} {us : List α} (h : SlE k bytes w X v us) (hY : ∀ b ∈ Y, b ∈ X) : SlE k bytes w Y v us := by
  obtain ⟨o, c, b, off, rfl, l2, l3, l4, l5⟩ := h
  refine ⟨o, c, b, off, rfl, l2, l3, l4, fun i hi => ?_⟩
  obtain ⟨cs, h1, h2⟩ := l5 i hi
  exact ⟨cs, h1, k.mv h2 ((Mv.refl _ _).less hY)⟩
theorem SlE.ext {α : Type} {k : Kind α} {bytes : Nat} {w w' : World} {X : List Nat} {v : Value} {us : List α} (h : SlE k bytes w X v us) (hE : Ext w w') : SlE k bytes w' X v us := by
  obtain ⟨o, c, b, off, rfl, l2, l3, l4, l5⟩ := h
  refine ⟨o, c, b, off, rfl, l2, l3, l4, fun i hi => ?_⟩
  obtain ⟨cs, h1, h2⟩ := l5 i hi
  refine ⟨cs, fun j hj => ?_, k.mv h2 (hE.mv _)⟩
  have hl := k.len h2
  have h0 := h1 j hj
  rw [List.getElem?_eq_getElem (by omega)] at h0 ⊢
  exact hE.keep h0
theorem SlE.one {α : Type} {k : Kind α} {bytes : Nat} {w : World} {X : List Nat} {v : Value} {us : List α} (h : SlE k bytes w X v us) : v.oneCell' = true := by
  obtain ⟨o, c, b, off, rfl, _⟩ := h
  rfl

set_option maxRecDepth 100000 in
set_option maxHeartbeats 4000000 in
set_option pp.maxSteps 1000000 in
set_option pp.deepTerms true in
theorem fromPath_c {w : World} {X : List Nat} {pv : Value} {p : List PEl} (hp : SlE kPe 32 w X pv p) (hX : Old X w) (hs : ∀ e ∈ p, SmallPe e) (hbo : p.length * 168 ≤ 140737488351232) (R : Ending → World → Prop)
    (hR : ∀ w' v, Ext w w' → IsSl kEl 168 w' X v (p.map backE) → R (.returned v) w') : Calls Tryz.prog 112 #[pv] w R := by
  obtain ⟨o, c, b, off, rfl, l2, l3, l4, l5⟩ := id hp
  have l4' := Lib.hid l4
  have l5' := Lib.hid l5
  have hX' := Lib.hid hX
  have hR' := Lib.hid hR
  have hbo' := Lib.hid hbo
  have hs' := Lib.hid hs
  have hpI : (p.length : Int) ≤ 140737488351232 := by omega
  clear hR hX hp l4 l5 hbo l3 hs
  go_enter Tryz.func112, Tryz.ntmps112
  go_wp2_with fail
  refine abs1 (G := Code.wp _ _ _ _) ?_
  intro w1 hE1 hb1 hs1
  have hrow : Row kEl 47 w1 X (.slice (some ⟨w.heap.size, 0, none⟩) 0 0) [] := Row.made hb1 (fun h => by have := hX'.out _ h; omega)
  have hrow' := Lib.hid hrow
  clear hrow hb1 hs1
  go_loopw [3, 9] (fun v i wr => ∃ k : Nat, k ≤ p.length ∧ i = .int .i64 k ∧ Ext w wr ∧ (∀ g, v.ownBlock = some g → w.heap.size ≤ g) ∧ v ≠ .slice none 0 0 ∧ Hid (Row kEl 47 wr X v ((p.take k).map backE))) (fun _ i _ => p.length - (intOf i).toNat)
  case atStart => exact ⟨0, Nat.zero_le _, rfl, hE1, fun g h => by simp [Value.ownBlock] at h; omega, by simp, hrow'⟩
  case round =>
    obtain ⟨k, hk, rfl, hEw, hgv, hnn, hrow⟩ := hrel
    rename World => wr
    by_cases hlt : k < p.length
    · obtain ⟨cs, hc, hcs⟩ := l5'.out k hlt
      obtain rfl := l4'.out (by omega)
      have hone := kPe.one hcs
      obtain ⟨c0, c1, c2, c3, rfl⟩ := kPe_four hcs
      have q0 := hEw.keep (hc 0 (by decide))
      have q1 := hEw.keep (hc 1 (by decide))
      have q2 := hEw.keep (hc 2 (by decide))
      have q3 := hEw.keep (hc 3 (by decide))
      simp only [show kPe.size = 4 from rfl, Nat.add_zero] at q0 q1 q2 q3
      have hi1 : (k : Int) < (p.length : Int) := by omega
      have hkm : (k : Int) + 1 ≤ 9223372036854775807 := by omega
      have hmv : Mv w X wr (vb u3 ++ X) := (hEw.mv X).moreL (fun g hg => hgv g (by simpa [vb] using hg))
      have hXr : Old X wr := hX'.out.le hEw.size
      have hcs' := Lib.hid (kPe.mv hcs hmv)
      have hmv' := Lib.hid hmv
      have hone' := Lib.hid hone
      clear hc hcs hmv hone
      go_wp2_with (first | (refine wpL_storeRow (cells := #[c0, c1, c2, c3]) rfl 89 _ _ rfl Tryz.size89 rfl rfl (alloc_new _ _ rfl) rfl (by simpa using hone'.out) ?_; intro w5 h5 g5; have hEx : Ext wr w5 := ((Ext.refl wr).push _).grown g5 (fun k hk => by cases hk; exact Nat.le_refl _); have s0 : w5.cell? ⟨wr.heap.size, 0, none⟩ = some (c0) := cells_of h5 0; have s1 : w5.cell? ⟨wr.heap.size, 1, none⟩ = some (c1) := cells_of h5 1; have s2 : w5.cell? ⟨wr.heap.size, 2, none⟩ = some (c2) := cells_of h5 2; have s3 : w5.cell? ⟨wr.heap.size, 3, none⟩ = some (c3) := cells_of h5 3; clear q0 q1 q2 q3 h5 g5))
      have hm5 : Mv wr (vb u3 ++ X) w5 (vb u3 ++ X) := hEx.mv _
      have hX5 : Old X w5 := hXr.le hEx.size
      have hrow5 : Row kEl 47 w5 X u3 ((p.take k).map backE) := hrow.out.ext hEx
      have hrow5' := Lib.hid hrow5
      refine fromElem_c (X := vb u3 ++ X) (kPe.mv hcs'.out hm5) (hrow5.old hX5) (hs'.out _ (List.getElem_mem hlt)) _ ?_
      intro w6 es hE6 hes
      obtain ⟨d0, d1, d2, d3, d4, d5, d6, d7, d8, d9, d10, rfl⟩ := kEl_eleven hes
      have hes' := Lib.hid hes
      have hlk : ((p.take k).map backE).length = k := by rw [List.length_map, List.length_take]; omega
      have hb4 : (((p.take k).map backE).length + 1) * 168 ≤ 140737488355328 := by rw [hlk]; exact Nat.le_trans (Nat.mul_le_mul_right _ hlt) (Nat.le_trans hbo'.out (by decide))
      have hb5 : ((p.take k).map backE).length + 1 ≤ maxLen := by rw [hlk, maxLen_eq]; omega
      have hE6' := Lib.hid hE6
      have htk : (p.take (k + 1)).map backE = (p.take k).map backE ++ [backE p[k]] := by rw [List.take_succ_eq_append_getElem hlt, List.map_append]; rfl
      have htk' := Lib.hid htk
      have hEx' := Lib.hid hEx
      clear hes hlk htk hE6 hEx hrow hrow5 s0 s1 s2 s3
      dsimp only
      go_wp2_with (at_builtin; refine wpL_rowApp (c := #[d0, d1, d2, d3, d4, d5, d6, d7, d8, d9, d10]) rfl hrow5'.out hE6'.out (hX5.le hE6'.out.size) hes'.out _ _ _ rfl Tryz.underlying22 Tryz.info47 rfl (by decide) rfl rfl hb4 hb5 ?_; intro v' w8 hrow8 hg8 hne8 hd8)
      go_roundw
      case rel =>
        have hE8 : Ext w w8 := ((hEw.trans hEx'.out).trans hE6'.out).grown hg8 (fun j hj => hgv j hj)
        refine ⟨k + 1, by omega, by go_num, hE8, fun g hg => ?_, hne8, Lib.hid (by rw [htk'.out]; exact hrow8)⟩
        rcases hd8 g hg with h | h
        · exact hgv g h
        · have := hE6'.out.size; have := hEx'.out.size; have := hEw.size; omega
      case measure => simp [intOf]; omega
    · have ek : k = p.length := by omega
      subst ek
      have hr := hrow.out
      rw [List.take_of_length_le (Nat.le_refl _)] at hr
      have hr' := Lib.hid (hr.isSl (bytes := 168) (by rw [List.length_map]; exact hbo'.out))
      clear hr hrow
      go_wp2_with fail
      exact hR'.out wr _ hEw hr'.out

end Go.Proofs.YtihapgangilncaaGreat
namespace Go.Proofs.YtihapgangilncaaGreat
open Go.RowKit
set_option linter.unusedSimpArgs false

theorem hasAtC_eq (us : List PEl) (t : PEl) (i : Nat) : hasAtC cmpPe us t i = HasAt us t i := by
  unfold hasAtC HasAt
  cases us[i]? <;> rfl
theorem insAt_eq {us : List PEl} {t : PEl} {i : Nat} (h : At us t i) : insAt us t i = insC cmpPe us t := by
  rw [insC_at h.1 h.2.1 h.2.2, hasAtC_eq]
  rfl
theorem mono_srt {G : PEl → Prop} (ho : Cmpr cmpPe G) {us : List PEl} {t : PEl} (hs : SrtC cmpPe us) (hG : ∀ x ∈ us, G x) (ht : G t) : ∀ i j (hi : i < us.length) (hj : j < us.length), i ≤ j → cmpPe us[j] t < 0 → cmpPe us[i] t < 0 := by
  intro i j hi hj hij h
  by_cases e : i = j
  · subst e; exact h
  · exact ho.lt_tr (hG _ (List.getElem_mem hi)) (hG _ (List.getElem_mem hj)) ht (List.pairwise_iff_getElem.1 hs i j hi hj (by omega)) h
theorem at_gt {G : PEl → Prop} (ho : Cmpr cmpPe G) {us : List PEl} {t : PEl} {i : Nat} (hs : SrtC cmpPe us) (hG : ∀ x ∈ us, G x) (ht : G t) (h : At us t i) (hh : HasAt us t i = false) : ∀ j (hj : j < us.length), i ≤ j → cmpPe t us[j] < 0 := by
  intro j hj hij
  have hi : i < us.length := by omega
  have h0 : cmpPe t us[i] < 0 := by
    have h1 := h.2.2 i hi (Nat.le_refl _)
    have h2 : cmpPe us[i] t ≠ 0 := fun e => by simp [HasAt, hi, e] at hh
    rw [ho.neg us[i] t]
    omega
  by_cases e : i = j
  · subst e; exact h0
  · exact ho.lt_tr ht (hG _ (List.getElem_mem hi)) (hG _ (List.getElem_mem hj)) h0 (List.pairwise_iff_getElem.1 hs i j hi hj (by omega))
theorem ms_len {β : Type} {s : Tr β PEl} : s.ms.length ≤ s.paths.length := by rw [Tr.paths_eq]; simp
theorem cs_len {β : Type} {G : PEl → Prop} {s : Tr β PEl} (h : s.Wf cmpPe G) : s.cs.length ≤ s.paths.length := by
  rw [Tr.paths_eq]
  have hne : ∀ p ∈ s.cs, p.2.paths ≠ [] := by
    cases h with
    | mk _ _ _ _ h5 _ => exact h5
  have : ∀ l : List (PEl × Tr β PEl), (∀ p ∈ l, p.2.paths ≠ []) → l.length ≤ (l.flatMap (fun p => p.2.paths.map (p.1 :: ·))).length := by
    intro l
    induction l with
    | nil => simp
    | cons p l ih =>
      intro h
      have h1 := ih (fun q hq => h q (by simp [hq]))
      have h2 : 0 < p.2.paths.length := List.length_pos_iff.2 (h p (by simp))
      simp only [List.length_cons, List.flatMap_cons, List.length_append, List.length_map]
      omega
  have := this s.cs hne
  rw [List.length_append]
  omega

section
variable {G : PEl → Prop} {X : List Nat} {t : BT} {p : List PEl} {w wr : World} {A B : List Nd} {ctx : BT → BT} {b : Nat} {vm vc : Value} {ms : List PEl} {cs : List (PEl × BT)} {p2 : List PEl} {e : PEl}
theorem Hole.ext {u : BT} (h : Hole G X t p w wr A B ctx u p2) {w' : World} (hE : Ext wr w') : Hole G X t p w w' A B ctx u p2 :=
  ⟨h.st.ext hE, h.mu.thenNew (hE.mut []) (by simp), h.bl, h.cx, h.wf, h.has, h.len⟩
theorem holeMember_c (ho : Cmpr cmpPe G) (h : Hole G X t p w wr A B ctx (.mk (b, vm, vc) ms cs) [e]) (hX : Old X w) (he : G e) {ds : List Value} (hds : kPe.is wr (Nd.bl ⟨b, vm, vc, ms, ksOf cs⟩ ++ (bls (A ++ (BT.flatL cs ++ B)) ++ X)) ds e) (hlen : (t.paths.length + 1) * 40 ≤ 140737488351232)
    (R : Ending → World → Prop) (hR : ∀ w' t', PutIn G X t p w w' t' → R (.returned (.tuple #[])) w') :
    Calls Tryz.prog 51 #[.pointer (some ⟨b, 0, none⟩), .agg ds.toArray] wr R := by
  have hns := h.node
  have hn0 := hns.each ⟨b, vm, vc, ms, ksOf cs⟩ (by simp)
  have hcell := hn0.cell
  have hlt := hn0.lt
  have hvm := hns.vm
  have hvc := hns.vc
  have hold := h.old hX
  obtain ⟨s1, s2, -⟩ := Tr.wf_parts h.wf
  have hml : ms.length ≤ t.paths.length := Nat.le_trans (ms_len (s := .mk (b, vm, vc) ms cs)) h.len
  refine esInsert_c (X := vb vc ++ (bls (A ++ (BT.flatL cs ++ B)) ++ X)) (off := 0) (old := #[vm, vc]) (T := 126) (v := vm) (us := ms) (t := e) hcell (by simp) (by simp) hvm (fun g hg => ?_) (kPe.mv hds ((Mv.refl _ _).less fun g hg => ?_)) (mono_srt ho s1 s2 he) (Nat.le_trans (Nat.mul_le_mul (Nat.succ_le_succ hml) (by decide : 32 ≤ 40)) hlen) _ ?_
  · rcases List.mem_cons.1 hg with rfl | hg
    · exact hlt _ (by simp [Nd.bl])
    · rcases List.mem_append.1 hg with hg | hg
      · exact hlt _ (by simp [Nd.bl, hg])
      · exact hold g hg
  · simp only [Nd.bl, List.mem_append, List.mem_cons] at hg ⊢
    rcases hg with hg | hg | hg | hg
    · exact .inl (.inr (.inl hg))
    · exact .inl (.inl hg)
    · exact .inl (.inr (.inr hg))
    · exact .inr hg
  intro w' v' i hat hb' hrow' hM hd
  rw [insAt_eq hat] at hrow'
  have hv' : ∀ g ∈ vb v', g ∈ vb vm ∨ wr.heap.size ≤ g := fun g hg => (hd g (by simpa [vb] using hg)).imp (fun h => by simp [vb, h]) id
  obtain ⟨t', ht'⟩ := h.member ho he (w' := w') (vm' := v') (hM.more fun g hg => by
    simp only [Nd.bl, List.mem_cons, List.mem_append] at hg ⊢
    exact hg.imp id .inl) (Store.mk1 (by simpa using hb') hrow' (hvc.mutd hM (fun g hg => by
      simp only [List.mem_cons, List.mem_append] at hg ⊢
      exact hg.imp id .inl) fun g hg => by
      simp only [List.mem_cons, List.mem_append] at hg ⊢
      rcases hg with hg | hg | hg
      · exact .inl (.inl hg)
      · exact (hv' g hg).imp (fun h => .inr (.inl h)) id
      · exact .inl (.inr (.inr hg))) (hns.out b (by simp [bls, Nd.bl]))) hv'
  exact hR w' t' ht'
theorem ks_keys (cs : List (PEl × BT)) : (ksOf cs).map (·.1) = cs.map (·.1) := by simp [ksOf, List.map_map]
theorem holeDescend_c (ho : Cmpr cmpPe G) (h : Hole G X t p w wr A B ctx (.mk (b, vm, vc) ms cs) (e :: p2)) (hX : Old X w) (he : G e) (hp : p2 ≠ []) (hG : GP G p2) {ds : List Value} (hds : kPe.is wr (Nd.bl ⟨b, vm, vc, ms, ksOf cs⟩ ++ (bls (A ++ (BT.flatL cs ++ B)) ++ X)) ds e) (hlen : (t.paths.length + 1) * 40 ≤ 140737488351232)
    (R : Ending → World → Prop) (hR : ∀ w' A' B' ctx' c vm' vc' ms' cs', Hole G X t p w w' A' B' ctx' (.mk (c, vm', vc') ms' cs') p2 → R (.returned (.pointer (some ⟨c, 0, none⟩))) w') :
    Calls Tryz.prog 152 #[.pointer (some ⟨b, 1, none⟩), .agg ds.toArray] wr R := by
  obtain ⟨s1, s2, s3, s4, s5, s6⟩ := Tr.wf_parts h.wf
  have hcl : cs.length ≤ t.paths.length := Nat.le_trans (cs_len h.wf) h.len
  have hkl : (ksOf cs).length = cs.length := by simp [ksOf]
  simp only [Tr.cs] at s3 s4
  have s4' : ∀ x ∈ (ksOf cs).map (·.1), G x := fun x hx => by
    rw [ks_keys] at hx
    obtain ⟨y, hy, rfl⟩ := List.mem_map.1 hx
    exact s4 y hy
  have s3' : SrtC cmpPe ((ksOf cs).map (·.1)) := by rw [ks_keys]; exact s3
  refine descend_c (n := ⟨b, vm, vc, ms, ksOf cs⟩) h.node (h.old hX) hds (mono_srt ho s3' s4' he) (by rw [hkl]; exact Nat.le_trans (Nat.mul_le_mul_right 40 (Nat.succ_le_succ hcl)) hlen) _ (fun w' i hi hE hat hha => ?_) (fun w' i vc' c hat hha hst hM hv hc => ?_)
  · have hi' : i < cs.length := by rw [← hkl]; exact hi
    have hki : (ksOf cs)[i]'hi = (cs[i].1, BT.b cs[i].2) := by simp [ksOf]
    rw [hki]
    obtain ⟨⟨x, s⟩, hxs⟩ : ∃ y, cs[i]'hi' = y := ⟨_, rfl⟩
    have e1 : cs = cs.take i ++ (x, s) :: cs.drop (i + 1) := by rw [← hxs, ← List.drop_eq_getElem_cons hi', List.take_append_drop]
    have hx : cmpPe x e = 0 := by
      unfold HasAt at hha
      rw [ks_keys, List.getElem?_map, List.getElem?_eq_getElem hi', hxs] at hha
      simpa using hha
    rw [hxs]
    obtain ⟨⟨sb, svm, svc⟩, sms, scs⟩ := s
    rw [e1] at h
    exact hR w' _ _ _ sb svm svc sms scs (h.found ho he hp hG hx hE)
  · have hi : i ≤ cs.length := by have := hat.1; rw [ks_keys, List.length_map] at this; exact this
    have e1 : cs = cs.take i ++ cs.drop i := (List.take_append_drop i cs).symm
    have hgt := at_gt ho s3' s4' he hat hha
    have ek : ∀ (j : Nat) (h1 : j < cs.length) (h2 : j < ((ksOf cs).map (·.1)).length), ((ksOf cs).map (·.1))[j]'h2 = cs[j].1 := fun j h1 h2 => by simp [ksOf]
    have h1 : ∀ y ∈ cs.take i, cmpPe y.1 e < 0 := fun y hy => by
      obtain ⟨j, hj, rfl⟩ := List.getElem_of_mem hy
      rw [List.length_take] at hj
      have hj' : j < cs.length := by omega
      have := hat.2.1 j (by simpa [ksOf] using hj') (by omega)
      rw [ek j hj'] at this
      rw [List.getElem_take]
      exact this
    have h2 : ∀ y ∈ cs.drop i, cmpPe e y.1 < 0 := fun y hy => by
      obtain ⟨j, hj, rfl⟩ := List.getElem_of_mem hy
      rw [List.length_drop] at hj
      have hj' : i + j < cs.length := by omega
      have := hgt (i + j) (by simpa [ksOf] using hj') (by omega)
      rw [ek (i + j) hj'] at this
      rw [List.getElem_drop]
      exact this
    have e2 : (ksOf cs).take i = ksOf (cs.take i) ∧ (ksOf cs).drop i = ksOf (cs.drop i) := by simp [ksOf, List.map_take, List.map_drop]
    rw [e2.1, e2.2] at hst
    have h' : Hole G X t p w wr A B ctx (.mk (b, vm, vc) ms (cs.take i ++ cs.drop i)) (e :: p2) := by rw [← e1]; exact h
    refine hR w' _ _ _ c _ _ _ _ (h'.new ho he hp hG h1 h2 (w' := w') (vc' := vc') (c := c) ?_ ?_ ?_ hc)
    · rw [← e1]; exact hM
    · rw [← e1]; exact hst
    · rw [← e1]; exact hv
end

def slLen : Value → Nat
  | .slice _ n _ => n
  | _ => 0

set_option maxRecDepth 100000 in
set_option maxHeartbeats 8000000 in
set_option pp.maxSteps 1000000 in
set_option pp.deepTerms true in
theorem setInsert_c {G : PEl → Prop} (ho : Cmpr cmpPe G) {w : World} {X : List Nat} {t : BT} {pv : Value} {p : List PEl} (hst : Store w X (BT.flat t)) (hwf : Tr.Wf cmpPe G t) (hX : Old X w) (hp : IsSl kPe 32 w (bls (BT.flat t) ++ X) pv p) (hG : GP G p) (hlen : (t.paths.length + 1) * 40 ≤ 140737488351232)
    (R : Ending → World → Prop) (hR0 : p = [] → ∀ w', Ext w w' → R (.returned (.tuple #[])) w') (hR : p ≠ [] → ∀ w' t', PutIn G X t p w w' t' → R (.returned (.tuple #[])) w') :
    Calls Tryz.prog 114 #[.pointer (some ⟨BT.b t, 0, none⟩), pv] w R := by
  obtain ⟨o, pcap, pb, poff, rfl, l2, l3, l4, l5⟩ := id hp.ex
  have l4' := Lib.hid l4
  have l5' := Lib.hid l5
  have hX' := Lib.hid hX
  have hG' := Lib.hid hG
  have hR0' := Lib.hid hR0
  have hR' := Lib.hid hR
  have hlen' := Lib.hid hlen
  have hpl : (p.length : Int) ≤ 140737488351232 := by omega
  have hh := Lib.hid (Hole.start (p := p) hst hwf)
  clear l4 l5 hX hG hR0 hR hlen hst hwf hp l3
  by_cases hp0 : p.length = 0
  · have hpe : p = [] := List.eq_nil_of_length_eq_zero hp0
    subst hpe
    go_enter Tryz.func114, Tryz.ntmps114
    go_wp2_with fail
    exact bodyPost_end (by simp [results, Tryz.results114, go_sem]) rfl (hR0'.out (by first | rfl | trivial) w (Ext.refl w))
  · obtain ⟨rfl, hpb⟩ := l4'.out (by omega)
    have hn0 : ¬ (p.length : Int) = 0 := by omega
    have hne : p ≠ [] := fun e => by rw [e] at hp0; exact hp0 rfl
    have hne' := Lib.hid hne
    have hpb' := Lib.hid hpb
    clear hne hpb
    obtain ⟨⟨b0, vm0, vc0⟩, ms0, cs0⟩ := t
    go_enter Tryz.func114, Tryz.ntmps114
    go_wp2_with fail
    simp only [BT.b, Tr.tag] at *
    go_loopw [0, 1] (fun sv qv wr => ∃ (k m qcap : Nat) (A B : List Nd) (ctx : BT → BT) (b : Nat) (vm vc : Value) (ms : List PEl) (cs : List (PEl × BT)), sv = .pointer (some ⟨b, 0, none⟩) ∧ qv = .slice (some ⟨pb, poff + k * 4, none⟩) m qcap ∧ k + m = p.length ∧ 0 < m ∧ m ≤ qcap ∧
      Hid (Hole G X (.mk (b0, vm0, vc0) ms0 cs0) p w wr A B ctx (.mk (b, vm, vc) ms cs) (p.drop k))) (fun _ qv _ => slLen qv)
    case atStart => exact ⟨0, p.length, pcap, [], [], id, b0, vm0, vc0, ms0, cs0, rfl, by simp, by omega, by omega, l2, hh⟩
    case round =>
      obtain ⟨k, m, qcap, A, B, ctx, b, vm, vc, ms, cs, rfl, rfl, hkm, hm0, hmc, hhole⟩ := hrel
      rename World => wr
      have hk : k < p.length := by omega
      obtain ⟨ds, hc, hds⟩ := l5'.out k hk
      have hone := kPe.one hds
      have hmv := hhole.out.mvd
      have hds' := Lib.hid (kPe.mv hds hmv)
      obtain ⟨d0, d1, d2, d3, rfl, o0, o1, o2, o3⟩ := kPe_4 hds
      have q0 := (hmv.cell hpb'.out (hc 0 (by decide))).1
      have q1 := (hmv.cell hpb'.out (hc 1 (by decide))).1
      have q2 := (hmv.cell hpb'.out (hc 2 (by decide))).1
      have q3 := (hmv.cell hpb'.out (hc 3 (by decide))).1
      simp only [show kPe.size = 4 from rfl, Nat.add_zero] at q0 q1 q2 q3
      have hdr : p.drop k = (p[k]'hk) :: p.drop (k + 1) := List.drop_eq_getElem_cons hk
      have hGk := hG'.out _ (List.getElem_mem hk)
      obtain ⟨e, he⟩ : ∃ e, p[k]'hk = e := ⟨_, rfl⟩
      rw [he] at hds' hGk hdr
      rw [hdr] at hhole
      have hmI : (0 : Int) < (m : Int) := by omega
      have hGk' := Lib.hid hGk
      have hns := Lib.hid hhole.out.node
      have hold := Lib.hid (hhole.out.old hX'.out)
      clear hc hds hone hmv hGk he hdr
      by_cases hm1 : m = 1
      · subst hm1
        have hd0 : p.drop (k + 1) = [] := List.drop_eq_nil_of_le (by omega)
        rw [hd0] at hhole
        clear hd0
        go_wp2_with fail
        refine wp_region_script [0, 1, 2, 3, 4, 5] [] (fun w' => Ext wr w') [(.pure, 0), (.pure, 1), (.pure, 2), (.pure, 3), (.pure, 4), (.read, 5), (.one, 6)] (by kernel_rfl) (by kernel_rfl) ?_
        have hC : Ext wr wr.drew := (Ext.refl wr).drew
        iterate 5 (apply scr_pure'; (· rfl); (· rfl); (· (intro w'; go_simp; try rfl)); (· (simp [go_sem]; try rfl)))
        (apply scr_read'; (· rfl); (· rfl); (· first | exact hC | exact (Ext.refl _).drew); (· (intro w' hw'; have q0_ := hw'.keep q0; have q1_ := hw'.keep q1; have q2_ := hw'.keep q2; have q3_ := hw'.keep q3; go_simp; try rfl)); (· (simp [go_sem]; try rfl)))
        refine scr_one rfl rfl (fun K hK => ?_)
        go_simp
        refine holeMember_c ho (hhole.out.ext hC) hX'.out hGk'.out (ds := [d0, d1, d2, d3]) (kPe.mv hds'.out (hC.mv _)) hlen'.out _ ?_
        intro w' t' ht'
        have ht2 := Lib.hid ht'
        refine hK _ _ (fun h => by simp at h) ?_
        clear hK ht' hhole hns hold hds' q0 q1 q2 q3
        refine scr_end ?_
        simp only [Exit.then]
        go_wp2_with fail
        exact bodyPost_end (by simp [results, Tryz.results114, go_sem]) rfl (hR'.out (by first | exact hne'.out | trivial) w' t' ht2.out)
      · have hm1I : ((m : Int) == 1) = false := by rw [beq_eq_false_iff_ne]; omega
        have hm1I' : ¬ (m : Int) = 1 := by omega
        have hqc1 : ¬ qcap = 1 := by omega
        have hm1q : 1 ≤ m := hm0
        have hm1q' : (1 : Int) ≤ (m : Int) := by omega
        have hG2 := Lib.hid (show GP G (p.drop (k + 1)) from fun x hx => hG'.out x (List.mem_of_mem_drop hx))
        have hd0 := Lib.hid (show p.drop (k + 1) ≠ [] from fun h => by rw [List.drop_eq_nil_iff] at h; omega)
        go_wp2_with fail
        refine wp_region_script [0, 1, 2, 3, 4, 5, 7] [] (fun w' => Ext wr w') [(.pure, 0), (.pure, 1), (.pure, 2), (.pure, 3), (.pure, 4), (.read, 5), (.one, 6), (.pure, 7)] (by kernel_rfl) (by kernel_rfl) ?_
        have hC : Ext wr wr.drew := (Ext.refl wr).drew
        iterate 5 (apply scr_pure'; (· rfl); (· rfl); (· (intro w'; go_simp; try rfl)); (· (simp [go_sem]; try rfl)))
        (apply scr_read'; (· rfl); (· rfl); (· first | exact hC | exact (Ext.refl _).drew); (· (intro w' hw'; have q0_ := hw'.keep q0; have q1_ := hw'.keep q1; have q2_ := hw'.keep q2; have q3_ := hw'.keep q3; go_simp; try rfl)); (· (simp [go_sem]; try rfl)))
        refine scr_one rfl rfl (fun K hK => ?_)
        go_simp
        refine holeDescend_c ho (hhole.out.ext hC) hX'.out hGk'.out hd0.out hG2.out (ds := [d0, d1, d2, d3]) (kPe.mv hds'.out (hC.mv _)) hlen'.out _ ?_
        intro w' A' B' ctx' c vm' vc' ms' cs' hh2
        have hh2' := Lib.hid hh2
        refine hK _ _ (fun h => by simp at h) ?_
        clear hK hh2 hhole hns hold hds' q0 q1 q2 q3
        (apply scr_pure'; (· rfl); (· rfl); (· (intro w'; go_simp; try rfl)); (· (simp [go_sem]; try rfl)))
        refine scr_end ?_
        simp only [Exit.then]
        go_wp2_with fail
        refine ⟨⟨k + 1, m - 1, qcap - 1, A', B', ctx', c, vm', vc', ms', cs', rfl, ?_, by omega, by omega, by omega, hh2'⟩, ?_⟩
        · rw [Nat.succ_mul, ← Nat.add_assoc]
        · show m - 1 < m
          omega
end Go.Proofs.YtihapgangilncaaGreat
namespace Go.Proofs.YtihapgangilncaaGreat
open Go.RowKit
set_option linter.unusedSimpArgs false

set_option maxRecDepth 100000 in
set_option maxHeartbeats 4000000 in
theorem newSet_c {w : World} (R : Ending → World → Prop) (hR : ∀ w', Ext w w' → w'.heap[w.heap.size]? = some (.cells #[.slice none 0 0, .slice none 0 0] 126 (0, 0)) → R (.returned (.pointer (some ⟨w.heap.size, 0, none⟩))) w') :
    Calls Tryz.prog 113 #[.slice none 0 0] w R := by
  have hR' := Lib.hid hR
  clear hR
  go_enter Tryz.func113, Tryz.ntmps113
  go_wp2_with fail
  refine abs1 (G := fun wr => Code.wp _ _ _ _ wr) ?_
  intro w1 hE1 hb1 hs1
  have hb1' := Lib.hid hb1
  clear hb1 hs1
  go_loopw [5, 10] (fun _ i wr => i = .int .i64 0 ∧ wr = w1) (fun _ i _ => 0)
  case atStart => exact ⟨rfl, rfl⟩
  case round =>
    obtain ⟨rfl, rfl⟩ := hrel
    go_wp2_with fail
    exact hR'.out _ hE1 hb1'.out

theorem tree_len {β : Type} {G : PEl → Prop} (ho : Cmpr cmpPe G) {t : Tr β PEl} (hw : Tr.Wf cmpPe G t) {L : List (List PEl)} (hL : ∀ p ∈ L, GP G p) (hh : ∀ q, GP G q → (t.has cmpPe q ↔ ∃ p ∈ L, p ≠ [] ∧ wc cmpPe p q = 0)) : t.paths.length ≤ L.length :=
  pigeon (wc_ord ho) (Tr.paths_srt ho hw).dst (Tr.paths_good hw) hL fun x hx => by
    obtain ⟨p, hp, _, h0⟩ := (hh x (Tr.paths_good hw x hx)).1 ⟨x, hx, (wc_ord ho).self x⟩
    exact ⟨p, hp, h0⟩

set_option maxRecDepth 100000 in
set_option maxHeartbeats 8000000 in
set_option pp.maxSteps 1000000 in
set_option pp.deepTerms true in
theorem toSet_c {G : PEl → Prop} (ho : Cmpr cmpPe G) {w : World} {X : List Nat} {lv : Value} {l : List (List EL)} (hl : IsSl kPth 24 w X lv l) (hX : Old X w) (hG : ∀ p ∈ l, GP G (p.map toE)) (hbytes : (l.length + 1) * 40 ≤ 140737488351232) (R : Ending → World → Prop)
    (hR : ∀ w' (t : BT), Ext w w' → Store w' X (BT.flat t) → (∀ b ∈ bls (BT.flat t), w.heap.size ≤ b) → Tr.Wf cmpPe G t → (∀ q, GP G q → (Tr.has cmpPe t q ↔ ∃ p ∈ l.map (·.map toE), p ≠ [] ∧ wc cmpPe p q = 0)) → R (.returned (.pointer (some ⟨BT.b t, 0, none⟩))) w') :
    Calls Tryz.prog 58 #[lv] w R := by
  obtain ⟨o, c, b, off, rfl, l2, l3, l4, l5⟩ := id hl.ex
  have l4' := Lib.hid l4
  have l5' := Lib.hid l5
  have hX' := Lib.hid hX
  have hG' := Lib.hid hG
  have hR' := Lib.hid hR
  have hbytes' := Lib.hid hbytes
  have hlI : (l.length : Int) ≤ 140737488351232 := by omega
  clear hR hX hl l4 l5 hG hbytes l3
  go_enter Tryz.func58, Tryz.ntmps58
  go_wp2_with fail
  refine newSet_c _ ?_
  intro w1 hE1 hb1
  have hoX : w.heap.size ∉ X := fun h => by have := hX'.out _ h; omega
  have hst0 : Hid (Store w1 X (BT.flat (.mk (w.heap.size, .slice none 0 0, .slice none 0 0) [] []))) := Lib.hid (by
    rw [BT.flat_eq]
    exact Store.mk1 (n := ⟨w.heap.size, .slice none 0 0, .slice none 0 0, [], []⟩) hb1 (Row.nil _ _ _ _) (Row.nil _ _ _ _) hoX)
  have hwf0 : Hid (Tr.Wf cmpPe G (.mk (w.heap.size, .slice none 0 0, .slice none 0 0) [] [] : BT)) := Lib.hid (.mk (by simp [SrtC]) (by simp) (by simp [SrtC]) (by simp) (by simp) (by simp))
  have hhas0 : Hid (∀ q, GP G q → (Tr.has cmpPe (.mk (w.heap.size, .slice none 0 0, .slice none 0 0) [] [] : BT) q ↔ ∃ p ∈ (l.take 0).map (·.map toE), p ≠ [] ∧ wc cmpPe p q = 0)) := Lib.hid (fun q hq => by
    constructor
    · rintro ⟨z, hz, -⟩
      rw [Tr.paths_nil] at hz
      simp at hz
    · simp)
  have hbl0 : Hid (∀ b ∈ bls (BT.flat (.mk (w.heap.size, .slice none 0 0, .slice none 0 0) [] [])), w.heap.size ≤ b) := Lib.hid (fun b hb => by
    rw [BT.flat_eq] at hb
    simp [bls, Nd.bl, vb, Value.ownBlock, BT.flatL] at hb
    omega)
  clear hb1 hoX
  dsimp only
  go_wp2_with fail
  go_loopw [5, 9] (fun _ i wr => ∃ (k : Nat) (t : BT), k ≤ l.length ∧ i = .int .i64 k ∧ Ext w wr ∧ BT.b t = w.heap.size ∧ Hid (Store wr X (BT.flat t)) ∧ Hid (Tr.Wf cmpPe G t) ∧ Hid (∀ q, GP G q → (Tr.has cmpPe t q ↔ ∃ p ∈ (l.take k).map (·.map toE), p ≠ [] ∧ wc cmpPe p q = 0)) ∧ Hid (∀ b ∈ bls (BT.flat t), w.heap.size ≤ b)) (fun _ i _ => l.length - (intOf i).toNat)
  case atStart => exact ⟨0, _, Nat.zero_le _, rfl, hE1, rfl, hst0, hwf0, hhas0, hbl0⟩
  case round =>
    obtain ⟨k, t, hk, rfl, hEr, htb, hst, hwf, hhas, hbl⟩ := hrel
    rename World => wr
    clear hst0 hwf0 hhas0 hbl0
    by_cases hlt : k < l.length
    · obtain ⟨cs, hc, hcs⟩ := l5'.out k hlt
      obtain ⟨rfl, -⟩ := l4'.out (by omega)
      obtain ⟨pv, rfl, hpv⟩ := hcs
      have x0 := hEr.keep (hc 0 (by decide))
      simp only [show kPth.size = 1 from rfl, Nat.add_zero, Nat.mul_one, List.getElem?_cons_zero] at x0
      have hpo := hpv.one
      have hi1 : (k : Int) < (l.length : Int) := by omega
      have hkm : (k : Int) + 1 ≤ 9223372036854775807 := by omega
      have hGk := Lib.hid (hG'.out _ (List.getElem_mem hlt))
      have hpv' := Lib.hid (hpv.mv ((hEr.mv X).moreL (Z := bls (BT.flat t)) hbl.out) (by decide))
      obtain ⟨p, hp⟩ : ∃ p, l[k]'hlt = p := ⟨_, rfl⟩
      have htk := Lib.hid (show (l.take (k + 1)).map (·.map toE) = (l.take k).map (·.map toE) ++ [p.map toE] by rw [List.take_succ_eq_append_getElem hlt, List.map_append, hp]; rfl)
      rw [hp] at hGk hpv'
      have hkl : t.paths.length ≤ k := by
        have := tree_len ho hwf.out (L := (l.take k).map (·.map toE)) (fun x hx => by
          obtain ⟨e, he, rfl⟩ := List.mem_map.1 hx
          exact hG'.out e (List.mem_of_mem_take he)) hhas.out
        rw [List.length_map, List.length_take] at this
        omega
      have hkl' := Lib.hid hkl
      clear hc hpv hp hkl
      go_wp2_with fail
      refine toPath_c (X := bls (BT.flat t) ++ X) hpv'.out (fun b hb => ?_) _ ?_
      · rcases List.mem_append.1 hb with hb | hb
        · exact hst.out.lt b hb
        · exact Nat.lt_of_lt_of_le (hX'.out b hb) hEr.size
      intro w3 qv hE3 hq
      have hqo := hq.one
      have hq' := Lib.hid hq
      have hEw3 := Lib.hid (hEr.trans hE3)
      have hst3 := Lib.hid (hst.out.ext hE3)
      clear hq hE3 hst hEr
      dsimp only
      go_wp2_with fail
      rw [← htb]
      refine setInsert_c ho hst3.out hwf.out (hX'.out.le hEw3.out.size) hq'.out hGk.out (Nat.le_trans (Nat.mul_le_mul_right 40 (Nat.succ_le_succ (Nat.le_trans hkl'.out (Nat.le_of_lt hlt)))) hbytes'.out) _ ?_ ?_
      · intro hpe w4 hE4
        have hr : Hid (∀ q, GP G q → (Tr.has cmpPe t q ↔ ∃ p ∈ (l.take (k + 1)).map (·.map toE), p ≠ [] ∧ wc cmpPe p q = 0)) := Lib.hid (fun q hq => by
          rw [hhas.out q hq, htk.out, hpe]
          simp [or_and_right, exists_or])
        have hst4 := Lib.hid (hst3.out.ext hE4)
        have hEw4 := Lib.hid (hEw3.out.trans hE4)
        clear hpe hE4
        rw [htb]
        dsimp only
        go_wp2_with fail
        go_roundw
        case rel => exact ⟨k + 1, t, by omega, by go_num, hEw4.out, htb, hst4, hwf, hr, hbl⟩
        case measure => simp [intOf]; omega
      · intro hpe w4 t4 ht4
        have hr : Hid (∀ q, GP G q → (Tr.has cmpPe t4 q ↔ ∃ p ∈ (l.take (k + 1)).map (·.map toE), p ≠ [] ∧ wc cmpPe p q = 0)) := Lib.hid (fun q hq => by
          rw [ht4.has q hq, hhas.out q hq, htk.out]
          simp only [List.mem_append, List.mem_singleton, or_and_right, exists_or, exists_eq_left]
          simp [hpe])
        have hst4 := Lib.hid ht4.st
        have hwf4 := Lib.hid ht4.wf
        have hEw4 := Lib.hid (hEw3.out.mutated ht4.mu hbl.out)
        have hbl4 : Hid (∀ b ∈ bls (BT.flat t4), w.heap.size ≤ b) := Lib.hid (fun b hb => (ht4.bl b hb).elim (hbl.out b) (fun h => Nat.le_trans hEw3.out.size h))
        have htb4 : BT.b t4 = w.heap.size := ht4.b.trans htb
        clear hpe ht4
        rw [htb]
        dsimp only
        go_wp2_with fail
        go_roundw
        case rel => exact ⟨k + 1, t4, by omega, by go_num, hEw4.out, htb4, hst4, hwf4, hr, hbl4⟩
        case measure => simp [intOf]; omega
    · have ek : k = l.length := by omega
      subst ek
      have hi1 : ¬ (l.length : Int) < (l.length : Int) := by omega
      have hfin := hhas.out
      rw [List.take_of_length_le (Nat.le_refl _)] at hfin
      have hfin' := Lib.hid hfin
      clear hfin hhas
      go_wp2_with fail
      rw [← htb]
      exact hR'.out wr t hEr hst.out hbl.out hwf.out hfin'.out
end Go.Proofs.YtihapgangilncaaGreat
