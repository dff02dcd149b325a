/- A place within a set that a path is being put into (plain). impl.fromSet: the list of a set's paths. -/
import Derived.Test.YtihapgangilncaaGreatKDDescend
import Derived.Test.YtihapgangilncaaGreatKDIterP
import Derived.Test.YtihapgangilncaaGreatKDBSearchN
namespace Go.Proofs.YtihapgangilncaaGreat
open Go.RowKit
set_option linter.unusedSimpArgs false

/-- t has become t', which has the path p besides -/
structure PutIn (G : PEl → Prop) (X : List Nat) (t : BT) (p : List PEl) (w w' : World) (t' : BT) : Prop where
  st : Store w' X (BT.flat t')
  wf : Tr.Wf cmpPe G t'
  b : BT.b t' = BT.b t
  has : ∀ q, GP G q → (Tr.has cmpPe t' q ↔ Tr.has cmpPe t q ∨ wc cmpPe p q = 0)
  mu : Mut w (bls (BT.flat t)) w'
  bl : ∀ b ∈ bls (BT.flat t'), b ∈ bls (BT.flat t) ∨ w.heap.size ≤ b

structure Hole (G : PEl → Prop) (X : List Nat) (t : BT) (p : List PEl) (w wr : World) (A B : List Nd) (ctx : BT → BT) (u : BT) (p' : List PEl) : Prop where
  st : Store wr X (A ++ BT.flat u ++ B)
  mu : Mut w (bls (BT.flat t)) wr
  bl : ∀ b ∈ bls (A ++ BT.flat u ++ B), b ∈ bls (BT.flat t) ∨ w.heap.size ≤ b
  cx : ∀ u', BT.b u' = BT.b u → BT.flat (ctx u') = A ++ BT.flat u' ++ B ∧ BT.b (ctx u') = BT.b t
  wf : Tr.Wf cmpPe G u
  has : ∀ u', Tr.Wf cmpPe G u' → (∀ q, GP G q → (Tr.has cmpPe u' q ↔ Tr.has cmpPe u q ∨ wc cmpPe p' q = 0)) → Tr.Wf cmpPe G (ctx u') ∧ ∀ q, GP G q → (Tr.has cmpPe (ctx u') q ↔ Tr.has cmpPe t q ∨ wc cmpPe p q = 0)
  len : u.paths.length ≤ t.paths.length

theorem Hole.start {G : PEl → Prop} {X : List Nat} {t : BT} {p : List PEl} {w : World} (hs : Store w X (BT.flat t)) (hw : Tr.Wf cmpPe G t) : Hole G X t p w w [] [] id t p :=
  ⟨by simpa using hs, (Ext.refl w).mut _, fun b hb => .inl (by simpa using hb), fun u' h => ⟨by simp, h⟩, hw, fun u' h1 h2 => ⟨h1, h2⟩, Nat.le_refl _⟩

section
variable {G : PEl → Prop} {X : List Nat} {t : BT} {p : List PEl} {w wr : World} {A B : List Nd} {ctx : BT → BT} {b : Nat} {vm vc : Value} {ms : List PEl} {cs : List (PEl × BT)} {p' : List PEl}
theorem Hole.node_eq : A ++ BT.flat (.mk (b, vm, vc) ms cs) ++ B = A ++ [⟨b, vm, vc, ms, ksOf cs⟩] ++ (BT.flatL cs ++ B) := by rw [BT.flat_eq]; simp
theorem Hole.node (h : Hole G X t p w wr A B ctx (.mk (b, vm, vc) ms cs) p') : Store wr (bls (A ++ (BT.flatL cs ++ B)) ++ X) [⟨b, vm, vc, ms, ksOf cs⟩] := by
  have h1 := h.st
  rw [Hole.node_eq] at h1
  exact h1.part
theorem Hole.sub (h : Hole G X t p w wr A B ctx (.mk (b, vm, vc) ms cs) p') : ∀ g ∈ Nd.bl ⟨b, vm, vc, ms, ksOf cs⟩ ++ bls (A ++ (BT.flatL cs ++ B)), g ∈ bls (BT.flat t) ∨ w.heap.size ≤ g := fun g hg => by
  refine h.bl g ?_
  rw [Hole.node_eq]
  simp only [bls_app, List.mem_append, bls, List.flatMap_cons, List.flatMap_nil, List.append_nil] at hg ⊢
  rcases hg with hg | hg | hg | hg
  · exact .inl (.inr hg)
  · exact .inl (.inl hg)
  · exact .inr (.inl hg)
  · exact .inr (.inr hg)
theorem Hole.mvd (h : Hole G X t p w wr A B ctx (.mk (b, vm, vc) ms cs) p') : Mv w (bls (BT.flat t) ++ X) wr (Nd.bl ⟨b, vm, vc, ms, ksOf cs⟩ ++ (bls (A ++ (BT.flatL cs ++ B)) ++ X)) := ⟨h.mu.size, fun k hk hx => by
  simp only [List.mem_append, not_or] at hx
  refine ⟨h.mu.block k hk hx.1, fun hy => ?_⟩
  rw [← List.append_assoc] at hy
  rcases List.mem_append.1 hy with hy | hy
  · rcases h.sub k hy with h | h
    · exact hx.1 h
    · omega
  · exact hx.2 hy⟩
theorem Hole.old (h : Hole G X t p w wr A B ctx (.mk (b, vm, vc) ms cs) p') (hX : Old X w) : Old (bls (A ++ (BT.flatL cs ++ B)) ++ X) wr := fun g hg => by
  rcases List.mem_append.1 hg with hg | hg
  · refine h.st.lt g ?_
    rw [Hole.node_eq]
    simp only [bls_app, List.mem_append] at hg ⊢
    rcases hg with hg | hg | hg
    · exact .inl (.inl hg)
    · exact .inr (.inl hg)
    · exact .inr (.inr hg)
  · exact Nat.lt_of_lt_of_le (hX g hg) h.mu.size
/-- what a change of the node leaves -/
theorem Hole.change (h : Hole G X t p w wr A B ctx (.mk (b, vm, vc) ms cs) p') {w' : World} {N' : List Nd} (hM : Mut wr (Nd.bl ⟨b, vm, vc, ms, ksOf cs⟩) w') (hs : Store w' (bls (A ++ (BT.flatL cs ++ B)) ++ X) N') (hN : ∀ g ∈ bls N', g ∈ Nd.bl ⟨b, vm, vc, ms, ksOf cs⟩ ∨ wr.heap.size ≤ g) :
    Store w' X (A ++ N' ++ (BT.flatL cs ++ B)) ∧ Mut w (bls (BT.flat t)) w' ∧ ∀ g ∈ bls (A ++ N' ++ (BT.flatL cs ++ B)), g ∈ bls (BT.flat t) ∨ w.heap.size ≤ g := by
  have h1 := h.st
  rw [Hole.node_eq] at h1
  refine ⟨h1.join (N := [⟨b, vm, vc, ms, ksOf cs⟩]) (by simpa [bls] using hM) hs (by simpa [bls] using hN), h.mu.thenNew hM fun k hk => h.sub k (by simp [hk]), fun g hg => ?_⟩
  simp only [bls_app, List.mem_append] at hg
  rcases hg with (hg | hg) | hg | hg
  · exact h.sub g (by simp only [bls_app, List.mem_append]; exact .inr (.inl hg))
  · rcases hN g hg with h1 | h1
    · exact h.sub g (by simp [h1])
    · exact .inr (Nat.le_trans h.mu.size h1)
  · exact h.sub g (by simp only [bls_app, List.mem_append]; exact .inr (.inr (.inl hg)))
  · exact h.sub g (by simp only [bls_app, List.mem_append]; exact .inr (.inr (.inr hg)))
theorem Hole.member (ho : Cmpr cmpPe G) {e : PEl} (h : Hole G X t p w wr A B ctx (.mk (b, vm, vc) ms cs) [e]) (he : G e) {w' : World} {vm' : Value} (hM : Mut wr (Nd.bl ⟨b, vm, vc, ms, ksOf cs⟩) w') (hs : Store w' (bls (A ++ (BT.flatL cs ++ B)) ++ X) [⟨b, vm', vc, insC cmpPe ms e, ksOf cs⟩]) (hN : ∀ g ∈ vb vm', g ∈ vb vm ∨ wr.heap.size ≤ g) :
    ∃ t', PutIn G X t p w w' t' := by
  obtain ⟨h1, h2, h3⟩ := h.change hM hs (fun g hg => by
    simp only [bls, List.flatMap_cons, List.flatMap_nil, List.append_nil, Nd.bl, List.mem_cons, List.mem_append] at hg ⊢
    rcases hg with hg | hg | hg
    · exact .inl (.inl hg)
    · exact (hN g hg).imp (fun h => .inr (.inl h)) id
    · exact .inl (.inr (.inr hg)))
  have hc := h.cx (.mk (b, vm', vc) (insC cmpPe ms e) cs) rfl
  have hm := Tr.wf_member ho (t' := (b, vm', vc)) h.wf he
  have hw := h.has _ hm.1 hm.2
  rw [Hole.node_eq] at hc
  exact ⟨ctx (.mk (b, vm', vc) (insC cmpPe ms e) cs), by rw [hc.1]; exact h1, hw.1, hc.2, hw.2, h2, by rw [hc.1]; exact h3⟩
theorem Tr.paths_nil {β α : Type} (t : β) : (Tr.mk t [] [] : Tr β α).paths = [] := by rw [Tr.paths_eq]; rfl
theorem kid_len {s : BT} {x : PEl} {C1 C2 : List (PEl × BT)} {t0 : Nat × Value × Value} : s.paths.length ≤ (Tr.mk t0 ms (C1 ++ (x, s) :: C2)).paths.length := by
  rw [Tr.paths_eq (.mk t0 ms (C1 ++ (x, s) :: C2))]
  simp only [Tr.ms, Tr.cs, List.length_append, List.flatMap_append, List.flatMap_cons, List.length_map]
  omega
theorem Hole.found (ho : Cmpr cmpPe G) {e x : PEl} {p2 : List PEl} {C1 C2 : List (PEl × BT)} {s : BT} (h : Hole G X t p w wr A B ctx (.mk (b, vm, vc) ms (C1 ++ (x, s) :: C2)) (e :: p2)) (he : G e) (hp : p2 ≠ []) (hG : GP G p2) (hx : cmpPe x e = 0) {w' : World} (hE : Ext wr w') :
    Hole G X t p w w' (A ++ ⟨b, vm, vc, ms, ksOf (C1 ++ (x, s) :: C2)⟩ :: BT.flatL C1) (BT.flatL C2 ++ B) (fun s' => ctx (.mk (b, vm, vc) ms (C1 ++ (x, s') :: C2))) s p2 := by
  have e1 : ∀ s' : BT, BT.b s' = BT.b s → A ++ BT.flat (.mk (b, vm, vc) ms (C1 ++ (x, s') :: C2)) ++ B = (A ++ ⟨b, vm, vc, ms, ksOf (C1 ++ (x, s) :: C2)⟩ :: BT.flatL C1) ++ BT.flat s' ++ (BT.flatL C2 ++ B) := fun s' hs' => by
    rw [BT.flat_eq, BT.flatL_mid]
    simp [ksOf, hs']
  refine ⟨?_, h.mu.thenNew (hE.mut []) (by simp), ?_, fun s' hs' => ?_, ?_, fun s' h1 h2 => ?_, ?_⟩
  · rw [← e1 s rfl]; exact h.st.ext hE
  · rw [← e1 s rfl]; exact h.bl
  · have := h.cx (.mk (b, vm, vc) ms (C1 ++ (x, s') :: C2)) rfl
    rw [e1 s' hs'] at this
    exact this
  · have := h.wf
    cases this with
    | mk _ _ _ _ _ h6 => exact h6 (x, s) (by simp)
  · have hb := Tr.wf_below ho (t' := (b, vm, vc)) h.wf he hx hp hG h1 h2
    exact h.has _ hb.1 hb.2
  · exact Nat.le_trans kid_len h.len
theorem Hole.new (ho : Cmpr cmpPe G) {e : PEl} {p2 : List PEl} {C1 C2 : List (PEl × BT)} (h : Hole G X t p w wr A B ctx (.mk (b, vm, vc) ms (C1 ++ C2)) (e :: p2)) (he : G e) (hp : p2 ≠ []) (hG : GP G p2) (h1 : ∀ y ∈ C1, cmpPe y.1 e < 0) (h2 : ∀ y ∈ C2, cmpPe e y.1 < 0) {w' : World} {vc' : Value} {c : Nat}
    (hM : Mut wr (Nd.bl ⟨b, vm, vc, ms, ksOf (C1 ++ C2)⟩) w') (hs : Store w' (bls (A ++ (BT.flatL (C1 ++ C2) ++ B)) ++ X) [⟨b, vm, vc', ms, ksOf C1 ++ (e, c) :: ksOf C2⟩, ⟨c, .slice none 0 0, .slice none 0 0, [], []⟩]) (hN : ∀ g ∈ vb vc', g ∈ Nd.bl ⟨b, vm, vc, ms, ksOf (C1 ++ C2)⟩ ∨ wr.heap.size ≤ g) (hc : wr.heap.size ≤ c) :
    Hole G X t p w w' (A ++ ⟨b, vm, vc', ms, ksOf C1 ++ (e, c) :: ksOf C2⟩ :: BT.flatL C1) (BT.flatL C2 ++ B) (fun s' => ctx (.mk (b, vm, vc') ms (C1 ++ (e, s') :: C2))) (.mk (c, .slice none 0 0, .slice none 0 0) [] []) p2 := by
  obtain ⟨g1, g2, g3⟩ := h.change hM hs (fun g hg => by
    simp only [bls, List.flatMap_cons, List.flatMap_nil, List.append_nil, Nd.bl, List.mem_cons, List.mem_append, vb, Value.ownBlock, Option.toList_none, List.not_mem_nil, or_false] at hg hN ⊢
    rcases hg with (hg | hg | hg) | hg
    · exact .inl (.inl hg)
    · exact .inl (.inr (.inl hg))
    · exact hN g hg
    · exact .inr (hg ▸ hc))
  have e1 : ∀ s' : BT, BT.b s' = c → A ++ BT.flat (.mk (b, vm, vc') ms (C1 ++ (e, s') :: C2)) ++ B = (A ++ ⟨b, vm, vc', ms, ksOf C1 ++ (e, c) :: ksOf C2⟩ :: BT.flatL C1) ++ BT.flat s' ++ (BT.flatL C2 ++ B) := fun s' hs' => by
    rw [BT.flat_eq, BT.flatL_mid]
    simp [ksOf, hs']
  have pm : (A ++ [(⟨b, vm, vc', ms, ksOf C1 ++ (e, c) :: ksOf C2⟩ : Nd), ⟨c, .slice none 0 0, .slice none 0 0, [], []⟩] ++ (BT.flatL (C1 ++ C2) ++ B)).Perm ((A ++ ⟨b, vm, vc', ms, ksOf C1 ++ (e, c) :: ksOf C2⟩ :: BT.flatL C1) ++ BT.flat (.mk (c, .slice none 0 0, .slice none 0 0) [] []) ++ (BT.flatL C2 ++ B)) := by
    rw [BT.flat_eq, BT.flatL_app]
    simp only [List.append_assoc, List.cons_append, List.nil_append, BT.flatL, ksOf, List.map_nil]
    refine List.Perm.append_left _ (List.Perm.cons _ ?_)
    rw [← List.cons_append]
    exact List.perm_middle.symm
  refine ⟨g1.perm pm, g2, fun g hg => ?_, fun s' hs' => ?_, .mk (by simp [SrtC]) (by simp) (by simp [SrtC]) (by simp) (by simp) (by simp), fun s' k1 k2 => ?_, ?_⟩
  · exact g3 g ((pm.flatMap_right Nd.bl).mem_iff.2 hg)
  · have := h.cx (.mk (b, vm, vc') ms (C1 ++ (e, s') :: C2)) rfl
    rw [e1 s' hs'] at this
    exact this
  · have hb := Tr.wf_new ho (t' := (b, vm, vc')) (s' := s') h.wf he h1 h2 hp hG k1 (fun q hq => by
      rw [k2 q hq]
      constructor
      · rintro (hh | hh)
        · obtain ⟨z, hz, -⟩ := hh
          rw [Tr.paths_nil] at hz
          simp at hz
        · exact hh
      · exact .inr)
    exact h.has _ hb.1 hb.2
  · rw [Tr.paths_nil]; simp
end
end Go.Proofs.YtihapgangilncaaGreat
namespace Go.Proofs.YtihapgangilncaaGreat
open Go.RowKit
set_option linter.unusedSimpArgs false

theorem Tryz.info24 : (Tryz.prog.info? 24).map (fun i => (i.zero, i.size, i.bytes)) = some (some (.slice none 0 0), 1, 24) := by kernel_rfl

set_option maxRecDepth 100000 in
theorem callFunc_fs1 (args : Array Value) (w : World) : (callFunc 111 args).run Tryz.prog w = .ok (.enter 111 args) w := rfl

set_option maxRecDepth 100000 in
set_option maxHeartbeats 4000000 in
set_option pp.maxSteps 1000000 in
set_option pp.deepTerms true in
theorem fs1_c {w : World} {X : List Nat} {ob : Nat} {v pv : Value} {us : List (List EL)} {p : List PEl} (hb : w.heap[ob]? = some (.cells #[v] 24 (0, 0))) (hrow : Row kPth 22 w (ob :: X) v us) (hX : Old (ob :: X) w) (hp : SlE kPe 32 w (vb v ++ ob :: X) pv p) (hs : ∀ e ∈ p, SmallPe e)
    (hbp : p.length * 168 ≤ 140737488351232) (hbytes : (us.length + 1) * 24 ≤ 140737488351232) (R : Ending → World → Prop)
    (hR : ∀ w' v', w'.heap[ob]? = some (.cells #[v'] 24 (0, 0)) → Row kPth 22 w' (ob :: X) v' (us ++ [p.map backE]) → Mut w (ob :: vb v) w' → (∀ g, v'.ownBlock = some g → v.ownBlock = some g ∨ w.heap.size ≤ g) → R (.returned (.tuple #[])) w') :
    Calls Tryz.prog 111 #[pv, .pointer (some ⟨ob, 0, none⟩)] w R := by
  have hob := (Array.getElem?_eq_some_iff.1 hb).1
  have p0 : w.cell? ⟨ob, 0, none⟩ = some v := cells_of hb 0
  have hvo := hrow.one
  have hpo := hp.one
  have hR' := Lib.hid hR
  have hX' := Lib.hid hX
  have hp' := Lib.hid hp
  have hb' := Lib.hid hb
  have hrow' := Lib.hid hrow
  have hbytes' := Lib.hid hbytes
  have hbp' := Lib.hid hbp
  have hs' := Lib.hid hs
  clear hR hX hp hb hrow hbytes hbp hs
  go_enter Tryz.func111, Tryz.ntmps111
  go_wp2_with fail
  refine wp_region_script [0, 1] [2, 3] (fun w' => Ext w w') [(.read, 0), (.pure, 1), (.one, 2), (.one, 3), (.one, 4), (.one, 5)] (by kernel_rfl) (by kernel_rfl) ?_
  have hC : Ext w w.drew := (Ext.refl _).drew
  (apply scr_read'; (· rfl); (· rfl); (· first | exact hC | exact (Ext.refl _).drew); (· (intro w' hw'; have p0_ := hw'.keep p0; go_simp; try rfl)); (· (simp [go_sem]; try rfl)))
  (apply scr_pure'; (· rfl); (· rfl); (· (intro w'; go_simp; try rfl)); (· (simp [go_sem]; try rfl)))
  refine scr_one rfl rfl (fun K hK => ?_)
  go_simp
  have hEd := Lib.hid hC
  refine fromPath_c (X := vb v ++ ob :: X) (hp'.out.ext hEd.out) ((hrow'.out.ext hEd.out).old (hX'.out.le hEd.out.size)) hs'.out hbp'.out _ ?_
  intro w3 dv hE3 hds
  have hds' := Lib.hid hds
  obtain ⟨dO, dC, -, -, hdv, -⟩ := id hds.ex
  rw [List.length_map] at hdv
  subst hdv
  have hE13 := Lib.hid (hEd.out.trans hE3)
  have hEw3 := Lib.hid (hEd.out.trans hE3)
  clear hds hE3
  refine hK _ _ (fun _ => hE13.out) ?_
  clear hK
  refine scr_one rfl rfl (fun K hK => ?_)
  go_simp
  refine hK _ _ (fun _ => hE13.out.push _) ?_
  clear hK
  refine scr_one rfl rfl (fun K hK => ?_)
  refine wp_rowApp (c := #[.slice dO p.length dC]) hrow'.out hEw3.out (hX'.out.le hEw3.out.size) ⟨_, rfl, hds'.out⟩ _ _ _ rfl Tryz.underlying24 Tryz.info22 rfl (by decide) (by go_simp) (by go_simp) (Nat.le_trans hbytes'.out (by decide)) (by rw [maxLen_eq]; have := hbytes'.out; omega) ?_
  intro v' w4 hr4 hg4 hne4 hd4
  have hvo4 := hr4.one
  have hr4' := Lib.hid hr4
  have hg4' := Lib.hid hg4
  have hd4' := Lib.hid hd4
  clear hr4 hg4 hne4 hd4
  refine hK _ _ (fun h => by simp at h) ?_
  clear hK
  have hb4 := Lib.hid ((hg4'.out.block ob (Nat.lt_of_lt_of_le hob hEw3.out.size) (hrow'.out.notin (by simp))).trans ((hEw3.out.below.block _ hob).trans hb'.out))
  refine scr_one rfl rfl (fun K hK => ?_)
  refine wp_storeC (new := #[v']) (b := ob) (off := 0) 24 _ _ rfl Tryz.info24 (by go_simp) (by go_simp) hvo4 hb4.out (by simp) rfl ?_
  intro w5 h5 g5
  have h5' := Lib.hid h5
  have g5' := Lib.hid g5
  clear h5 g5
  refine hK _ _ (fun h => by simp at h) ?_
  clear hK
  refine scr_end ?_
  refine bodyPost_end (by simp [results, Tryz.results111, go_sem]) rfl (hR'.out w5 v' h5'.out (hr4'.out.keep g5'.out (by simp)) (ins_mut hEw3.out hg4'.out g5'.out) (fun g h => (hd4'.out g h).imp id (fun e => Nat.le_trans hEw3.out.size e)))

/-- how far the list has come -/
def FsInv (ob base : Nat) (L : List (List EL)) (k : Nat) (O Z : List Nat) (w : World) : Prop :=
  ∃ v, O = ob :: vb v ∧ w.heap[ob]? = some (.cells #[v] 24 (0, 0)) ∧ Row kPth 22 w (ob :: Z) v (L.take k) ∧ (∀ g ∈ vb v, base ≤ g) ∧ ob ∉ Z ∧ base ≤ w.heap.size

theorem fs_visit {G : PEl → Prop} {s : St} (ob : Nat) (hsm : ∀ x, G x → SmallPe x) (hwf : Tr.Wf cmpPe G s) (hb1 : ∀ q ∈ s.paths, q.length * 168 ≤ 140737488351232) (hb2 : (s.paths.length + 1) * 24 ≤ 140737488351232) :
    PVisit 111 #[.pointer (some ⟨ob, 0, none⟩)] (FsInv ob ob (s.paths.map (·.map backE))) s.paths := by
  refine ⟨callFunc_fs1, ?_, ?_, ?_⟩
  · rintro k O Z w ⟨v, rfl, h1, h2, -⟩ b hb
    rcases List.mem_cons.1 hb with rfl | hb
    · exact (Array.getElem?_eq_some_iff.1 h1).1
    · exact h2.lt (by simpa [vb] using hb)
  · rintro k O Z Z' w w' B ⟨v, rfl, h1, h2, h3, h4, h6⟩ hM hB hZ
    have hob := (Array.getElem?_eq_some_iff.1 h1).1
    exact ⟨v, rfl, (hM.block ob hob (fun h => h4 (hB _ h))).trans h1, h2.mutd hM (fun b hb => List.mem_cons_of_mem _ (hB b hb)) (fun b hb => by
      rcases List.mem_cons.1 hb with rfl | hb
      · exact .inl (by simp)
      · exact (hZ b hb).imp (List.mem_cons_of_mem _) id), h3, fun h => (hZ ob h).elim h4 (fun h => by omega), Nat.le_trans h6 hM.size⟩
  · rintro k O Z w v p hpk hpl ⟨r, rfl, h1, h2, h3, h4, h6⟩ hZ hrow K hK
    obtain ⟨hk, rfl⟩ := List.getElem?_eq_some_iff.1 hpk
    have hob := (Array.getElem?_eq_some_iff.1 h1).1
    have hmem := List.getElem_mem hk
    have hlk : ((s.paths.map (·.map backE)).take k).length = k := by rw [List.length_take, List.length_map]; omega
    refine fs1_c (X := vb v ++ Z) h1 h2 (fun b hb => ?_) ((hrow.slE hpl).less fun b hb => ?_) (fun e he => hsm _ (Tr.paths_good hwf _ hmem e he)) (hb1 _ hmem) (by rw [hlk]; have := hb2; omega) _ ?_
    · rcases List.mem_cons.1 hb with rfl | hb
      · exact hob
      · rcases List.mem_append.1 hb with hb | hb
        · exact hrow.lt (by simpa [vb] using hb)
        · exact hZ b hb
    · simp only [List.mem_append, List.mem_cons] at hb ⊢
      rcases hb with hb | hb | hb | hb
      · exact .inr (.inl (.inr hb))
      · exact .inr (.inl (.inl hb))
      · exact .inl hb
      · exact .inr (.inr hb)
    intro w' v' k1 k2 k3 k4
    refine hK w' (ob :: vb v') k3 (fun b hb => ?_) ⟨v', rfl, k1, ?_, fun g hg => ?_, h4, Nat.le_trans h6 k3.size⟩
    · rcases List.mem_cons.1 hb with rfl | hb
      · exact .inl (by simp)
      · exact (k4 b (by simpa [vb] using hb)).imp (fun h => by simp [vb, h]) id
    · rw [List.take_succ_eq_append_getElem (by simpa using hk), List.getElem_map]
      exact k2
    · rcases k4 g (by simpa [vb] using hg) with h | h
      · exact h3 g (by simp [vb, h])
      · exact Nat.le_trans h6 h

set_option maxRecDepth 100000 in
set_option maxHeartbeats 4000000 in
set_option pp.maxSteps 1000000 in
set_option pp.deepTerms true in
theorem setIterate_c {F : FuncId} {cap : Array Value} {Inv : Nat → List Nat → List Nat → World → Prop} {ps : List (List PEl)} (hV : PVisit F cap Inv ps) {d : Nat} {w : World} {O Z : List Nat} {sv : Value} {s : St} {G : PEl → Prop} (hs : (kSt d).is w (O ++ Z) [sv] s) (hwf : Tr.Wf cmpPe G s) (hZ : Old Z w) (hinv : Inv 0 O Z w) (hps : ps = s.paths)
    (hbytes : ∀ q ∈ s.paths, q.length * 32 ≤ 140737488351232) (R : Ending → World → Prop) (hR : ∀ w' O', Mut w O w' → Inv s.paths.length O' Z w' → R (.returned (.tuple #[])) w') :
    Calls Tryz.prog 110 #[sv, .func (.func F) #[] cap] w R := by
  have hso : sv.oneCell' = true := (kSt d).one hs sv (by simp)
  have hO := hV.old hinv
  have hV' := Lib.hid hV
  have hs' := Lib.hid hs
  have hwf' := Lib.hid hwf
  have hZ' := Lib.hid hZ
  have hinv' := Lib.hid hinv
  have hps' := Lib.hid hps
  have hbytes' := Lib.hid hbytes
  have hR' := Lib.hid hR
  have hO' := Lib.hid hO
  clear hV hs hwf hZ hinv hps hbytes hR hO
  go_enter Tryz.func110, Tryz.ntmps110
  go_wp2_with fail
  refine abs1 (G := fun wr => Calls _ _ _ wr _) ?_
  intro w1 hE1 hb1 hs1
  have hpr : Row kPe 89 w1 (O ++ Z) (.slice (some ⟨w.heap.size, 0, none⟩) 0 0) [] := Row.made hb1 (fun h => by
    rcases List.mem_append.1 h with h | h
    · have := hO'.out _ h; omega
    · have := hZ'.out _ h; omega)
  refine itp_all hV'.out d (O := O) (Z := Z) (pre := []) (pv := .slice (some ⟨w.heap.size, 0, none⟩) 0 0) ((kSt d).mv hs'.out ((hE1.mv _).more (Nat.le_refl _))) hwf'.out hpr (hZ'.out.le hE1.size) (hV'.out.grow hinv'.out (hE1.mut []) (by simp) (fun b hb => by
    rcases List.mem_append.1 hb with hb | hb
    · exact .inr (by simp [vb, Value.ownBlock] at hb; omega)
    · exact .inl hb)) ⟨[], [], by rw [hps'.out]; simp, rfl⟩ (fun q hq => by simpa using hbytes'.out q hq) _ ?_
  intro w2 O2 hM hO2 hi2 _
  have hM2 := Lib.hid ((hE1.mut O).thenNew hM (fun b hb => by
    rcases List.mem_append.1 hb with hb | hb
    · exact .inr (by simp [vb, Value.ownBlock] at hb; omega)
    · exact .inl hb))
  have hi2' := Lib.hid (hV'.out.grow (Z' := Z) hi2 ((Ext.refl w2).mut []) (by simp) (fun b hb => .inl (List.mem_append_right _ hb)))
  rw [Nat.zero_add] at hi2'
  clear hM hO2 hi2 hpr hb1 hs1
  dsimp only
  go_wp2_with fail
  exact bodyPost_end (by simp [results, Tryz.results110, go_sem]) rfl (hR'.out w2 O2 hM2.out hi2'.out)

set_option maxRecDepth 100000 in
set_option maxHeartbeats 4000000 in
set_option pp.maxSteps 1000000 in
set_option pp.deepTerms true in
theorem fromSet_c {G : PEl → Prop} {d : Nat} {w : World} {X : List Nat} {sv : Value} {s : St} (hs : (kSt d).is w X [sv] s) (hwf : Tr.Wf cmpPe G s) (hX : Old X w) (hsm : ∀ x, G x → SmallPe x) (hb1 : ∀ q ∈ s.paths, q.length * 168 ≤ 140737488351232) (hb2 : (s.paths.length + 1) * 24 ≤ 140737488351232)
    (R : Ending → World → Prop) (hR : ∀ w' v', Ext w w' → IsSl kPth 24 w' X v' (s.paths.map (·.map backE)) → R (.returned v') w') :
    Calls Tryz.prog 57 #[sv] w R := by
  have hmf : ∀ (fn : Fn) (first cap : Array Value) (w : World), (Instr.makeFunc fn first cap).run Tryz.prog w = .ok (.func fn first cap) w := fun _ _ _ _ => rfl
  have hso : sv.oneCell' = true := (kSt d).one hs sv (by simp)
  have hs' := Lib.hid hs
  have hX' := Lib.hid hX
  have hsm' := Lib.hid hsm
  have hwf' := Lib.hid hwf
  have hb1' := Lib.hid hb1
  have hb2' := Lib.hid hb2
  have hR' := Lib.hid hR
  clear hs hX hsm hb1 hb2 hR hwf
  go_enter Tryz.func57, Tryz.ntmps57
  go_wp2_with fail
  refine abs1 (G := fun wr => Calls _ _ _ wr _) ?_
  intro w1 hE1 hb1 hs1
  have hob := (Array.getElem?_eq_some_iff.1 hb1).1
  have hoX : w.heap.size ∉ X := fun h => by have := hX'.out _ h; omega
  refine setIterate_c (Z := X) (O := [w.heap.size]) (G := G) (Inv := FsInv w.heap.size w.heap.size (s.paths.map (·.map backE))) (ps := s.paths) (fs_visit (G := G) (w.heap.size) hsm'.out hwf'.out hb1'.out hb2'.out) ((kSt d).mv hs'.out ((hE1.mv X).more (Nat.le_refl _))) hwf'.out (hX'.out.le hE1.size) ⟨.slice none 0 0, by simp [vb, Value.ownBlock], hb1, Row.nil _ _ _ _, by simp [vb, Value.ownBlock], hoX, hE1.size⟩ rfl (fun q hq => by have := hb1'.out q hq; omega) _ ?_
  rintro w2 O2 hM2 ⟨v, -, h1, h2, h3, -, -⟩
  rw [List.take_of_length_le (by simp)] at h2
  have hvo := h2.one
  have c0 := cells_of h1 0
  simp only [List.getElem?_toArray, List.getElem?_cons_zero] at c0
  have h2' := Lib.hid h2
  have hE2 := Lib.hid (hE1.mutated hM2 (fun k hk => by rw [List.mem_singleton.1 hk]; exact Nat.le_refl _))
  clear h1 h2 h3 hmf hM2
  dsimp only
  go_wp2_with fail
  exact hR'.out w2 v hE2.out ((h2'.out.less (fun b hb => List.mem_cons_of_mem _ hb)).isSl (by rw [List.length_map]; have := hb2'.out; omega))
end Go.Proofs.YtihapgangilncaaGreat
