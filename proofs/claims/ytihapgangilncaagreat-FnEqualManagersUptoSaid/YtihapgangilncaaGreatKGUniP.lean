/- impl.fromPath and spec.CleanPath (printed by gen_pathsc.py). A place within a set that a path is being put into (plain). Unions and intersections of sets of paths (plain). Set.Iterate: a function value called with each path of a set. impl.fromSet: the list of a set's paths. Two lists in order merged side by side (plain); the tail of a slice. -/
import Derived.Test.YtihapgangilncaaGreatKGFromS
import Derived.Test.YtihapgangilncaaGreatKGDescend
import Derived.Test.YtihapgangilncaaGreatKGSetL
import Derived.Test.YtihapgangilncaaGreatKGBSearchN
namespace Go.Proofs.YtihapgangilncaaGreat
open Go.RowKit
set_option linter.unusedSimpArgs false

/-- a slice whose elements keep clear of X, wherever it stands itself -/
def SlE {α : Type} (k : Kind α) (bytes : Nat) (w : World) (X : List Nat) (v : Value) (us : List α) : Prop := ∃ o c b off, v = .slice o us.length c ∧ us.length ≤ c ∧ us.length * bytes ≤ 140737488351232 ∧ (0 < us.length → o = some ⟨b, off, none⟩) ∧
  ∀ i (h : i < us.length), ∃ cs : List Value, (∀ j, j < k.size → w.cell? ⟨b, off + i * k.size + j, none⟩ = cs[j]?) ∧ k.is w X cs (us[i])
theorem SlE.less {α : Type} {k : Kind α} {bytes : Nat} {w : World} {X Y : List Nat} {v : Value} {us : List α} (h : SlE k bytes w X v us) (hY : ∀ b ∈ Y, b ∈ X) : SlE k bytes w Y v us := by
  obtain ⟨o, c, b, off, rfl, l2, l3, l4, l5⟩ := h
  refine ⟨o, c, b, off, rfl, l2, l3, l4, fun i hi => ?_⟩
  obtain ⟨cs, h1, h2⟩ := l5 i hi
  exact ⟨cs, h1, k.mv h2 ((Mv.refl _ _).less hY)⟩
theorem SlE.ext {α : Type} {k : Kind α} {bytes : Nat} {w w' : World} {X : List Nat} {v : Value} {us : List α} (h : SlE k bytes w X v us) (hE : Ext w w') : SlE k bytes w' X v us := by
  obtain ⟨o, c, b, off, rfl, l2, l3, l4, l5⟩ := h
  refine ⟨o, c, b, off, rfl, l2, l3, l4, fun i hi => ?_⟩
  obtain ⟨cs, h1, h2⟩ := l5 i hi
  refine ⟨cs, fun j hj => ?_, k.mv h2 (hE.mv _)⟩
  have hl := k.len h2
  have h0 := h1 j hj
  rw [List.getElem?_eq_getElem (by omega)] at h0 ⊢
  exact hE.keep h0
theorem SlE.one {α : Type} {k : Kind α} {bytes : Nat} {w : World} {X : List Nat} {v : Value} {us : List α} (h : SlE k bytes w X v us) : v.oneCell' = true := by
  obtain ⟨o, c, b, off, rfl, _⟩ := h
  rfl

set_option maxRecDepth 100000 in
set_option maxHeartbeats 4000000 in
set_option pp.maxSteps 1000000 in
set_option pp.deepTerms true in
theorem cleanPath_c {w : World} {X : List Nat} {pv : Value} {p : List EL} (hp : IsSl kEl 168 w X pv p) (hX : Old X w) (hbo : p.length * 168 ≤ 140737488351232) (R : Ending → World → Prop)
    (hR : ∀ w' v, Ext w w' → IsSl kEl 168 w' X v (p.map cleanEl) → R (.returned v) w') : Calls Tryz.prog 60 #[pv] w R := by
  obtain ⟨o, c, b, off, rfl, l2, l3, l4, l5⟩ := id hp.ex
  have l4' := Lib.hid l4
  have l5' := Lib.hid l5
  have hX' := Lib.hid hX
  have hR' := Lib.hid hR
  have hbo' := Lib.hid hbo
  have hpI : (p.length : Int) ≤ 140737488351232 := by omega
  clear hR hX hp l4 l5 hbo l3
  have hb1 : 168 * p.length ≤ 281474976710656 := by have := hbo'.out; omega
  have hb2 : p.length ≤ maxLen := by rw [maxLen_eq]; omega
  go_enter Tryz.func60, Tryz.ntmps60
  go_wp2_with (refine wpL_make rfl 22 _ _ rfl 47 Tryz.underlying22 Tryz.info47 p.length rfl rfl hb1 hb2 ?_; intro w1 hown hE1)
  have hrow : Row kEl 47 w1 X (.slice (some ⟨w.heap.size, 0, none⟩) 0 p.length) [] := ⟨[], hown, .nil, fun g hg => by simp [Value.ownBlock] at hg; subst hg; intro h; have := hX'.out _ h; omega⟩
  have hrow' := Lib.hid hrow
  clear hrow hown
  go_loopw [3, 11] (fun v i wr => ∃ k : Nat, k ≤ p.length ∧ i = .int .i64 k ∧ Ext w wr ∧ (∀ g, v.ownBlock = some g → w.heap.size ≤ g) ∧ v ≠ .slice none 0 0 ∧ Hid (Row kEl 47 wr X v ((p.take k).map cleanEl))) (fun _ i _ => p.length - (intOf i).toNat)
  case atStart => exact ⟨0, Nat.zero_le _, rfl, hE1, fun g h => by simp [Value.ownBlock] at h; omega, by simp, hrow'⟩
  case round =>
    obtain ⟨k, hk, rfl, hEw, hgv, hnn, hrow⟩ := hrel
    rename World => wr
    by_cases hlt : k < p.length
    · obtain ⟨cs, hc, hcs⟩ := l5'.out k hlt
      obtain ⟨rfl, -⟩ := l4'.out (by omega)
      have hone := kEl.one hcs
      obtain ⟨c0, c1, c2, c3, c4, c5, c6, c7, c8, c9, c10, rfl⟩ := kEl_eleven hcs
      have q0 := hEw.keep (hc 0 (by decide))
      have q1 := hEw.keep (hc 1 (by decide))
      have q2 := hEw.keep (hc 2 (by decide))
      have q3 := hEw.keep (hc 3 (by decide))
      have q4 := hEw.keep (hc 4 (by decide))
      have q5 := hEw.keep (hc 5 (by decide))
      have q6 := hEw.keep (hc 6 (by decide))
      have q7 := hEw.keep (hc 7 (by decide))
      have q8 := hEw.keep (hc 8 (by decide))
      have q9 := hEw.keep (hc 9 (by decide))
      have q10 := hEw.keep (hc 10 (by decide))
      simp only [show kEl.size = 11 from rfl, Nat.add_zero] at q0 q1 q2 q3 q4 q5 q6 q7 q8 q9 q10
      have hi1 : (k : Int) < (p.length : Int) := by omega
      have hkm : (k : Int) + 1 ≤ 9223372036854775807 := by omega
      have hmv : Mv w X wr (vb u3 ++ X) := (hEw.mv X).moreL (fun g hg => hgv g (by simpa [vb] using hg))
      have hXr : Old X wr := hX'.out.le hEw.size
      have hcs' := Lib.hid (kEl.mv hcs hmv)
      have hmv' := Lib.hid hmv
      have hone' := Lib.hid hone
      clear hc hcs hmv hone
      go_wp2_with (first | (refine wpL_storeRow (cells := #[c0, c1, c2, c3, c4, c5, c6, c7, c8, c9, c10]) rfl 47 _ _ rfl Tryz.size47 rfl rfl (alloc_new _ _ rfl) rfl (by simpa using hone'.out) ?_; intro w5 h5 g5; have hEx : Ext wr w5 := ((Ext.refl wr).push _).grown g5 (fun k hk => by cases hk; exact Nat.le_refl _); have s0 : w5.cell? ⟨wr.heap.size, 0, none⟩ = some (c0) := cells_of h5 0; have s1 : w5.cell? ⟨wr.heap.size, 1, none⟩ = some (c1) := cells_of h5 1; have s2 : w5.cell? ⟨wr.heap.size, 2, none⟩ = some (c2) := cells_of h5 2; have s3 : w5.cell? ⟨wr.heap.size, 3, none⟩ = some (c3) := cells_of h5 3; have s4 : w5.cell? ⟨wr.heap.size, 4, none⟩ = some (c4) := cells_of h5 4; have s5 : w5.cell? ⟨wr.heap.size, 5, none⟩ = some (c5) := cells_of h5 5; have s6 : w5.cell? ⟨wr.heap.size, 6, none⟩ = some (c6) := cells_of h5 6; have s7 : w5.cell? ⟨wr.heap.size, 7, none⟩ = some (c7) := cells_of h5 7; have s8 : w5.cell? ⟨wr.heap.size, 8, none⟩ = some (c8) := cells_of h5 8; have s9 : w5.cell? ⟨wr.heap.size, 9, none⟩ = some (c9) := cells_of h5 9; have s10 : w5.cell? ⟨wr.heap.size, 10, none⟩ = some (c10) := cells_of h5 10; clear q0 q1 q2 q3 q4 q5 q6 q7 q8 q9 q10 h5 g5))
      have hm5 : Mv wr (vb u3 ++ X) w5 (vb u3 ++ X) := hEx.mv _
      have hX5 : Old X w5 := hXr.le hEx.size
      have hrow5 : Row kEl 47 w5 X u3 ((p.take k).map cleanEl) := hrow.out.ext hEx
      have hrow5' := Lib.hid hrow5
      refine cleanElem_c (X := vb u3 ++ X) (kEl.mv hcs'.out hm5) (hrow5.old hX5) _ ?_
      intro w6 es hE6 hes
      obtain ⟨d0, d1, d2, d3, d4, d5, d6, d7, d8, d9, d10, rfl⟩ := kEl_eleven hes
      have hes' := Lib.hid hes
      have hlk : ((p.take k).map cleanEl).length = k := by rw [List.length_map, List.length_take]; omega
      have hb4 : (((p.take k).map cleanEl).length + 1) * 168 ≤ 140737488355328 := by rw [hlk]; exact Nat.le_trans (Nat.mul_le_mul_right _ hlt) (Nat.le_trans hbo'.out (by decide))
      have hb5 : ((p.take k).map cleanEl).length + 1 ≤ maxLen := by rw [hlk, maxLen_eq]; omega
      have hE6' := Lib.hid hE6
      have htk : (p.take (k + 1)).map cleanEl = (p.take k).map cleanEl ++ [cleanEl p[k]] := by rw [List.take_succ_eq_append_getElem hlt, List.map_append]; rfl
      have htk' := Lib.hid htk
      have hEx' := Lib.hid hEx
      clear hes hlk htk hE6 hEx hrow hrow5 s0 s1 s2 s3 s4 s5 s6 s7 s8 s9 s10
      dsimp only
      go_wp2_with (at_builtin; refine wpL_rowApp (c := #[d0, d1, d2, d3, d4, d5, d6, d7, d8, d9, d10]) rfl hrow5'.out hE6'.out (hX5.le hE6'.out.size) hes'.out _ _ _ rfl Tryz.underlying22 Tryz.info47 rfl (by decide) rfl rfl hb4 hb5 ?_; intro v' w8 hrow8 hg8 hne8 hd8)
      go_roundw
      case rel =>
        have hE8 : Ext w w8 := ((hEw.trans hEx'.out).trans hE6'.out).grown hg8 (fun j hj => hgv j hj)
        refine ⟨k + 1, by omega, by go_num, hE8, fun g hg => ?_, hne8, Lib.hid (by rw [htk'.out]; exact hrow8)⟩
        rcases hd8 g hg with h | h
        · exact hgv g h
        · have := hE6'.out.size; have := hEx'.out.size; have := hEw.size; omega
      case measure => simp [intOf]; omega
    · have ek : k = p.length := by omega
      subst ek
      have hr := hrow.out
      rw [List.take_of_length_le (Nat.le_refl _)] at hr
      have hr' := Lib.hid (hr.isSl (bytes := 168) (by rw [List.length_map]; exact hbo'.out))
      clear hr hrow
      go_wp2_with fail
      exact hR'.out wr _ hEw hr'.out

end Go.Proofs.YtihapgangilncaaGreat
namespace Go.Proofs.YtihapgangilncaaGreat
open Go.RowKit
set_option linter.unusedSimpArgs false

/-- t has become t', which has the path p besides -/
structure PutIn (G : PEl → Prop) (X : List Nat) (t : BT) (p : List PEl) (w w' : World) (t' : BT) : Prop where
  st : Store w' X (BT.flat t')
  wf : Tr.Wf cmpPe G t'
  b : BT.b t' = BT.b t
  has : ∀ q, GP G q → (Tr.has cmpPe t' q ↔ Tr.has cmpPe t q ∨ wc cmpPe p q = 0)
  mu : Mut w (bls (BT.flat t)) w'
  bl : ∀ b ∈ bls (BT.flat t'), b ∈ bls (BT.flat t) ∨ w.heap.size ≤ b

structure Hole (G : PEl → Prop) (X : List Nat) (t : BT) (p : List PEl) (w wr : World) (A B : List Nd) (ctx : BT → BT) (u : BT) (p' : List PEl) : Prop where
  st : Store wr X (A ++ BT.flat u ++ B)
  mu : Mut w (bls (BT.flat t)) wr
  bl : ∀ b ∈ bls (A ++ BT.flat u ++ B), b ∈ bls (BT.flat t) ∨ w.heap.size ≤ b
  cx : ∀ u', BT.b u' = BT.b u → BT.flat (ctx u') = A ++ BT.flat u' ++ B ∧ BT.b (ctx u') = BT.b t
  wf : Tr.Wf cmpPe G u
  has : ∀ u', Tr.Wf cmpPe G u' → (∀ q, GP G q → (Tr.has cmpPe u' q ↔ Tr.has cmpPe u q ∨ wc cmpPe p' q = 0)) → Tr.Wf cmpPe G (ctx u') ∧ ∀ q, GP G q → (Tr.has cmpPe (ctx u') q ↔ Tr.has cmpPe t q ∨ wc cmpPe p q = 0)
  len : u.paths.length ≤ t.paths.length

theorem Hole.start {G : PEl → Prop} {X : List Nat} {t : BT} {p : List PEl} {w : World} (hs : Store w X (BT.flat t)) (hw : Tr.Wf cmpPe G t) : Hole G X t p w w [] [] id t p :=
  ⟨by simpa using hs, (Ext.refl w).mut _, fun b hb => .inl (by simpa using hb), fun u' h => ⟨by simp, h⟩, hw, fun u' h1 h2 => ⟨h1, h2⟩, Nat.le_refl _⟩

section
variable {G : PEl → Prop} {X : List Nat} {t : BT} {p : List PEl} {w wr : World} {A B : List Nd} {ctx : BT → BT} {b : Nat} {vm vc : Value} {ms : List PEl} {cs : List (PEl × BT)} {p' : List PEl}
theorem Hole.node_eq : A ++ BT.flat (.mk (b, vm, vc) ms cs) ++ B = A ++ [⟨b, vm, vc, ms, ksOf cs⟩] ++ (BT.flatL cs ++ B) := by rw [BT.flat_eq]; simp
theorem Hole.node (h : Hole G X t p w wr A B ctx (.mk (b, vm, vc) ms cs) p') : Store wr (bls (A ++ (BT.flatL cs ++ B)) ++ X) [⟨b, vm, vc, ms, ksOf cs⟩] := by
  have h1 := h.st
  rw [Hole.node_eq] at h1
  exact h1.part
theorem Hole.sub (h : Hole G X t p w wr A B ctx (.mk (b, vm, vc) ms cs) p') : ∀ g ∈ Nd.bl ⟨b, vm, vc, ms, ksOf cs⟩ ++ bls (A ++ (BT.flatL cs ++ B)), g ∈ bls (BT.flat t) ∨ w.heap.size ≤ g := fun g hg => by
  refine h.bl g ?_
  rw [Hole.node_eq]
  simp only [bls_app, List.mem_append, bls, List.flatMap_cons, List.flatMap_nil, List.append_nil] at hg ⊢
  rcases hg with hg | hg | hg | hg
  · exact .inl (.inr hg)
  · exact .inl (.inl hg)
  · exact .inr (.inl hg)
  · exact .inr (.inr hg)
theorem Hole.mvd (h : Hole G X t p w wr A B ctx (.mk (b, vm, vc) ms cs) p') : Mv w (bls (BT.flat t) ++ X) wr (Nd.bl ⟨b, vm, vc, ms, ksOf cs⟩ ++ (bls (A ++ (BT.flatL cs ++ B)) ++ X)) := ⟨h.mu.size, fun k hk hx => by
  simp only [List.mem_append, not_or] at hx
  refine ⟨h.mu.block k hk hx.1, fun hy => ?_⟩
  rw [← List.append_assoc] at hy
  rcases List.mem_append.1 hy with hy | hy
  · rcases h.sub k hy with h | h
    · exact hx.1 h
    · omega
  · exact hx.2 hy⟩
theorem Hole.old (h : Hole G X t p w wr A B ctx (.mk (b, vm, vc) ms cs) p') (hX : Old X w) : Old (bls (A ++ (BT.flatL cs ++ B)) ++ X) wr := fun g hg => by
  rcases List.mem_append.1 hg with hg | hg
  · refine h.st.lt g ?_
    rw [Hole.node_eq]
    simp only [bls_app, List.mem_append] at hg ⊢
    rcases hg with hg | hg | hg
    · exact .inl (.inl hg)
    · exact .inr (.inl hg)
    · exact .inr (.inr hg)
  · exact Nat.lt_of_lt_of_le (hX g hg) h.mu.size
/-- what a change of the node leaves -/
theorem Hole.change (h : Hole G X t p w wr A B ctx (.mk (b, vm, vc) ms cs) p') {w' : World} {N' : List Nd} (hM : Mut wr (Nd.bl ⟨b, vm, vc, ms, ksOf cs⟩) w') (hs : Store w' (bls (A ++ (BT.flatL cs ++ B)) ++ X) N') (hN : ∀ g ∈ bls N', g ∈ Nd.bl ⟨b, vm, vc, ms, ksOf cs⟩ ∨ wr.heap.size ≤ g) :
    Store w' X (A ++ N' ++ (BT.flatL cs ++ B)) ∧ Mut w (bls (BT.flat t)) w' ∧ ∀ g ∈ bls (A ++ N' ++ (BT.flatL cs ++ B)), g ∈ bls (BT.flat t) ∨ w.heap.size ≤ g := by
  have h1 := h.st
  rw [Hole.node_eq] at h1
  refine ⟨h1.join (N := [⟨b, vm, vc, ms, ksOf cs⟩]) (by simpa [bls] using hM) hs (by simpa [bls] using hN), h.mu.thenNew hM fun k hk => h.sub k (by simp [hk]), fun g hg => ?_⟩
  simp only [bls_app, List.mem_append] at hg
  rcases hg with (hg | hg) | hg | hg
  · exact h.sub g (by simp only [bls_app, List.mem_append]; exact .inr (.inl hg))
  · rcases hN g hg with h1 | h1
    · exact h.sub g (by simp [h1])
    · exact .inr (Nat.le_trans h.mu.size h1)
  · exact h.sub g (by simp only [bls_app, List.mem_append]; exact .inr (.inr (.inl hg)))
  · exact h.sub g (by simp only [bls_app, List.mem_append]; exact .inr (.inr (.inr hg)))
theorem Hole.member (ho : Cmpr cmpPe G) {e : PEl} (h : Hole G X t p w wr A B ctx (.mk (b, vm, vc) ms cs) [e]) (he : G e) {w' : World} {vm' : Value} (hM : Mut wr (Nd.bl ⟨b, vm, vc, ms, ksOf cs⟩) w') (hs : Store w' (bls (A ++ (BT.flatL cs ++ B)) ++ X) [⟨b, vm', vc, insC cmpPe ms e, ksOf cs⟩]) (hN : ∀ g ∈ vb vm', g ∈ vb vm ∨ wr.heap.size ≤ g) :
    ∃ t', PutIn G X t p w w' t' := by
  obtain ⟨h1, h2, h3⟩ := h.change hM hs (fun g hg => by
    simp only [bls, List.flatMap_cons, List.flatMap_nil, List.append_nil, Nd.bl, List.mem_cons, List.mem_append] at hg ⊢
    rcases hg with hg | hg | hg
    · exact .inl (.inl hg)
    · exact (hN g hg).imp (fun h => .inr (.inl h)) id
    · exact .inl (.inr (.inr hg)))
  have hc := h.cx (.mk (b, vm', vc) (insC cmpPe ms e) cs) rfl
  have hm := Tr.wf_member ho (t' := (b, vm', vc)) h.wf he
  have hw := h.has _ hm.1 hm.2
  rw [Hole.node_eq] at hc
  exact ⟨ctx (.mk (b, vm', vc) (insC cmpPe ms e) cs), by rw [hc.1]; exact h1, hw.1, hc.2, hw.2, h2, by rw [hc.1]; exact h3⟩
theorem Tr.paths_nil {β α : Type} (t : β) : (Tr.mk t [] [] : Tr β α).paths = [] := by rw [Tr.paths_eq]; rfl
theorem kid_len {s : BT} {x : PEl} {C1 C2 : List (PEl × BT)} {t0 : Nat × Value × Value} : s.paths.length ≤ (Tr.mk t0 ms (C1 ++ (x, s) :: C2)).paths.length := by
  rw [Tr.paths_eq (.mk t0 ms (C1 ++ (x, s) :: C2))]
  simp only [Tr.ms, Tr.cs, List.length_append, List.flatMap_append, List.flatMap_cons, List.length_map]
  omega
theorem Hole.found (ho : Cmpr cmpPe G) {e x : PEl} {p2 : List PEl} {C1 C2 : List (PEl × BT)} {s : BT} (h : Hole G X t p w wr A B ctx (.mk (b, vm, vc) ms (C1 ++ (x, s) :: C2)) (e :: p2)) (he : G e) (hp : p2 ≠ []) (hG : GP G p2) (hx : cmpPe x e = 0) {w' : World} (hE : Ext wr w') :
    Hole G X t p w w' (A ++ ⟨b, vm, vc, ms, ksOf (C1 ++ (x, s) :: C2)⟩ :: BT.flatL C1) (BT.flatL C2 ++ B) (fun s' => ctx (.mk (b, vm, vc) ms (C1 ++ (x, s') :: C2))) s p2 := by
  have e1 : ∀ s' : BT, BT.b s' = BT.b s → A ++ BT.flat (.mk (b, vm, vc) ms (C1 ++ (x, s') :: C2)) ++ B = (A ++ ⟨b, vm, vc, ms, ksOf (C1 ++ (x, s) :: C2)⟩ :: BT.flatL C1) ++ BT.flat s' ++ (BT.flatL C2 ++ B) := fun s' hs' => by
    rw [BT.flat_eq, BT.flatL_mid]
    simp [ksOf, hs']
  refine ⟨?_, h.mu.thenNew (hE.mut []) (by simp), ?_, fun s' hs' => ?_, ?_, fun s' h1 h2 => ?_, ?_⟩
  · rw [← e1 s rfl]; exact h.st.ext hE
  · rw [← e1 s rfl]; exact h.bl
  · have := h.cx (.mk (b, vm, vc) ms (C1 ++ (x, s') :: C2)) rfl
    rw [e1 s' hs'] at this
    exact this
  · have := h.wf
    cases this with
    | mk _ _ _ _ _ h6 => exact h6 (x, s) (by simp)
  · have hb := Tr.wf_below ho (t' := (b, vm, vc)) h.wf he hx hp hG h1 h2
    exact h.has _ hb.1 hb.2
  · exact Nat.le_trans kid_len h.len
theorem Hole.new (ho : Cmpr cmpPe G) {e : PEl} {p2 : List PEl} {C1 C2 : List (PEl × BT)} (h : Hole G X t p w wr A B ctx (.mk (b, vm, vc) ms (C1 ++ C2)) (e :: p2)) (he : G e) (hp : p2 ≠ []) (hG : GP G p2) (h1 : ∀ y ∈ C1, cmpPe y.1 e < 0) (h2 : ∀ y ∈ C2, cmpPe e y.1 < 0) {w' : World} {vc' : Value} {c : Nat}
    (hM : Mut wr (Nd.bl ⟨b, vm, vc, ms, ksOf (C1 ++ C2)⟩) w') (hs : Store w' (bls (A ++ (BT.flatL (C1 ++ C2) ++ B)) ++ X) [⟨b, vm, vc', ms, ksOf C1 ++ (e, c) :: ksOf C2⟩, ⟨c, .slice none 0 0, .slice none 0 0, [], []⟩]) (hN : ∀ g ∈ vb vc', g ∈ Nd.bl ⟨b, vm, vc, ms, ksOf (C1 ++ C2)⟩ ∨ wr.heap.size ≤ g) (hc : wr.heap.size ≤ c) :
    Hole G X t p w w' (A ++ ⟨b, vm, vc', ms, ksOf C1 ++ (e, c) :: ksOf C2⟩ :: BT.flatL C1) (BT.flatL C2 ++ B) (fun s' => ctx (.mk (b, vm, vc') ms (C1 ++ (e, s') :: C2))) (.mk (c, .slice none 0 0, .slice none 0 0) [] []) p2 := by
  obtain ⟨g1, g2, g3⟩ := h.change hM hs (fun g hg => by
    simp only [bls, List.flatMap_cons, List.flatMap_nil, List.append_nil, Nd.bl, List.mem_cons, List.mem_append, vb, Value.ownBlock, Option.toList_none, List.not_mem_nil, or_false] at hg hN ⊢
    rcases hg with (hg | hg | hg) | hg
    · exact .inl (.inl hg)
    · exact .inl (.inr (.inl hg))
    · exact hN g hg
    · exact .inr (hg ▸ hc))
  have e1 : ∀ s' : BT, BT.b s' = c → A ++ BT.flat (.mk (b, vm, vc') ms (C1 ++ (e, s') :: C2)) ++ B = (A ++ ⟨b, vm, vc', ms, ksOf C1 ++ (e, c) :: ksOf C2⟩ :: BT.flatL C1) ++ BT.flat s' ++ (BT.flatL C2 ++ B) := fun s' hs' => by
    rw [BT.flat_eq, BT.flatL_mid]
    simp [ksOf, hs']
  have pm : (A ++ [(⟨b, vm, vc', ms, ksOf C1 ++ (e, c) :: ksOf C2⟩ : Nd), ⟨c, .slice none 0 0, .slice none 0 0, [], []⟩] ++ (BT.flatL (C1 ++ C2) ++ B)).Perm ((A ++ ⟨b, vm, vc', ms, ksOf C1 ++ (e, c) :: ksOf C2⟩ :: BT.flatL C1) ++ BT.flat (.mk (c, .slice none 0 0, .slice none 0 0) [] []) ++ (BT.flatL C2 ++ B)) := by
    rw [BT.flat_eq, BT.flatL_app]
    simp only [List.append_assoc, List.cons_append, List.nil_append, BT.flatL, ksOf, List.map_nil]
    refine List.Perm.append_left _ (List.Perm.cons _ ?_)
    rw [← List.cons_append]
    exact List.perm_middle.symm
  refine ⟨g1.perm pm, g2, fun g hg => ?_, fun s' hs' => ?_, .mk (by simp [SrtC]) (by simp) (by simp [SrtC]) (by simp) (by simp) (by simp), fun s' k1 k2 => ?_, ?_⟩
  · exact g3 g ((pm.flatMap_right Nd.bl).mem_iff.2 hg)
  · have := h.cx (.mk (b, vm, vc') ms (C1 ++ (e, s') :: C2)) rfl
    rw [e1 s' hs'] at this
    exact this
  · have hb := Tr.wf_new ho (t' := (b, vm, vc')) (s' := s') h.wf he h1 h2 hp hG k1 (fun q hq => by
      rw [k2 q hq]
      constructor
      · rintro (hh | hh)
        · obtain ⟨z, hz, -⟩ := hh
          rw [Tr.paths_nil] at hz
          simp at hz
        · exact hh
      · exact .inr)
    exact h.has _ hb.1 hb.2
  · rw [Tr.paths_nil]; simp
end
end Go.Proofs.YtihapgangilncaaGreat
namespace Go.Proofs.YtihapgangilncaaGreat
open Go.RowKit
set_option linter.unusedSimpArgs false
set_option linter.unusedVariables false

section
variable {α : Type} {c : α → α → Int} {G : α → Prop}
/-- no two are equal -/
def Dst (c : α → α → Int) (l : List α) : Prop := l.Pairwise (fun a b => c a b ≠ 0)
theorem SrtC.dst {l : List α} (h : SrtC c l) : Dst c l := h.imp fun h => by omega
/-- a list without equal ones, all of which another one has, is not the longer one -/
theorem pigeon (h : Cmpr c G) : ∀ {l m : List α}, Dst c l → (∀ x ∈ l, G x) → (∀ x ∈ m, G x) → (∀ x ∈ l, hasC c m x) → l.length ≤ m.length
  | [], _, _, _, _, _ => by simp
  | x :: l, m, hd, hl, hm, hh => by
    obtain ⟨y, hy, h0⟩ := hh x (by simp)
    obtain ⟨m1, m2, rfl⟩ := List.append_of_mem hy
    have hd1 := List.pairwise_cons.1 hd
    have := pigeon h (l := l) (m := m1 ++ m2) hd1.2 (fun z hz => hl z (by simp [hz])) (fun z hz => hm z (by
      rcases List.mem_append.1 hz with hz | hz <;> simp [hz])) (fun z hz => by
      obtain ⟨q, hq, q0⟩ := hh z (by simp [hz])
      rcases List.mem_append.1 hq with hq | hq
      · exact ⟨q, by simp [hq], q0⟩
      · rcases List.mem_cons.1 hq with e | hq
        · subst e
          have := h.congr (hm q (by simp)) (hl x (by simp)) (hl z (by simp [hz])) h0
          exact absurd (this ▸ q0) (hd1.1 z hz)
        · exact ⟨q, by simp [hq], q0⟩)
    simp only [List.length_cons, List.length_append] at this ⊢
    omega
def hasBl (c : α → α → Int) (l : List α) (p : α) : Bool := l.any fun q => decide (c q p = 0)
end

section
variable {α σ : Type} {c : α → α → Int} {G : α → Prop}
end

/-- a tree of at most so many levels -/
def Tr.dep {β α : Type} : Nat → Tr β α → Prop
  | 0, _ => False
  | d + 1, s => ∀ p ∈ s.cs, Tr.dep d p.2
section
variable {α : Type} {c : α → α → Int} {G : α → Prop}
theorem Tr.wf_parts {β : Type} {s : Tr β α} (h : s.Wf c G) : SrtC c s.ms ∧ (∀ x ∈ s.ms, G x) ∧ SrtC c (s.cs.map (·.1)) ∧ (∀ p ∈ s.cs, G p.1) ∧ (∀ p ∈ s.cs, p.2.paths ≠ []) ∧ ∀ p ∈ s.cs, Tr.Wf c G p.2 := by
  cases h with
  | mk h1 h2 h3 h4 h5 h6 => exact ⟨h1, h2, h3, h4, h5, h6⟩
theorem has_good {β : Type} {s : Tr β α} (ho : Cmpr c G) (h : s.Wf c G) (hne : s.paths ≠ []) : ∃ q, GP G q ∧ s.has c q := by
  obtain ⟨q, hq⟩ := List.exists_mem_of_ne_nil _ hne
  exact ⟨q, Tr.paths_good h q hq, q, hq, (wc_ord ho).self q⟩
end
end Go.Proofs.YtihapgangilncaaGreat
namespace Go.Proofs.YtihapgangilncaaGreat
open Go.RowKit
set_option linter.unusedSimpArgs false

section
variable {P : Program}
end

/-- going over paths with a function value; O are the blocks that it has made its own -/
structure PVisit (F : FuncId) (cap : Array Value) (Inv : Nat → List Nat → List Nat → World → Prop) (ps : List (List PEl)) : Prop where
  enter : ∀ (args : Array Value) (w : World), (callFunc F args).run Tryz.prog w = .ok (.enter F args) w
  old : ∀ {k O Z w}, Inv k O Z w → Old O w
  grow : ∀ {k O Z Z' w w' B}, Inv k O Z w → Mut w B w' → (∀ b ∈ B, b ∈ Z) → (∀ b ∈ Z', b ∈ Z ∨ w.heap.size ≤ b) → Inv k O Z' w'
  step : ∀ {k O Z w v p}, ps[k]? = some p → p.length * 32 ≤ 140737488351232 → Inv k O (vb v ++ Z) w → Old Z w → Row kPe 89 w (O ++ Z) v p → ∀ K : Ending → World → Prop,
    (∀ w' O', Mut w O w' → (∀ b ∈ O', b ∈ O ∨ w.heap.size ≤ b) → Inv (k + 1) O' (vb v ++ Z) w' → K (.returned (.tuple #[])) w') → Calls Tryz.prog F (#[v] ++ cap) w K
theorem PVisit.ext {F : FuncId} {cap : Array Value} {Inv : Nat → List Nat → List Nat → World → Prop} {ps : List (List PEl)} (h : PVisit F cap Inv ps) {k : Nat} {O Z : List Nat} {w w' : World} (hi : Inv k O Z w) (hE : Ext w w') : Inv k O Z w' := h.grow hi (hE.mut []) (by simp) (fun _ hb => .inl hb)
/-- L stands in ps from place k on -/
def Seg {α : Type} (ps : List α) (k : Nat) (L : List α) : Prop := ∃ A C, ps = A ++ (L ++ C) ∧ A.length = k
theorem Seg.left {α : Type} {ps : List α} {k : Nat} {L M : List α} (h : Seg ps k (L ++ M)) : Seg ps k L := by
  obtain ⟨A, C, h1, h2⟩ := h
  exact ⟨A, M ++ C, by rw [h1]; simp, h2⟩
theorem Seg.right {α : Type} {ps : List α} {k : Nat} {L M : List α} (h : Seg ps k (L ++ M)) : Seg ps (k + L.length) M := by
  obtain ⟨A, C, h1, h2⟩ := h
  exact ⟨A ++ L, C, by rw [h1]; simp, by simp [h2]⟩
theorem Seg.get {α : Type} {ps : List α} {k : Nat} {L : List α} (h : Seg ps k L) {i : Nat} (hi : i < L.length) : ps[k + i]? = some (L[i]) := by
  obtain ⟨A, C, rfl, rfl⟩ := h
  rw [List.getElem?_append_right (by omega), Nat.add_sub_cancel_left, List.getElem?_append_left hi, List.getElem?_eq_getElem hi]
theorem Seg.one {α : Type} {ps : List α} {k : Nat} {x : α} {L : List α} (h : Seg ps k (x :: L)) : ps[k]? = some x := by
  obtain ⟨A, C, rfl, rfl⟩ := h
  simp

section
variable {F : FuncId} {cap : Array Value} {Inv : Nat → List Nat → List Nat → World → Prop} {ps : List (List PEl)}
theorem Own.mutated {w w' : World} {e size : Nat} {v : Value} {n : Nat} {xs : List Value} {B : List Nat} (h : Own w e size v n xs) (hM : Mut w B w') (hB : ∀ b ∈ vb v, b ∉ B) : Own w' e size v n xs := h.keep fun g hg => hM.block g (h.lt hg) (hB g (by simp [vb, hg]))
end
end Go.Proofs.YtihapgangilncaaGreat
namespace Go.Proofs.YtihapgangilncaaGreat
open Go.RowKit
set_option linter.unusedSimpArgs false

theorem Tryz.info24 : (Tryz.prog.info? 24).map (fun i => (i.zero, i.size, i.bytes)) = some (some (.slice none 0 0), 1, 24) := by kernel_rfl

end Go.Proofs.YtihapgangilncaaGreat
namespace Go.Proofs.YtihapgangilncaaGreat
open Go.RowKit
set_option linter.unusedSimpArgs false

section
variable {α σ : Type} {c : α → α → Int} {G : α → Prop}
end

theorem IsSl.drop {α : Type} {k : Kind α} {bytes : Nat} {w : World} {X : List Nat} {b off c : Nat} {n : Nat} {us : List α} (h : IsSl k bytes w X (.slice (some ⟨b, off, none⟩) n c) us) {p : Nat} (hp : p ≤ us.length) (m c' : Nat) (hm : m = us.length - p) (hc' : m ≤ c') : IsSl k bytes w X (.slice (some ⟨b, off + p * k.size, none⟩) m c') (us.drop p) := by
  obtain ⟨o, c2, b2, off2, h1, h2, h3, h4, h5⟩ := h.ex
  cases h1
  subst hm
  refine ⟨some ⟨b, off + p * k.size, none⟩, c', b, off + p * k.size, by rw [List.length_drop], by rw [List.length_drop]; exact hc', ?_, fun hl => ?_, fun i hi => ?_⟩
  · rw [List.length_drop]
    exact Nat.le_trans (Nat.mul_le_mul_right _ (Nat.sub_le _ _)) h3
  · rw [List.length_drop] at hl
    obtain ⟨e, hb⟩ := h4 (by omega)
    cases e
    exact ⟨rfl, hb⟩
  · rw [List.length_drop] at hi
    have hpi : p + i < us.length := by omega
    obtain ⟨e, hb⟩ := h4 (by omega)
    cases e
    obtain ⟨cs, hcs, hk⟩ := h5 (p + i) hpi
    refine ⟨cs, fun j hj => ?_, ?_⟩
    · have := hcs j hj
      rw [Nat.add_mul] at this
      rw [← this, Nat.add_assoc off]
    · rw [List.getElem_drop]
      exact hk

end Go.Proofs.YtihapgangilncaaGreat
