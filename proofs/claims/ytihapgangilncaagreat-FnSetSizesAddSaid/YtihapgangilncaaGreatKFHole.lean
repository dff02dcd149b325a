/- Two lists in order merged side by side (plain); the tail of a slice. A place within a set that a path is being put into (plain). -/
import Derived.Test.YtihapgangilncaaGreatKFSetOps
import Derived.Test.YtihapgangilncaaGreatKFBackL
import Derived.Test.YtihapgangilncaaGreatKFDescend
namespace Go.Proofs.YtihapgangilncaaGreat
open Go.RowKit
set_option linter.unusedSimpArgs false

section
variable {α σ : Type} {c : α → α → Int} {G : α → Prop}
theorem unionM_lt {ms ks : List α} {p q : Nat} (hp : p < ms.length) (hq : q < ks.length) (h : c ms[p] ks[q] < 0) : unionM c (ms.drop p) (ks.drop q) = ms[p] :: unionM c (ms.drop (p + 1)) (ks.drop q) := by
  rw [List.drop_eq_getElem_cons hp, List.drop_eq_getElem_cons hq, unionM, if_pos h]
theorem unionM_gt {ms ks : List α} {p q : Nat} (hp : p < ms.length) (hq : q < ks.length) (h : ¬ c ms[p] ks[q] < 0) (h2 : c ks[q] ms[p] < 0) : unionM c (ms.drop p) (ks.drop q) = ks[q] :: unionM c (ms.drop p) (ks.drop (q + 1)) := by
  rw [List.drop_eq_getElem_cons hp, List.drop_eq_getElem_cons hq, unionM, if_neg h, if_pos h2]
theorem unionM_eq {ms ks : List α} {p q : Nat} (hp : p < ms.length) (hq : q < ks.length) (h : ¬ c ms[p] ks[q] < 0) (h2 : ¬ c ks[q] ms[p] < 0) : unionM c (ms.drop p) (ks.drop q) = ks[q] :: unionM c (ms.drop (p + 1)) (ks.drop (q + 1)) := by
  rw [List.drop_eq_getElem_cons hp, List.drop_eq_getElem_cons hq, unionM, if_neg h, if_neg h2]
theorem unionM_end {l m : List α} (h : l = [] ∨ m = []) : unionM c l m = l ++ m := by
  rcases h with rfl | rfl
  · simp [unionM]
  · cases l <;> simp [unionM]
theorem interM_lt {ms ks : List α} {p q : Nat} (hp : p < ms.length) (hq : q < ks.length) (h : c ms[p] ks[q] < 0) : interM c (ms.drop p) (ks.drop q) = interM c (ms.drop (p + 1)) (ks.drop q) := by
  rw [List.drop_eq_getElem_cons hp, List.drop_eq_getElem_cons hq, interM, if_pos h]
theorem interM_gt {ms ks : List α} {p q : Nat} (hp : p < ms.length) (hq : q < ks.length) (h : ¬ c ms[p] ks[q] < 0) (h2 : c ks[q] ms[p] < 0) : interM c (ms.drop p) (ks.drop q) = interM c (ms.drop p) (ks.drop (q + 1)) := by
  rw [List.drop_eq_getElem_cons hp, List.drop_eq_getElem_cons hq, interM, if_neg h, if_pos h2]
theorem interM_eq {ms ks : List α} {p q : Nat} (hp : p < ms.length) (hq : q < ks.length) (h : ¬ c ms[p] ks[q] < 0) (h2 : ¬ c ks[q] ms[p] < 0) : interM c (ms.drop p) (ks.drop q) = ms[p] :: interM c (ms.drop (p + 1)) (ks.drop (q + 1)) := by
  rw [List.drop_eq_getElem_cons hp, List.drop_eq_getElem_cons hq, interM, if_neg h, if_neg h2]
theorem interM_end {l m : List α} (h : l = [] ∨ m = []) : interM c l m = [] := by
  rcases h with rfl | rfl
  · simp [interM]
  · cases l <;> simp [interM]
theorem unionN_lt {f : σ → σ → σ} {ms ks : List (α × σ)} {p q : Nat} (hp : p < ms.length) (hq : q < ks.length) (h : c ms[p].1 ks[q].1 < 0) : unionN c f (ms.drop p) (ks.drop q) = ms[p] :: unionN c f (ms.drop (p + 1)) (ks.drop q) := by
  rw [List.drop_eq_getElem_cons hp, List.drop_eq_getElem_cons hq, unionN, if_pos h]
theorem unionN_gt {f : σ → σ → σ} {ms ks : List (α × σ)} {p q : Nat} (hp : p < ms.length) (hq : q < ks.length) (h : ¬ c ms[p].1 ks[q].1 < 0) (h2 : c ks[q].1 ms[p].1 < 0) : unionN c f (ms.drop p) (ks.drop q) = ks[q] :: unionN c f (ms.drop p) (ks.drop (q + 1)) := by
  rw [List.drop_eq_getElem_cons hp, List.drop_eq_getElem_cons hq, unionN, if_neg h, if_pos h2]
theorem unionN_eq {f : σ → σ → σ} {ms ks : List (α × σ)} {p q : Nat} (hp : p < ms.length) (hq : q < ks.length) (h : ¬ c ms[p].1 ks[q].1 < 0) (h2 : ¬ c ks[q].1 ms[p].1 < 0) : unionN c f (ms.drop p) (ks.drop q) = (ms[p].1, f ms[p].2 ks[q].2) :: unionN c f (ms.drop (p + 1)) (ks.drop (q + 1)) := by
  rw [List.drop_eq_getElem_cons hp, List.drop_eq_getElem_cons hq, unionN, if_neg h, if_neg h2]
theorem unionN_end {f : σ → σ → σ} {l m : List (α × σ)} (h : l = [] ∨ m = []) : unionN c f l m = l ++ m := by
  rcases h with rfl | rfl
  · simp [unionN]
  · cases l <;> simp [unionN]
theorem interN_lt {f : σ → σ → σ} {em : σ → Bool} {ms ks : List (α × σ)} {p q : Nat} (hp : p < ms.length) (hq : q < ks.length) (h : c ms[p].1 ks[q].1 < 0) : interN c f em (ms.drop p) (ks.drop q) = interN c f em (ms.drop (p + 1)) (ks.drop q) := by
  rw [List.drop_eq_getElem_cons hp, List.drop_eq_getElem_cons hq, interN, if_pos h]
theorem interN_gt {f : σ → σ → σ} {em : σ → Bool} {ms ks : List (α × σ)} {p q : Nat} (hp : p < ms.length) (hq : q < ks.length) (h : ¬ c ms[p].1 ks[q].1 < 0) (h2 : c ks[q].1 ms[p].1 < 0) : interN c f em (ms.drop p) (ks.drop q) = interN c f em (ms.drop p) (ks.drop (q + 1)) := by
  rw [List.drop_eq_getElem_cons hp, List.drop_eq_getElem_cons hq, interN, if_neg h, if_pos h2]
theorem interN_eq {f : σ → σ → σ} {em : σ → Bool} {ms ks : List (α × σ)} {p q : Nat} (hp : p < ms.length) (hq : q < ks.length) (h : ¬ c ms[p].1 ks[q].1 < 0) (h2 : ¬ c ks[q].1 ms[p].1 < 0) (h3 : em (f ms[p].2 ks[q].2) = false) : interN c f em (ms.drop p) (ks.drop q) = (ms[p].1, f ms[p].2 ks[q].2) :: interN c f em (ms.drop (p + 1)) (ks.drop (q + 1)) := by
  rw [List.drop_eq_getElem_cons hp, List.drop_eq_getElem_cons hq, interN, if_neg h, if_neg h2, if_neg (by rw [h3]; decide)]
theorem interN_em {f : σ → σ → σ} {em : σ → Bool} {ms ks : List (α × σ)} {p q : Nat} (hp : p < ms.length) (hq : q < ks.length) (h : ¬ c ms[p].1 ks[q].1 < 0) (h2 : ¬ c ks[q].1 ms[p].1 < 0) (h3 : em (f ms[p].2 ks[q].2) = true) : interN c f em (ms.drop p) (ks.drop q) = interN c f em (ms.drop (p + 1)) (ks.drop (q + 1)) := by
  rw [List.drop_eq_getElem_cons hp, List.drop_eq_getElem_cons hq, interN, if_neg h, if_neg h2, if_pos h3]
theorem interN_end {f : σ → σ → σ} {em : σ → Bool} {l m : List (α × σ)} (h : l = [] ∨ m = []) : interN c f em l m = [] := by
  rcases h with rfl | rfl
  · simp [interN]
  · cases l <;> simp [interN]
end

theorem IsSl.drop {α : Type} {k : Kind α} {bytes : Nat} {w : World} {X : List Nat} {b off c : Nat} {n : Nat} {us : List α} (h : IsSl k bytes w X (.slice (some ⟨b, off, none⟩) n c) us) {p : Nat} (hp : p ≤ us.length) (m c' : Nat) (hm : m = us.length - p) (hc' : m ≤ c') : IsSl k bytes w X (.slice (some ⟨b, off + p * k.size, none⟩) m c') (us.drop p) := by
  obtain ⟨o, c2, b2, off2, h1, h2, h3, h4, h5⟩ := h.ex
  cases h1
  subst hm
  refine ⟨some ⟨b, off + p * k.size, none⟩, c', b, off + p * k.size, by rw [List.length_drop], by rw [List.length_drop]; exact hc', ?_, fun hl => ?_, fun i hi => ?_⟩
  · rw [List.length_drop]
    exact Nat.le_trans (Nat.mul_le_mul_right _ (Nat.sub_le _ _)) h3
  · rw [List.length_drop] at hl
    obtain ⟨e, hb⟩ := h4 (by omega)
    cases e
    exact ⟨rfl, hb⟩
  · rw [List.length_drop] at hi
    have hpi : p + i < us.length := by omega
    obtain ⟨e, hb⟩ := h4 (by omega)
    cases e
    obtain ⟨cs, hcs, hk⟩ := h5 (p + i) hpi
    refine ⟨cs, fun j hj => ?_, ?_⟩
    · have := hcs j hj
      rw [Nat.add_mul] at this
      rw [← this, Nat.add_assoc off]
    · rw [List.getElem_drop]
      exact hk

/-- .. as the model spells it -/
theorem IsSl.dropV {α : Type} {k : Kind α} {bytes : Nat} {w : World} {X : List Nat} {b off c s : Nat} {us : List α} (hs : k.size = s) (h : IsSl k bytes w X (.slice (some ⟨b, off, none⟩) us.length c) us) {p : Nat} (hp : p < us.length) (hc : us.length ≤ c) :
    IsSl k bytes w X (.slice (if c = p then some ⟨b, off, none⟩ else some ⟨b, off + p * s, none⟩) (us.length - p) (c - p)) (us.drop p) := by
  rw [if_neg (by omega), ← hs]
  exact h.drop (Nat.le_of_lt hp) _ _ rfl (by omega)

/-- a set read so deep has no more levels -/
theorem kSt_depU : ∀ {d : Nat} {w : World} {X : List Nat} {cs : List Value} {s : St}, (kSt d).is w X cs s → s.dep d
  | 0, _, _, _, _, h => h.elim
  | d + 1, w, X, cs, s, h => by
    obtain ⟨b, vm, vc, -, -, -, -, -, hcs⟩ := h
    intro p hp
    obtain ⟨i, hi, rfl⟩ := List.getElem_of_mem hp
    obtain ⟨_, _, _, _, -, -, -, -, l5⟩ := hcs.ex
    obtain ⟨ds, -, pc, sc, -, -, hk⟩ := l5 i hi
    exact kSt_depU hk
/-- members and children of a set are no more than its paths -/
theorem ms_paths {β : Type} (s : Tr β PEl) : s.ms.length ≤ s.paths.length := by
  rw [Tr.paths_eq, List.length_append, List.length_map]
  omega
theorem cs_paths {β : Type} {G : PEl → Prop} {s : Tr β PEl} (h : s.Wf cmpPe G) : s.cs.length ≤ s.paths.length := by
  obtain ⟨-, -, -, -, h5, -⟩ := Tr.wf_parts h
  rw [Tr.paths_eq, List.length_append]
  refine Nat.le_trans ?_ (Nat.le_add_left _ _)
  generalize s.cs = cs at h5
  induction cs with
  | nil => simp
  | cons p cs ih =>
    have := ih fun q hq => h5 q (by simp [hq])
    have h6 := h5 p (by simp)
    have : 0 < p.2.paths.length := List.length_pos_iff.2 h6
    simp only [List.flatMap_cons, List.length_append, List.length_map, List.length_cons] at *
    omega
theorem child_paths {β : Type} {s : Tr β PEl} {p : PEl × Tr β PEl} (hp : p ∈ s.cs) : p.2.paths.length ≤ s.paths.length := by
  have h := congrArg List.length (Tr.paths_eq s)
  rw [List.length_append] at h
  rw [h]
  refine Nat.le_trans ?_ (Nat.le_add_left _ _)
  obtain ⟨A, B, e⟩ := List.append_of_mem hp
  rw [e]
  simp only [List.flatMap_append, List.flatMap_cons, List.length_append, List.length_map]
  omega
end Go.Proofs.YtihapgangilncaaGreat
namespace Go.Proofs.YtihapgangilncaaGreat
open Go.RowKit
set_option linter.unusedSimpArgs false

/-- t has become t', which has the path p besides -/
structure PutIn (G : PEl → Prop) (X : List Nat) (t : BT) (p : List PEl) (w w' : World) (t' : BT) : Prop where
  st : Store w' X (BT.flat t')
  wf : Tr.Wf cmpPe G t'
  b : BT.b t' = BT.b t
  has : ∀ q, GP G q → (Tr.has cmpPe t' q ↔ Tr.has cmpPe t q ∨ wc cmpPe p q = 0)
  mu : Mut w (bls (BT.flat t)) w'
  bl : ∀ b ∈ bls (BT.flat t'), b ∈ bls (BT.flat t) ∨ w.heap.size ≤ b

structure Hole (G : PEl → Prop) (X : List Nat) (t : BT) (p : List PEl) (w wr : World) (A B : List Nd) (ctx : BT → BT) (u : BT) (p' : List PEl) : Prop where
  st : Store wr X (A ++ BT.flat u ++ B)
  mu : Mut w (bls (BT.flat t)) wr
  bl : ∀ b ∈ bls (A ++ BT.flat u ++ B), b ∈ bls (BT.flat t) ∨ w.heap.size ≤ b
  cx : ∀ u', BT.b u' = BT.b u → BT.flat (ctx u') = A ++ BT.flat u' ++ B ∧ BT.b (ctx u') = BT.b t
  wf : Tr.Wf cmpPe G u
  has : ∀ u', Tr.Wf cmpPe G u' → (∀ q, GP G q → (Tr.has cmpPe u' q ↔ Tr.has cmpPe u q ∨ wc cmpPe p' q = 0)) → Tr.Wf cmpPe G (ctx u') ∧ ∀ q, GP G q → (Tr.has cmpPe (ctx u') q ↔ Tr.has cmpPe t q ∨ wc cmpPe p q = 0)
  len : u.paths.length ≤ t.paths.length

theorem Hole.start {G : PEl → Prop} {X : List Nat} {t : BT} {p : List PEl} {w : World} (hs : Store w X (BT.flat t)) (hw : Tr.Wf cmpPe G t) : Hole G X t p w w [] [] id t p :=
  ⟨by simpa using hs, (Ext.refl w).mut _, fun b hb => .inl (by simpa using hb), fun u' h => ⟨by simp, h⟩, hw, fun u' h1 h2 => ⟨h1, h2⟩, Nat.le_refl _⟩

section
variable {G : PEl → Prop} {X : List Nat} {t : BT} {p : List PEl} {w wr : World} {A B : List Nd} {ctx : BT → BT} {b : Nat} {vm vc : Value} {ms : List PEl} {cs : List (PEl × BT)} {p' : List PEl}
theorem Hole.node_eq : A ++ BT.flat (.mk (b, vm, vc) ms cs) ++ B = A ++ [⟨b, vm, vc, ms, ksOf cs⟩] ++ (BT.flatL cs ++ B) := by rw [BT.flat_eq]; simp
theorem Hole.node (h : Hole G X t p w wr A B ctx (.mk (b, vm, vc) ms cs) p') : Store wr (bls (A ++ (BT.flatL cs ++ B)) ++ X) [⟨b, vm, vc, ms, ksOf cs⟩] := by
  have h1 := h.st
  rw [Hole.node_eq] at h1
  exact h1.part
theorem Hole.sub (h : Hole G X t p w wr A B ctx (.mk (b, vm, vc) ms cs) p') : ∀ g ∈ Nd.bl ⟨b, vm, vc, ms, ksOf cs⟩ ++ bls (A ++ (BT.flatL cs ++ B)), g ∈ bls (BT.flat t) ∨ w.heap.size ≤ g := fun g hg => by
  refine h.bl g ?_
  rw [Hole.node_eq]
  simp only [bls_app, List.mem_append, bls, List.flatMap_cons, List.flatMap_nil, List.append_nil] at hg ⊢
  rcases hg with hg | hg | hg | hg
  · exact .inl (.inr hg)
  · exact .inl (.inl hg)
  · exact .inr (.inl hg)
  · exact .inr (.inr hg)
theorem Hole.mvd (h : Hole G X t p w wr A B ctx (.mk (b, vm, vc) ms cs) p') : Mv w (bls (BT.flat t) ++ X) wr (Nd.bl ⟨b, vm, vc, ms, ksOf cs⟩ ++ (bls (A ++ (BT.flatL cs ++ B)) ++ X)) := ⟨h.mu.size, fun k hk hx => by
  simp only [List.mem_append, not_or] at hx
  refine ⟨h.mu.block k hk hx.1, fun hy => ?_⟩
  rw [← List.append_assoc] at hy
  rcases List.mem_append.1 hy with hy | hy
  · rcases h.sub k hy with h | h
    · exact hx.1 h
    · omega
  · exact hx.2 hy⟩
theorem Hole.old (h : Hole G X t p w wr A B ctx (.mk (b, vm, vc) ms cs) p') (hX : Old X w) : Old (bls (A ++ (BT.flatL cs ++ B)) ++ X) wr := fun g hg => by
  rcases List.mem_append.1 hg with hg | hg
  · refine h.st.lt g ?_
    rw [Hole.node_eq]
    simp only [bls_app, List.mem_append] at hg ⊢
    rcases hg with hg | hg | hg
    · exact .inl (.inl hg)
    · exact .inr (.inl hg)
    · exact .inr (.inr hg)
  · exact Nat.lt_of_lt_of_le (hX g hg) h.mu.size
/-- what a change of the node leaves -/
theorem Hole.change (h : Hole G X t p w wr A B ctx (.mk (b, vm, vc) ms cs) p') {w' : World} {N' : List Nd} (hM : Mut wr (Nd.bl ⟨b, vm, vc, ms, ksOf cs⟩) w') (hs : Store w' (bls (A ++ (BT.flatL cs ++ B)) ++ X) N') (hN : ∀ g ∈ bls N', g ∈ Nd.bl ⟨b, vm, vc, ms, ksOf cs⟩ ∨ wr.heap.size ≤ g) :
    Store w' X (A ++ N' ++ (BT.flatL cs ++ B)) ∧ Mut w (bls (BT.flat t)) w' ∧ ∀ g ∈ bls (A ++ N' ++ (BT.flatL cs ++ B)), g ∈ bls (BT.flat t) ∨ w.heap.size ≤ g := by
  have h1 := h.st
  rw [Hole.node_eq] at h1
  refine ⟨h1.join (N := [⟨b, vm, vc, ms, ksOf cs⟩]) (by simpa [bls] using hM) hs (by simpa [bls] using hN), h.mu.thenNew hM fun k hk => h.sub k (by simp [hk]), fun g hg => ?_⟩
  simp only [bls_app, List.mem_append] at hg
  rcases hg with (hg | hg) | hg | hg
  · exact h.sub g (by simp only [bls_app, List.mem_append]; exact .inr (.inl hg))
  · rcases hN g hg with h1 | h1
    · exact h.sub g (by simp [h1])
    · exact .inr (Nat.le_trans h.mu.size h1)
  · exact h.sub g (by simp only [bls_app, List.mem_append]; exact .inr (.inr (.inl hg)))
  · exact h.sub g (by simp only [bls_app, List.mem_append]; exact .inr (.inr (.inr hg)))
theorem Hole.member (ho : Cmpr cmpPe G) {e : PEl} (h : Hole G X t p w wr A B ctx (.mk (b, vm, vc) ms cs) [e]) (he : G e) {w' : World} {vm' : Value} (hM : Mut wr (Nd.bl ⟨b, vm, vc, ms, ksOf cs⟩) w') (hs : Store w' (bls (A ++ (BT.flatL cs ++ B)) ++ X) [⟨b, vm', vc, insC cmpPe ms e, ksOf cs⟩]) (hN : ∀ g ∈ vb vm', g ∈ vb vm ∨ wr.heap.size ≤ g) :
    ∃ t', PutIn G X t p w w' t' := by
  obtain ⟨h1, h2, h3⟩ := h.change hM hs (fun g hg => by
    simp only [bls, List.flatMap_cons, List.flatMap_nil, List.append_nil, Nd.bl, List.mem_cons, List.mem_append] at hg ⊢
    rcases hg with hg | hg | hg
    · exact .inl (.inl hg)
    · exact (hN g hg).imp (fun h => .inr (.inl h)) id
    · exact .inl (.inr (.inr hg)))
  have hc := h.cx (.mk (b, vm', vc) (insC cmpPe ms e) cs) rfl
  have hm := Tr.wf_member ho (t' := (b, vm', vc)) h.wf he
  have hw := h.has _ hm.1 hm.2
  rw [Hole.node_eq] at hc
  exact ⟨ctx (.mk (b, vm', vc) (insC cmpPe ms e) cs), by rw [hc.1]; exact h1, hw.1, hc.2, hw.2, h2, by rw [hc.1]; exact h3⟩
theorem Tr.paths_nil {β α : Type} (t : β) : (Tr.mk t [] [] : Tr β α).paths = [] := by rw [Tr.paths_eq]; rfl
theorem kid_len {s : BT} {x : PEl} {C1 C2 : List (PEl × BT)} {t0 : Nat × Value × Value} : s.paths.length ≤ (Tr.mk t0 ms (C1 ++ (x, s) :: C2)).paths.length := by
  rw [Tr.paths_eq (.mk t0 ms (C1 ++ (x, s) :: C2))]
  simp only [Tr.ms, Tr.cs, List.length_append, List.flatMap_append, List.flatMap_cons, List.length_map]
  omega
theorem Hole.found (ho : Cmpr cmpPe G) {e x : PEl} {p2 : List PEl} {C1 C2 : List (PEl × BT)} {s : BT} (h : Hole G X t p w wr A B ctx (.mk (b, vm, vc) ms (C1 ++ (x, s) :: C2)) (e :: p2)) (he : G e) (hp : p2 ≠ []) (hG : GP G p2) (hx : cmpPe x e = 0) {w' : World} (hE : Ext wr w') :
    Hole G X t p w w' (A ++ ⟨b, vm, vc, ms, ksOf (C1 ++ (x, s) :: C2)⟩ :: BT.flatL C1) (BT.flatL C2 ++ B) (fun s' => ctx (.mk (b, vm, vc) ms (C1 ++ (x, s') :: C2))) s p2 := by
  have e1 : ∀ s' : BT, BT.b s' = BT.b s → A ++ BT.flat (.mk (b, vm, vc) ms (C1 ++ (x, s') :: C2)) ++ B = (A ++ ⟨b, vm, vc, ms, ksOf (C1 ++ (x, s) :: C2)⟩ :: BT.flatL C1) ++ BT.flat s' ++ (BT.flatL C2 ++ B) := fun s' hs' => by
    rw [BT.flat_eq, BT.flatL_mid]
    simp [ksOf, hs']
  refine ⟨?_, h.mu.thenNew (hE.mut []) (by simp), ?_, fun s' hs' => ?_, ?_, fun s' h1 h2 => ?_, ?_⟩
  · rw [← e1 s rfl]; exact h.st.ext hE
  · rw [← e1 s rfl]; exact h.bl
  · have := h.cx (.mk (b, vm, vc) ms (C1 ++ (x, s') :: C2)) rfl
    rw [e1 s' hs'] at this
    exact this
  · have := h.wf
    cases this with
    | mk _ _ _ _ _ h6 => exact h6 (x, s) (by simp)
  · have hb := Tr.wf_below ho (t' := (b, vm, vc)) h.wf he hx hp hG h1 h2
    exact h.has _ hb.1 hb.2
  · exact Nat.le_trans kid_len h.len
theorem Hole.new (ho : Cmpr cmpPe G) {e : PEl} {p2 : List PEl} {C1 C2 : List (PEl × BT)} (h : Hole G X t p w wr A B ctx (.mk (b, vm, vc) ms (C1 ++ C2)) (e :: p2)) (he : G e) (hp : p2 ≠ []) (hG : GP G p2) (h1 : ∀ y ∈ C1, cmpPe y.1 e < 0) (h2 : ∀ y ∈ C2, cmpPe e y.1 < 0) {w' : World} {vc' : Value} {c : Nat}
    (hM : Mut wr (Nd.bl ⟨b, vm, vc, ms, ksOf (C1 ++ C2)⟩) w') (hs : Store w' (bls (A ++ (BT.flatL (C1 ++ C2) ++ B)) ++ X) [⟨b, vm, vc', ms, ksOf C1 ++ (e, c) :: ksOf C2⟩, ⟨c, .slice none 0 0, .slice none 0 0, [], []⟩]) (hN : ∀ g ∈ vb vc', g ∈ Nd.bl ⟨b, vm, vc, ms, ksOf (C1 ++ C2)⟩ ∨ wr.heap.size ≤ g) (hc : wr.heap.size ≤ c) :
    Hole G X t p w w' (A ++ ⟨b, vm, vc', ms, ksOf C1 ++ (e, c) :: ksOf C2⟩ :: BT.flatL C1) (BT.flatL C2 ++ B) (fun s' => ctx (.mk (b, vm, vc') ms (C1 ++ (e, s') :: C2))) (.mk (c, .slice none 0 0, .slice none 0 0) [] []) p2 := by
  obtain ⟨g1, g2, g3⟩ := h.change hM hs (fun g hg => by
    simp only [bls, List.flatMap_cons, List.flatMap_nil, List.append_nil, Nd.bl, List.mem_cons, List.mem_append, vb, Value.ownBlock, Option.toList_none, List.not_mem_nil, or_false] at hg hN ⊢
    rcases hg with (hg | hg | hg) | hg
    · exact .inl (.inl hg)
    · exact .inl (.inr (.inl hg))
    · exact hN g hg
    · exact .inr (hg ▸ hc))
  have e1 : ∀ s' : BT, BT.b s' = c → A ++ BT.flat (.mk (b, vm, vc') ms (C1 ++ (e, s') :: C2)) ++ B = (A ++ ⟨b, vm, vc', ms, ksOf C1 ++ (e, c) :: ksOf C2⟩ :: BT.flatL C1) ++ BT.flat s' ++ (BT.flatL C2 ++ B) := fun s' hs' => by
    rw [BT.flat_eq, BT.flatL_mid]
    simp [ksOf, hs']
  have pm : (A ++ [(⟨b, vm, vc', ms, ksOf C1 ++ (e, c) :: ksOf C2⟩ : Nd), ⟨c, .slice none 0 0, .slice none 0 0, [], []⟩] ++ (BT.flatL (C1 ++ C2) ++ B)).Perm ((A ++ ⟨b, vm, vc', ms, ksOf C1 ++ (e, c) :: ksOf C2⟩ :: BT.flatL C1) ++ BT.flat (.mk (c, .slice none 0 0, .slice none 0 0) [] []) ++ (BT.flatL C2 ++ B)) := by
    rw [BT.flat_eq, BT.flatL_app]
    simp only [List.append_assoc, List.cons_append, List.nil_append, BT.flatL, ksOf, List.map_nil]
    refine List.Perm.append_left _ (List.Perm.cons _ ?_)
    rw [← List.cons_append]
    exact List.perm_middle.symm
  refine ⟨g1.perm pm, g2, fun g hg => ?_, fun s' hs' => ?_, .mk (by simp [SrtC]) (by simp) (by simp [SrtC]) (by simp) (by simp) (by simp), fun s' k1 k2 => ?_, ?_⟩
  · exact g3 g ((pm.flatMap_right Nd.bl).mem_iff.2 hg)
  · have := h.cx (.mk (b, vm, vc') ms (C1 ++ (e, s') :: C2)) rfl
    rw [e1 s' hs'] at this
    exact this
  · have hb := Tr.wf_new ho (t' := (b, vm, vc')) (s' := s') h.wf he h1 h2 hp hG k1 (fun q hq => by
      rw [k2 q hq]
      constructor
      · rintro (hh | hh)
        · obtain ⟨z, hz, -⟩ := hh
          rw [Tr.paths_nil] at hz
          simp at hz
        · exact hh
      · exact .inr)
    exact h.has _ hb.1 hb.2
  · rw [Tr.paths_nil]; simp
end
end Go.Proofs.YtihapgangilncaaGreat
