/- What fromElem yields, compared and put in order (plain). slices.BinarySearchFunc over the nodes of a set, with whatever function value that compares (printed by gen_bsearchn.py). SetNodeMap.Descend, over the nodes of a set that paths are put into. A place within a set that a path is being put into (plain). -/
import Derived.Test.YtihapgangilncaaGreatKCFromE
import Derived.Test.YtihapgangilncaaGreatKCPeGood
import Derived.Test.YtihapgangilncaaGreatKCBSearch
import Derived.Test.YtihapgangilncaaGreatKCSetM
import Derived.Test.YtihapgangilncaaGreatKCIns
namespace Go.Proofs.YtihapgangilncaaGreat
open Go.RowKit
set_option linter.unusedSimpArgs false

theorem zip_back : ∀ (ks : List ByteArray) (l : List V), (ks.zip (V.plainL l)).map (·.1) = ks.take (min ks.length l.length) ∧ (ks.zip (V.plainL l)).map (fun p => p.2.back) = V.cleanL (l.take (min ks.length l.length))
  | [], l => by simp [V.cleanL]
  | k :: ks, [] => by simp [V.plainL, V.cleanL]
  | k :: ks, v :: l => by
    obtain ⟨h1, h2⟩ := zip_back ks l
    have e : min (k :: ks).length (v :: l).length = min ks.length l.length + 1 := by simp only [List.length_cons]; omega
    rw [e]
    simp only [V.plainL, List.zip_cons_cons, List.map_cons, List.take_succ_cons, V.cleanL, back_plain, h1, h2, and_self]

theorem cleanEl_back (e : EL) : cleanEl e = backE (toE e) := by
  obtain ⟨kind, s, keys, l, v, n⟩ := e
  unfold cleanEl toE
  dsimp only
  split
  · obtain ⟨h1, h2⟩ := zip_back keys l
    simp only [backE, h1, h2]
  · split
    · simp only [backE, back_plain]
    · split <;> rfl

theorem cmpT_back (v : V) (u : T) : cmpT v.plain.back.plain u = cmpT v.plain u := by
  unfold cmpT
  rw [back_plain, back_plain, clean_clean]

/-- elements of the program that stand for elements of the reference -/
def FromEl (p : PEl) : Prop := ∃ e, p = toE e

theorem cmpE_back : ∀ (ks : List ByteArray) (l : List V) (gs : EntsOfT T), cmpE cmpT ((ks.zip (V.plainL l)).map fun p => (p.1, p.2.back.plain)) gs = cmpE cmpT (ks.zip (V.plainL l)) gs
  | [], l, gs => by cases gs <;> simp
  | k :: ks, [], gs => by cases gs <;> simp [V.plainL]
  | k :: ks, v :: l, [] => by simp [V.plainL, cmpE]
  | k :: ks, v :: l, g :: gs => by
    simp only [V.plainL, List.zip_cons_cons, List.map_cons, cmpE, cmpT_back, cmpE_back ks l gs]

theorem cmpPe_back {p : PEl} (h : FromEl p) (q : PEl) : cmpPe (toE (backE p)) q = cmpPe p q := by
  obtain ⟨e, rfl⟩ := h
  obtain ⟨kind, s, keys, l, v, n⟩ := e
  unfold toE
  dsimp only
  split
  · have e1 : (backE (.key (keys.zip (V.plainL l)))).keys.zip (V.plainL (backE (.key (keys.zip (V.plainL l)))).l) = (keys.zip (V.plainL l)).map fun p => (p.1, p.2.back.plain) := by
      simp only [backE, V.plainL_eq, List.map_map]
      rw [List.zip_map']
      rfl
    rw [if_pos (show (backE (.key (keys.zip (V.plainL l)))).kind = 1 from rfl), e1]
    cases q <;> simp only [cmpPe]
    exact cmpE_back _ _ _
  · split
    · rw [if_neg (by simp [backE]), if_pos (by simp [backE])]
      cases q <;> simp only [cmpPe, backE]
      exact cmpT_back _ _
    · split
      · rw [if_neg (by simp [backE]), if_neg (by simp [backE]), if_pos (by simp [backE])]
        rfl
      · rw [if_neg (by simp [backE]), if_neg (by simp [backE]), if_neg (by simp [backE])]
        rfl

theorem tame_back {e : EL} (h : tameEl e) : tameEl (backE (toE e)) := by
  rw [← cleanEl_back]
  have hcc : cleanEl (cleanEl e) = cleanEl e := by
    obtain ⟨kind, s, keys, l, v, n⟩ := e
    unfold cleanEl
    dsimp only
    by_cases h1 : kind = 1
    · simp only [if_pos h1]
      have e1 : min (keys.take (min keys.length l.length)).length (V.cleanL (l.take (min keys.length l.length))).length = min keys.length l.length := by
        rw [cleanL_length, List.length_take, List.length_take]; omega
      simp only [if_true, e1, List.take_take, Nat.min_self]
      congr 1
      rw [List.take_of_length_le (by rw [cleanL_length, List.length_take]; omega), V.cleanL_eq, V.cleanL_eq, List.map_map]
      exact List.map_congr_left fun v _ => clean_clean v
    · simp only [if_neg h1]
      by_cases h2 : kind = 2
      · simp only [if_pos h2]
        simp [clean_clean]
      · simp only [if_neg h2]
        by_cases h3 : kind = 3
        · simp [if_pos h3]
        · simp [if_neg h3]
  unfold tameEl at h ⊢
  rw [hcc]
  exact h

/-- a place from which on all come behind t, and ahead of which nothing does: where t is put, if it is not there -/
theorem esIns_put {us : List PEl} {t : PEl} {j : Nat} (hj : j ≤ us.length) (hlo : ∀ h : 0 < j, cmpPe (us[j - 1]'(by omega)) t < 0) (hmono : ∀ i j (hi : i < us.length) (hj : j < us.length), i ≤ j → cmpPe us[j] t < 0 → cmpPe us[i] t < 0) (hhi : ∀ i (h : i < us.length), j ≤ i → 0 < cmpPe us[i] t) :
    esIns us t = us.take j ++ t :: us.drop j := by
  have hat : At us t j := ⟨hj, fun i hi hij => hmono i (j - 1) hi (by omega) (by omega) (hlo (by omega)), fun i hi hij => Int.le_of_lt (hhi i hi hij)⟩
  unfold esIns
  rw [at_count hat, insAt]
  rw [if_neg]
  unfold HasAt
  by_cases h : j < us.length
  · rw [List.getElem?_eq_getElem h]
    have := hhi j h (Nat.le_refl _)
    simp only [decide_eq_true_eq]
    omega
  · rw [List.getElem?_eq_none (by omega)]
    simp
theorem esIns_has {G : PEl → Prop} (hT : TransOn G) {us : List PEl} {t : PEl} {j : Nat} (hs : SortedPe us) (hG : ∀ x ∈ us, G x) (ht : G t) (hj : j < us.length) (h0 : cmpPe us[j] t = 0) : esIns us t = us := by
  obtain ⟨i, hat⟩ := at_ex (mono_of hT hs hG ht)
  unfold esIns
  rw [at_count hat, insAt, if_pos]
  obtain ⟨hi, hlo, hhi⟩ := hat
  have hij : i ≤ j := by
    rcases Nat.lt_or_ge j i with h | h
    · have := hlo j hj h; omega
    · exact h
  unfold HasAt
  rw [List.getElem?_eq_getElem (by omega)]
  simp only [decide_eq_true_eq]
  have h1 := hhi i (by omega) (Nat.le_refl _)
  by_cases e : i = j
  · subst e; exact h0
  · by_cases h2 : cmpPe (us[i]'(by omega)) t = 0
    · exact h2
    · exfalso
      have h3 : cmpPe t (us[i]'(by omega)) < 0 := by rw [cmpPe_neg' (us[i]'(by omega)) t]; omega
      have h4 := hs i j (by omega) hj (by omega)
      have h5 := hT _ _ _ ht (hG _ (List.getElem_mem (by omega))) (hG _ (List.getElem_mem hj)) h3 h4
      rw [cmpPe_neg' us[j] t, h0] at h5
      omega
end Go.Proofs.YtihapgangilncaaGreat
namespace Go.Proofs.YtihapgangilncaaGreat
open Go.RowKit
set_option linter.unusedSimpArgs false

/-- v is a row of set nodes with these path elements -/
def KeyRow (w : World) (v : Value) (us : List PEl) : Prop := ∃ o c b off, v = .slice o us.length c ∧ us.length ≤ c ∧ us.length * 40 ≤ 140737488351232 ∧ (0 < us.length → o = some ⟨b, off, none⟩) ∧
  ∀ i (h : i < us.length), ∃ c0 c1 c2 c3 c4 : Value, w.cell? ⟨b, off + i * 5, none⟩ = some c0 ∧ w.cell? ⟨b, off + i * 5 + 1, none⟩ = some c1 ∧ w.cell? ⟨b, off + i * 5 + 2, none⟩ = some c2 ∧ w.cell? ⟨b, off + i * 5 + 3, none⟩ = some c3 ∧ w.cell? ⟨b, off + i * 5 + 4, none⟩ = some c4 ∧ c4.oneCell' = true ∧ kPe.is w [] [c0, c1, c2, c3] us[i]
theorem KeyRow.ext {w w' : World} {v : Value} {us : List PEl} (h : KeyRow w v us) (hE : Ext w w') : KeyRow w' v us := by
  obtain ⟨o, c, b, off, rfl, l1, l2, l3, l4⟩ := h
  refine ⟨o, c, b, off, rfl, l1, l2, l3, fun i hi => ?_⟩
  obtain ⟨c0, c1, c2, c3, c4, h0, h1, h2, h3, h4, h5, h6⟩ := l4 i hi
  exact ⟨c0, c1, c2, c3, c4, hE.keep h0, hE.keep h1, hE.keep h2, hE.keep h3, hE.keep h4, h5, kPe.mv h6 (hE.mv [])⟩
end Go.Proofs.YtihapgangilncaaGreat
namespace Go.Proofs.YtihapgangilncaaGreat
open Go.RowKit
set_option linter.unusedSimpArgs false

theorem Store.vm {w : World} {X : List Nat} {n : Nd} (h : Store w X [n]) : Row kPe 89 w (n.b :: (vb n.vc ++ X)) n.vm n.ms := by
  have hn := h.nd
  simp only [bls, List.flatMap_cons, List.flatMap_nil, List.append_nil, Nd.bl, List.nodup_cons, List.nodup_append, List.mem_append, not_or] at hn
  obtain ⟨rows, h1, h2⟩ := (h.each n (by simp)).ms
  refine ⟨rows, h1, h2.imp fun _ _ h => kPe.mv h ((Mv.refl _ _).less fun b hb => ?_), fun g hg hx => ?_⟩
  · simp only [bls, List.flatMap_cons, List.flatMap_nil, List.append_nil, Nd.bl, List.mem_append, List.mem_cons] at hb ⊢
    rcases hb with hb | hb | hb | hb
    · exact .inl (.inr (.inl hb))
    · exact .inl (.inl hb)
    · exact .inl (.inr (.inr hb))
    · exact .inr hb
  · have hgv : g ∈ vb n.vm := by simp [vb, hg]
    simp only [List.mem_append, List.mem_cons] at hx
    rcases hx with hx | hx | hx
    · subst hx; exact hn.1.1 hgv
    · exact hn.2.2.2 g hgv g hx rfl
    · exact h.out g (by simp [bls, Nd.bl, hgv]) hx
theorem Store.vc {w : World} {X : List Nat} {n : Nd} (h : Store w X [n]) : Row kBk 183 w (n.b :: (vb n.vm ++ X)) n.vc n.ks := by
  have hn := h.nd
  simp only [bls, List.flatMap_cons, List.flatMap_nil, List.append_nil, Nd.bl, List.nodup_cons, List.nodup_append, List.mem_append, not_or] at hn
  obtain ⟨rows, h1, h2⟩ := (h.each n (by simp)).ks
  refine ⟨rows, h1, h2.imp fun _ _ h => kBk.mv h ((Mv.refl _ _).less fun b hb => ?_), fun g hg hx => ?_⟩
  · simp only [bls, List.flatMap_cons, List.flatMap_nil, List.append_nil, Nd.bl, List.mem_append, List.mem_cons] at hb ⊢
    rcases hb with hb | hb | hb | hb
    · exact .inl (.inr (.inr hb))
    · exact .inl (.inl hb)
    · exact .inl (.inr (.inl hb))
    · exact .inr hb
  · have hgv : g ∈ vb n.vc := by simp [vb, hg]
    simp only [List.mem_append, List.mem_cons] at hx
    rcases hx with hx | hx | hx
    · subst hx; exact hn.1.2 hgv
    · exact hn.2.2.2 g hx g hgv rfl
    · exact h.out g (by simp [bls, Nd.bl, hgv]) hx
theorem Store.app {w : World} {X : List Nat} {A B : List Nd} (hA : Store w (bls B ++ X) A) (hB : Store w (bls A ++ X) B) : Store w X (A ++ B) := by
  refine ⟨?_, fun b hb hx => ?_, fun n hn => ?_⟩
  · rw [bls_app]
    exact List.nodup_append.2 ⟨hA.nd, hB.nd, fun a ha b hb e => by subst e; exact hA.out a ha (by simp [hb])⟩
  · rw [bls_app] at hb
    rcases List.mem_append.1 hb with hb | hb
    · exact hA.out b hb (by simp [hx])
    · exact hB.out b hb (by simp [hx])
  · rcases List.mem_append.1 hn with hn | hn
    · refine (hA.each n hn).mv ((Mv.refl _ _).less fun b hb => ?_) fun _ _ => rfl
      simpa [bls_app, or_assoc] using hb
    · refine (hB.each n hn).mv ((Mv.refl _ _).less fun b hb => ?_) fun _ _ => rfl
      simp only [bls_app, List.mem_append] at hb ⊢
      rcases hb with (hb | hb) | hb
      · exact .inr (.inl hb)
      · exact .inl hb
      · exact .inr (.inr hb)
theorem Store.perm {w : World} {X : List Nat} {A B : List Nd} (h : Store w X A) (p : A.Perm B) : Store w X B := by
  have hp : (bls A).Perm (bls B) := p.flatMap_right _
  refine ⟨hp.nodup_iff.1 h.nd, fun b hb => h.out b (hp.mem_iff.2 hb), fun n hn => (h.each n (p.mem_iff.2 hn)).mv ((Mv.refl _ _).less fun b hb => ?_) fun _ _ => rfl⟩
  rcases List.mem_append.1 hb with hb | hb
  · exact List.mem_append_left _ (hp.mem_iff.2 hb)
  · exact List.mem_append_right _ hb

end Go.Proofs.YtihapgangilncaaGreat
namespace Go.Proofs.YtihapgangilncaaGreat
open Go.RowKit
set_option linter.unusedSimpArgs false

structure Hole (G : PEl → Prop) (X : List Nat) (t : BT) (p : List PEl) (w wr : World) (A B : List Nd) (ctx : BT → BT) (u : BT) (p' : List PEl) : Prop where
  st : Store wr X (A ++ BT.flat u ++ B)
  mu : Mut w (bls (BT.flat t)) wr
  bl : ∀ b ∈ bls (A ++ BT.flat u ++ B), b ∈ bls (BT.flat t) ∨ w.heap.size ≤ b
  cx : ∀ u', BT.b u' = BT.b u → BT.flat (ctx u') = A ++ BT.flat u' ++ B ∧ BT.b (ctx u') = BT.b t
  wf : Tr.Wf cmpPe G u
  has : ∀ u', Tr.Wf cmpPe G u' → (∀ q, GP G q → (Tr.has cmpPe u' q ↔ Tr.has cmpPe u q ∨ wc cmpPe p' q = 0)) → Tr.Wf cmpPe G (ctx u') ∧ ∀ q, GP G q → (Tr.has cmpPe (ctx u') q ↔ Tr.has cmpPe t q ∨ wc cmpPe p q = 0)
  len : u.paths.length ≤ t.paths.length

theorem Hole.start {G : PEl → Prop} {X : List Nat} {t : BT} {p : List PEl} {w : World} (hs : Store w X (BT.flat t)) (hw : Tr.Wf cmpPe G t) : Hole G X t p w w [] [] id t p :=
  ⟨by simpa using hs, (Ext.refl w).mut _, fun b hb => .inl (by simpa using hb), fun u' h => ⟨by simp, h⟩, hw, fun u' h1 h2 => ⟨h1, h2⟩, Nat.le_refl _⟩

section
variable {G : PEl → Prop} {X : List Nat} {t : BT} {p : List PEl} {w wr : World} {A B : List Nd} {ctx : BT → BT} {b : Nat} {vm vc : Value} {ms : List PEl} {cs : List (PEl × BT)} {p' : List PEl}
theorem Hole.node_eq : A ++ BT.flat (.mk (b, vm, vc) ms cs) ++ B = A ++ [⟨b, vm, vc, ms, ksOf cs⟩] ++ (BT.flatL cs ++ B) := by rw [BT.flat_eq]; simp
theorem Hole.node (h : Hole G X t p w wr A B ctx (.mk (b, vm, vc) ms cs) p') : Store wr (bls (A ++ (BT.flatL cs ++ B)) ++ X) [⟨b, vm, vc, ms, ksOf cs⟩] := by
  have h1 := h.st
  rw [Hole.node_eq] at h1
  exact h1.part
theorem Hole.sub (h : Hole G X t p w wr A B ctx (.mk (b, vm, vc) ms cs) p') : ∀ g ∈ Nd.bl ⟨b, vm, vc, ms, ksOf cs⟩ ++ bls (A ++ (BT.flatL cs ++ B)), g ∈ bls (BT.flat t) ∨ w.heap.size ≤ g := fun g hg => by
  refine h.bl g ?_
  rw [Hole.node_eq]
  simp only [bls_app, List.mem_append, bls, List.flatMap_cons, List.flatMap_nil, List.append_nil] at hg ⊢
  rcases hg with hg | hg | hg | hg
  · exact .inl (.inr hg)
  · exact .inl (.inl hg)
  · exact .inr (.inl hg)
  · exact .inr (.inr hg)
theorem Hole.mvd (h : Hole G X t p w wr A B ctx (.mk (b, vm, vc) ms cs) p') : Mv w (bls (BT.flat t) ++ X) wr (Nd.bl ⟨b, vm, vc, ms, ksOf cs⟩ ++ (bls (A ++ (BT.flatL cs ++ B)) ++ X)) := ⟨h.mu.size, fun k hk hx => by
  simp only [List.mem_append, not_or] at hx
  refine ⟨h.mu.block k hk hx.1, fun hy => ?_⟩
  rw [← List.append_assoc] at hy
  rcases List.mem_append.1 hy with hy | hy
  · rcases h.sub k hy with h | h
    · exact hx.1 h
    · omega
  · exact hx.2 hy⟩
theorem Hole.old (h : Hole G X t p w wr A B ctx (.mk (b, vm, vc) ms cs) p') (hX : Old X w) : Old (bls (A ++ (BT.flatL cs ++ B)) ++ X) wr := fun g hg => by
  rcases List.mem_append.1 hg with hg | hg
  · refine h.st.lt g ?_
    rw [Hole.node_eq]
    simp only [bls_app, List.mem_append] at hg ⊢
    rcases hg with hg | hg | hg
    · exact .inl (.inl hg)
    · exact .inr (.inl hg)
    · exact .inr (.inr hg)
  · exact Nat.lt_of_lt_of_le (hX g hg) h.mu.size
/-- what a change of the node leaves -/
theorem Hole.change (h : Hole G X t p w wr A B ctx (.mk (b, vm, vc) ms cs) p') {w' : World} {N' : List Nd} (hM : Mut wr (Nd.bl ⟨b, vm, vc, ms, ksOf cs⟩) w') (hs : Store w' (bls (A ++ (BT.flatL cs ++ B)) ++ X) N') (hN : ∀ g ∈ bls N', g ∈ Nd.bl ⟨b, vm, vc, ms, ksOf cs⟩ ∨ wr.heap.size ≤ g) :
    Store w' X (A ++ N' ++ (BT.flatL cs ++ B)) ∧ Mut w (bls (BT.flat t)) w' ∧ ∀ g ∈ bls (A ++ N' ++ (BT.flatL cs ++ B)), g ∈ bls (BT.flat t) ∨ w.heap.size ≤ g := by
  have h1 := h.st
  rw [Hole.node_eq] at h1
  refine ⟨h1.join (N := [⟨b, vm, vc, ms, ksOf cs⟩]) (by simpa [bls] using hM) hs (by simpa [bls] using hN), h.mu.thenNew hM fun k hk => h.sub k (by simp [hk]), fun g hg => ?_⟩
  simp only [bls_app, List.mem_append] at hg
  rcases hg with (hg | hg) | hg | hg
  · exact h.sub g (by simp only [bls_app, List.mem_append]; exact .inr (.inl hg))
  · rcases hN g hg with h1 | h1
    · exact h.sub g (by simp [h1])
    · exact .inr (Nat.le_trans h.mu.size h1)
  · exact h.sub g (by simp only [bls_app, List.mem_append]; exact .inr (.inr (.inl hg)))
  · exact h.sub g (by simp only [bls_app, List.mem_append]; exact .inr (.inr (.inr hg)))
theorem Tr.paths_nil {β α : Type} (t : β) : (Tr.mk t [] [] : Tr β α).paths = [] := by rw [Tr.paths_eq]; rfl
theorem Hole.new (ho : Cmpr cmpPe G) {e : PEl} {p2 : List PEl} {C1 C2 : List (PEl × BT)} (h : Hole G X t p w wr A B ctx (.mk (b, vm, vc) ms (C1 ++ C2)) (e :: p2)) (he : G e) (hp : p2 ≠ []) (hG : GP G p2) (h1 : ∀ y ∈ C1, cmpPe y.1 e < 0) (h2 : ∀ y ∈ C2, cmpPe e y.1 < 0) {w' : World} {vc' : Value} {c : Nat}
    (hM : Mut wr (Nd.bl ⟨b, vm, vc, ms, ksOf (C1 ++ C2)⟩) w') (hs : Store w' (bls (A ++ (BT.flatL (C1 ++ C2) ++ B)) ++ X) [⟨b, vm, vc', ms, ksOf C1 ++ (e, c) :: ksOf C2⟩, ⟨c, .slice none 0 0, .slice none 0 0, [], []⟩]) (hN : ∀ g ∈ vb vc', g ∈ Nd.bl ⟨b, vm, vc, ms, ksOf (C1 ++ C2)⟩ ∨ wr.heap.size ≤ g) (hc : wr.heap.size ≤ c) :
    Hole G X t p w w' (A ++ ⟨b, vm, vc', ms, ksOf C1 ++ (e, c) :: ksOf C2⟩ :: BT.flatL C1) (BT.flatL C2 ++ B) (fun s' => ctx (.mk (b, vm, vc') ms (C1 ++ (e, s') :: C2))) (.mk (c, .slice none 0 0, .slice none 0 0) [] []) p2 := by
  obtain ⟨g1, g2, g3⟩ := h.change hM hs (fun g hg => by
    simp only [bls, List.flatMap_cons, List.flatMap_nil, List.append_nil, Nd.bl, List.mem_cons, List.mem_append, vb, Value.ownBlock, Option.toList_none, List.not_mem_nil, or_false] at hg hN ⊢
    rcases hg with (hg | hg | hg) | hg
    · exact .inl (.inl hg)
    · exact .inl (.inr (.inl hg))
    · exact hN g hg
    · exact .inr (hg ▸ hc))
  have e1 : ∀ s' : BT, BT.b s' = c → A ++ BT.flat (.mk (b, vm, vc') ms (C1 ++ (e, s') :: C2)) ++ B = (A ++ ⟨b, vm, vc', ms, ksOf C1 ++ (e, c) :: ksOf C2⟩ :: BT.flatL C1) ++ BT.flat s' ++ (BT.flatL C2 ++ B) := fun s' hs' => by
    rw [BT.flat_eq, BT.flatL_mid]
    simp [ksOf, hs']
  have pm : (A ++ [(⟨b, vm, vc', ms, ksOf C1 ++ (e, c) :: ksOf C2⟩ : Nd), ⟨c, .slice none 0 0, .slice none 0 0, [], []⟩] ++ (BT.flatL (C1 ++ C2) ++ B)).Perm ((A ++ ⟨b, vm, vc', ms, ksOf C1 ++ (e, c) :: ksOf C2⟩ :: BT.flatL C1) ++ BT.flat (.mk (c, .slice none 0 0, .slice none 0 0) [] []) ++ (BT.flatL C2 ++ B)) := by
    rw [BT.flat_eq, BT.flatL_app]
    simp only [List.append_assoc, List.cons_append, List.nil_append, BT.flatL, ksOf, List.map_nil]
    refine List.Perm.append_left _ (List.Perm.cons _ ?_)
    rw [← List.cons_append]
    exact List.perm_middle.symm
  refine ⟨g1.perm pm, g2, fun g hg => ?_, fun s' hs' => ?_, .mk (by simp [SrtC]) (by simp) (by simp [SrtC]) (by simp) (by simp) (by simp), fun s' k1 k2 => ?_, ?_⟩
  · exact g3 g ((pm.flatMap_right Nd.bl).mem_iff.2 hg)
  · have := h.cx (.mk (b, vm, vc') ms (C1 ++ (e, s') :: C2)) rfl
    rw [e1 s' hs'] at this
    exact this
  · have hb := Tr.wf_new ho (t' := (b, vm, vc')) (s' := s') h.wf he h1 h2 hp hG k1 (fun q hq => by
      rw [k2 q hq]
      constructor
      · rintro (hh | hh)
        · obtain ⟨z, hz, -⟩ := hh
          rw [Tr.paths_nil] at hz
          simp at hz
        · exact hh
      · exact .inr)
    exact h.has _ hb.1 hb.2
  · rw [Tr.paths_nil]; simp
end
end Go.Proofs.YtihapgangilncaaGreat
