/- What fromElem yields, compared and put in order (plain). Path elements that come of orderly elements of impl (plain). A place within a set that a path is being put into (plain). -/
import Derived.Test.YtihapgangilncaaGreatKAFromE
import Derived.Test.YtihapgangilncaaGreatKASCmp
import Derived.Test.YtihapgangilncaaGreatKASetL
import Derived.Test.YtihapgangilncaaGreatKADescend
namespace Go.Proofs.YtihapgangilncaaGreat
open Go.RowKit
set_option linter.unusedSimpArgs false

theorem zip_back : ∀ (ks : List ByteArray) (l : List V), (ks.zip (V.plainL l)).map (·.1) = ks.take (min ks.length l.length) ∧ (ks.zip (V.plainL l)).map (fun p => p.2.back) = V.cleanL (l.take (min ks.length l.length))
  | [], l => by simp [V.cleanL]
  | k :: ks, [] => by simp [V.plainL, V.cleanL]
  | k :: ks, v :: l => by
    obtain ⟨h1, h2⟩ := zip_back ks l
    have e : min (k :: ks).length (v :: l).length = min ks.length l.length + 1 := by simp only [List.length_cons]; omega
    rw [e]
    simp only [V.plainL, List.zip_cons_cons, List.map_cons, List.take_succ_cons, V.cleanL, back_plain, h1, h2, and_self]

theorem cleanEl_back (e : EL) : cleanEl e = backE (toE e) := by
  obtain ⟨kind, s, keys, l, v, n⟩ := e
  unfold cleanEl toE
  dsimp only
  split
  · obtain ⟨h1, h2⟩ := zip_back keys l
    simp only [backE, h1, h2]
  · split
    · simp only [backE, back_plain]
    · split <;> rfl

theorem cmpT_back (v : V) (u : T) : cmpT v.plain.back.plain u = cmpT v.plain u := by
  unfold cmpT
  rw [back_plain, back_plain, clean_clean]

/-- elements of the program that stand for elements of the reference -/
def FromEl (p : PEl) : Prop := ∃ e, p = toE e

theorem cmpE_back : ∀ (ks : List ByteArray) (l : List V) (gs : EntsOfT T), cmpE cmpT ((ks.zip (V.plainL l)).map fun p => (p.1, p.2.back.plain)) gs = cmpE cmpT (ks.zip (V.plainL l)) gs
  | [], l, gs => by cases gs <;> simp
  | k :: ks, [], gs => by cases gs <;> simp [V.plainL]
  | k :: ks, v :: l, [] => by simp [V.plainL, cmpE]
  | k :: ks, v :: l, g :: gs => by
    simp only [V.plainL, List.zip_cons_cons, List.map_cons, cmpE, cmpT_back, cmpE_back ks l gs]

theorem cmpPe_back {p : PEl} (h : FromEl p) (q : PEl) : cmpPe (toE (backE p)) q = cmpPe p q := by
  obtain ⟨e, rfl⟩ := h
  obtain ⟨kind, s, keys, l, v, n⟩ := e
  unfold toE
  dsimp only
  split
  · have e1 : (backE (.key (keys.zip (V.plainL l)))).keys.zip (V.plainL (backE (.key (keys.zip (V.plainL l)))).l) = (keys.zip (V.plainL l)).map fun p => (p.1, p.2.back.plain) := by
      simp only [backE, V.plainL_eq, List.map_map]
      rw [List.zip_map']
      rfl
    rw [if_pos (show (backE (.key (keys.zip (V.plainL l)))).kind = 1 from rfl), e1]
    cases q <;> simp only [cmpPe]
    exact cmpE_back _ _ _
  · split
    · rw [if_neg (by simp [backE]), if_pos (by simp [backE])]
      cases q <;> simp only [cmpPe, backE]
      exact cmpT_back _ _
    · split
      · rw [if_neg (by simp [backE]), if_neg (by simp [backE]), if_pos (by simp [backE])]
        rfl
      · rw [if_neg (by simp [backE]), if_neg (by simp [backE]), if_neg (by simp [backE])]
        rfl

theorem tame_back {e : EL} (h : tameEl e) : tameEl (backE (toE e)) := by
  rw [← cleanEl_back]
  have hcc : cleanEl (cleanEl e) = cleanEl e := by
    obtain ⟨kind, s, keys, l, v, n⟩ := e
    unfold cleanEl
    dsimp only
    by_cases h1 : kind = 1
    · simp only [if_pos h1]
      have e1 : min (keys.take (min keys.length l.length)).length (V.cleanL (l.take (min keys.length l.length))).length = min keys.length l.length := by
        rw [cleanL_length, List.length_take, List.length_take]; omega
      simp only [if_true, e1, List.take_take, Nat.min_self]
      congr 1
      rw [List.take_of_length_le (by rw [cleanL_length, List.length_take]; omega), V.cleanL_eq, V.cleanL_eq, List.map_map]
      exact List.map_congr_left fun v _ => clean_clean v
    · simp only [if_neg h1]
      by_cases h2 : kind = 2
      · simp only [if_pos h2]
        simp [clean_clean]
      · simp only [if_neg h2]
        by_cases h3 : kind = 3
        · simp [if_pos h3]
        · simp [if_neg h3]
  unfold tameEl at h ⊢
  rw [hcc]
  exact h

end Go.Proofs.YtihapgangilncaaGreat
namespace Go.Proofs.YtihapgangilncaaGreat
open Go.RowKit
set_option linter.unusedSimpArgs false

theorem cmpE_eq0 : ∀ {P Q : EntsOfT T}, (∀ p ∈ P, ∀ q ∈ Q, (eqT p.2 q.2 = true ↔ cmpT p.2 q.2 = 0)) → (listB eqFd P Q = true ↔ cmpE cmpT P Q = 0)
  | [], [], _ => by simp [listB, pairB, cmpE]
  | [], _ :: _, _ => by simp [listB, cmpE]
  | _ :: _, [], _ => by simp [listB, cmpE]
  | p :: P, q :: Q, h => by
    have h0 := h p (by simp) q (by simp)
    have h1 := cmpE_eq0 (P := P) (Q := Q) (fun x hx y hy => h x (by simp [hx]) y (by simp [hy]))
    simp only [listB, pairB, eqFd, cmpE, List.length_cons, Bool.and_eq_true, decide_eq_true_eq, Nat.add_right_cancel_iff, beq_iff_eq] at h1 ⊢
    rw [h0]
    by_cases hk : cmpS p.1 q.1 = 0
    · have hkk := cmpS_zero.1 hk
      by_cases hz : cmpT p.2 q.2 = 0
      · rw [if_neg (by simp [hk]), if_neg (by simp [hz]), ← h1]; simp [hz, hkk]
      · rw [if_neg (by simp [hk]), if_pos hz]; simp [hz]
    · have hkk : p.1 ≠ q.1 := fun e => hk (cmpS_zero.2 e)
      rw [if_pos hk]; simp [hk, hkk]
theorem eqT_cmp0 {u v : V} (hu : u.clean.orderly = true) (hv : v.clean.orderly = true) : eqT u.plain v.plain = true ↔ cmpT u.plain v.plain = 0 := by
  rw [eqT_plain, cmpT_plain]
  exact cmpP_eq (clean_cl u) (clean_cl v) hu hv
theorem key_tame0 {e : EL} (h : tameEl e) (hk : e.kind = 1) : ∀ p ∈ e.keys.zip (V.plainL e.l), ∃ v : V, p.2 = v.plain ∧ v.clean.orderly = true := by
  intro p hp
  rw [V.plainL_eq, ← zip_map_right] at hp
  obtain ⟨q, hq, rfl⟩ := List.mem_map.1 hp
  obtain ⟨i, hi, rfl⟩ := List.getElem_of_mem hq
  obtain ⟨-, h2⟩ := h
  unfold cleanEl at h2
  rw [if_pos hk] at h2
  have hi1 : i < e.keys.length := by rw [List.length_zip] at hi; omega
  have hi2 : i < e.l.length := by rw [List.length_zip] at hi; omega
  have ho := (orderlyL_iff _).1 h2 i (by rw [cleanL_length, List.length_take]; omega)
  have e1 : (V.cleanL (e.l.take (min e.keys.length e.l.length)))[i]'(by rw [cleanL_length, List.length_take]; omega) = (e.l[i]).clean := by
    rw [cleanL_get (by rw [List.length_take]; omega), List.getElem_take]
  rw [e1] at ho
  exact ⟨e.l[i], by simp, ho⟩
theorem value_tame0 {e : EL} (h : tameEl e) (hk : e.kind = 2) : e.v.clean.orderly = true := by
  obtain ⟨h1, -⟩ := h
  unfold cleanEl at h1
  rw [if_neg (by omega), if_pos hk] at h1
  exact h1
theorem eqE_cmp0 {a b : EL} (ha : tameEl a) (hb : tameEl b) : eqE (toE a) (toE b) = true ↔ cmpPe (toE a) (toE b) = 0 := by
  unfold toE
  by_cases a1 : a.kind = 1
  · rw [if_pos a1]
    by_cases b1 : b.kind = 1
    · rw [if_pos b1]
      refine cmpE_eq0 fun p hp q hq => ?_
      obtain ⟨u, e1, hu⟩ := key_tame0 ha a1 p hp
      obtain ⟨v, e2, hv⟩ := key_tame0 hb b1 q hq
      rw [e1, e2]
      exact eqT_cmp0 hu hv
    · rw [if_neg b1]; split <;> (try split) <;> simp [eqE, cmpPe]
  · rw [if_neg a1]
    by_cases a2 : a.kind = 2
    · rw [if_pos a2]
      by_cases b1 : b.kind = 1
      · rw [if_pos b1]; simp [eqE, cmpPe]
      · rw [if_neg b1]
        by_cases b2 : b.kind = 2
        · rw [if_pos b2]
          exact eqT_cmp0 (value_tame0 ha a2) (value_tame0 hb b2)
        · rw [if_neg b2]; split <;> simp [eqE, cmpPe]
    · rw [if_neg a2]
      by_cases a3 : a.kind = 3
      · rw [if_pos a3]
        split
        · simp [eqE, cmpPe]
        split
        · simp [eqE, cmpPe]
        split
        · simp [eqE, cmpPe, cmpI_zero]
        · simp [eqE, cmpPe]
      · rw [if_neg a3]
        split
        · simp [eqE, cmpPe]
        split
        · simp [eqE, cmpPe]
        split
        · simp [eqE, cmpPe]
        · simp [eqE, cmpPe, cmpS_zero]

theorem tr_good {a b c : PEl} (ha : GoodPe a) (hb : GoodPe b) (hc : GoodPe c) : tr (cmpPe a b) (cmpPe b c) (cmpPe a c) := by
  cases a <;> cases b <;> cases c <;> simp only [cmpPe] <;> first
    | exact tr_S _ _ _
    | exact tr_I _ _ _
    | exact tr_T ha hb hc
    | exact tr_E fun p hp q hq s hs => tr_T (ha p hp) (hb q hq) (hc s hs)
    | (unfold tr; refine ⟨fun _ _ => ?_, fun _ _ => ?_, fun _ _ => ?_⟩ <;> omega)
    | (unfold tr; simp)
def GoodE (x : PEl) : Prop := ∃ e : EL, tameEl e ∧ e.l.length * 88 ≤ 140737488351232 ∧ x = toE e
theorem goodE_ord : Cmpr cmpPe GoodE := ⟨cmpPe_neg', cmpPe_rng', fun {a b d} ha hb hd => by
  obtain ⟨e1, t1, -, rfl⟩ := ha
  obtain ⟨e2, t2, -, rfl⟩ := hb
  obtain ⟨e3, t3, -, rfl⟩ := hd
  exact tr_good (good_toE t1) (good_toE t2) (good_toE t3)⟩
theorem goodE_from {x : PEl} (h : GoodE x) : FromEl x := by
  obtain ⟨e, -, -, rfl⟩ := h
  exact ⟨e, rfl⟩
theorem goodE_small {x : PEl} (h : GoodE x) : SmallPe x := by
  obtain ⟨e, -, h2, rfl⟩ := h
  unfold toE
  split
  · show (e.keys.zip (V.plainL e.l)).length * 88 ≤ _
    have : (V.plainL e.l).length = e.l.length := by rw [V.plainL_eq, List.length_map]
    rw [List.length_zip, this]
    refine Nat.le_trans (Nat.mul_le_mul_right 88 (Nat.min_le_right _ _)) h2
  · split
    · trivial
    · split <;> trivial
theorem goodE_back {x : PEl} (h : GoodE x) : GoodE (toE (backE x)) := by
  obtain ⟨e, h1, h2, rfl⟩ := h
  refine ⟨backE (toE e), tame_back h1, ?_, rfl⟩
  unfold toE
  split
  · show ((e.keys.zip (V.plainL e.l)).map (fun p => p.2.back)).length * 88 ≤ _
    have : (V.plainL e.l).length = e.l.length := by rw [V.plainL_eq, List.length_map]
    rw [List.length_map, List.length_zip, this]
    refine Nat.le_trans (Nat.mul_le_mul_right 88 (Nat.min_le_right _ _)) h2
  · split
    · simp [backE]
    · split <;> simp [backE]
theorem goodE_eq {x y : PEl} (hx : GoodE x) (hy : GoodE y) : eqEl (backE x) (backE y) = true ↔ cmpPe x y = 0 := by
  obtain ⟨e, h1, -, rfl⟩ := id hx
  obtain ⟨f, g1, -, rfl⟩ := id hy
  rw [← eqE_toE, eqE_cmp0 (tame_back h1) (tame_back g1), cmpPe_back (goodE_from hx), cmpPe_neg' _ (toE e), cmpPe_back (goodE_from hy), cmpPe_neg' (toE e)]
  omega
theorem goodE_list {p q : List PEl} (hp : GP GoodE p) (hq : GP GoodE q) : listB eqEl (p.map backE) (q.map backE) = true ↔ wc cmpPe p q = 0 := by
  rw [wc_zero]
  induction p generalizing q with
  | nil =>
    cases q with
    | nil => simp [listB, pairB]; exact .nil
    | cons y q => simp [listB]; intro h; cases h
  | cons x p ih =>
    cases q with
    | nil => simp [listB]; intro h; cases h
    | cons y q =>
      have h1 := goodE_eq (hp x (by simp)) (hq y (by simp))
      have h2 := ih (q := q) (fun z hz => hp z (by simp [hz])) (fun z hz => hq z (by simp [hz]))
      simp only [listB, List.length_map, Bool.and_eq_true, decide_eq_true_eq] at h2
      simp only [listB, List.map_cons, List.length_cons, List.length_map, pairB, Bool.and_eq_true, decide_eq_true_eq, Nat.add_right_cancel_iff, h1]
      constructor
      · rintro ⟨h3, h4, h5⟩; exact .cons h4 (h2.1 ⟨h3, h5⟩)
      · intro h
        cases h with
        | cons h3 h4 => have := h2.2 h4; exact ⟨this.1, h3, this.2⟩
theorem goodE_lists {a b : List (List PEl)} (ha : ∀ p ∈ a, GP GoodE p) (hb : ∀ p ∈ b, GP GoodE p) : listB (listB eqEl) (a.map (·.map backE)) (b.map (·.map backE)) = true ↔ All2 (fun p q => wc cmpPe p q = 0) a b := by
  induction a generalizing b with
  | nil =>
    cases b with
    | nil => simp [listB, pairB]; exact .nil
    | cons y q => simp [listB]; intro h; cases h
  | cons x a ih =>
    cases b with
    | nil => simp [listB]; intro h; cases h
    | cons y b =>
      have h1 := goodE_list (ha x (by simp)) (hb y (by simp))
      have h2 := ih (b := b) (fun z hz => ha z (by simp [hz])) (fun z hz => hb z (by simp [hz]))
      simp only [listB, List.length_map, Bool.and_eq_true, decide_eq_true_eq] at h1 h2
      simp only [listB, List.map_cons, List.length_cons, List.length_map, pairB, Bool.and_eq_true, decide_eq_true_eq, Nat.add_right_cancel_iff, h1]
      constructor
      · rintro ⟨h3, h4, h5⟩; exact .cons h4 (h2.1 ⟨h3, h5⟩)
      · intro h
        cases h with
        | cons h3 h4 => have := h2.2 h4; exact ⟨this.1, h3, this.2⟩
end Go.Proofs.YtihapgangilncaaGreat
namespace Go.Proofs.YtihapgangilncaaGreat
open Go.RowKit
set_option linter.unusedSimpArgs false

/-- t has become t', which has the path p besides -/
structure PutIn (G : PEl → Prop) (X : List Nat) (t : BT) (p : List PEl) (w w' : World) (t' : BT) : Prop where
  st : Store w' X (BT.flat t')
  wf : Tr.Wf cmpPe G t'
  b : BT.b t' = BT.b t
  has : ∀ q, GP G q → (Tr.has cmpPe t' q ↔ Tr.has cmpPe t q ∨ wc cmpPe p q = 0)
  mu : Mut w (bls (BT.flat t)) w'
  bl : ∀ b ∈ bls (BT.flat t'), b ∈ bls (BT.flat t) ∨ w.heap.size ≤ b

structure Hole (G : PEl → Prop) (X : List Nat) (t : BT) (p : List PEl) (w wr : World) (A B : List Nd) (ctx : BT → BT) (u : BT) (p' : List PEl) : Prop where
  st : Store wr X (A ++ BT.flat u ++ B)
  mu : Mut w (bls (BT.flat t)) wr
  bl : ∀ b ∈ bls (A ++ BT.flat u ++ B), b ∈ bls (BT.flat t) ∨ w.heap.size ≤ b
  cx : ∀ u', BT.b u' = BT.b u → BT.flat (ctx u') = A ++ BT.flat u' ++ B ∧ BT.b (ctx u') = BT.b t
  wf : Tr.Wf cmpPe G u
  has : ∀ u', Tr.Wf cmpPe G u' → (∀ q, GP G q → (Tr.has cmpPe u' q ↔ Tr.has cmpPe u q ∨ wc cmpPe p' q = 0)) → Tr.Wf cmpPe G (ctx u') ∧ ∀ q, GP G q → (Tr.has cmpPe (ctx u') q ↔ Tr.has cmpPe t q ∨ wc cmpPe p q = 0)
  len : u.paths.length ≤ t.paths.length

theorem Hole.start {G : PEl → Prop} {X : List Nat} {t : BT} {p : List PEl} {w : World} (hs : Store w X (BT.flat t)) (hw : Tr.Wf cmpPe G t) : Hole G X t p w w [] [] id t p :=
  ⟨by simpa using hs, (Ext.refl w).mut _, fun b hb => .inl (by simpa using hb), fun u' h => ⟨by simp, h⟩, hw, fun u' h1 h2 => ⟨h1, h2⟩, Nat.le_refl _⟩

section
variable {G : PEl → Prop} {X : List Nat} {t : BT} {p : List PEl} {w wr : World} {A B : List Nd} {ctx : BT → BT} {b : Nat} {vm vc : Value} {ms : List PEl} {cs : List (PEl × BT)} {p' : List PEl}
theorem Hole.node_eq : A ++ BT.flat (.mk (b, vm, vc) ms cs) ++ B = A ++ [⟨b, vm, vc, ms, ksOf cs⟩] ++ (BT.flatL cs ++ B) := by rw [BT.flat_eq]; simp
theorem Hole.node (h : Hole G X t p w wr A B ctx (.mk (b, vm, vc) ms cs) p') : Store wr (bls (A ++ (BT.flatL cs ++ B)) ++ X) [⟨b, vm, vc, ms, ksOf cs⟩] := by
  have h1 := h.st
  rw [Hole.node_eq] at h1
  exact h1.part
theorem Hole.sub (h : Hole G X t p w wr A B ctx (.mk (b, vm, vc) ms cs) p') : ∀ g ∈ Nd.bl ⟨b, vm, vc, ms, ksOf cs⟩ ++ bls (A ++ (BT.flatL cs ++ B)), g ∈ bls (BT.flat t) ∨ w.heap.size ≤ g := fun g hg => by
  refine h.bl g ?_
  rw [Hole.node_eq]
  simp only [bls_app, List.mem_append, bls, List.flatMap_cons, List.flatMap_nil, List.append_nil] at hg ⊢
  rcases hg with hg | hg | hg | hg
  · exact .inl (.inr hg)
  · exact .inl (.inl hg)
  · exact .inr (.inl hg)
  · exact .inr (.inr hg)
theorem Hole.mvd (h : Hole G X t p w wr A B ctx (.mk (b, vm, vc) ms cs) p') : Mv w (bls (BT.flat t) ++ X) wr (Nd.bl ⟨b, vm, vc, ms, ksOf cs⟩ ++ (bls (A ++ (BT.flatL cs ++ B)) ++ X)) := ⟨h.mu.size, fun k hk hx => by
  simp only [List.mem_append, not_or] at hx
  refine ⟨h.mu.block k hk hx.1, fun hy => ?_⟩
  rw [← List.append_assoc] at hy
  rcases List.mem_append.1 hy with hy | hy
  · rcases h.sub k hy with h | h
    · exact hx.1 h
    · omega
  · exact hx.2 hy⟩
theorem Hole.old (h : Hole G X t p w wr A B ctx (.mk (b, vm, vc) ms cs) p') (hX : Old X w) : Old (bls (A ++ (BT.flatL cs ++ B)) ++ X) wr := fun g hg => by
  rcases List.mem_append.1 hg with hg | hg
  · refine h.st.lt g ?_
    rw [Hole.node_eq]
    simp only [bls_app, List.mem_append] at hg ⊢
    rcases hg with hg | hg | hg
    · exact .inl (.inl hg)
    · exact .inr (.inl hg)
    · exact .inr (.inr hg)
  · exact Nat.lt_of_lt_of_le (hX g hg) h.mu.size
/-- what a change of the node leaves -/
theorem Hole.change (h : Hole G X t p w wr A B ctx (.mk (b, vm, vc) ms cs) p') {w' : World} {N' : List Nd} (hM : Mut wr (Nd.bl ⟨b, vm, vc, ms, ksOf cs⟩) w') (hs : Store w' (bls (A ++ (BT.flatL cs ++ B)) ++ X) N') (hN : ∀ g ∈ bls N', g ∈ Nd.bl ⟨b, vm, vc, ms, ksOf cs⟩ ∨ wr.heap.size ≤ g) :
    Store w' X (A ++ N' ++ (BT.flatL cs ++ B)) ∧ Mut w (bls (BT.flat t)) w' ∧ ∀ g ∈ bls (A ++ N' ++ (BT.flatL cs ++ B)), g ∈ bls (BT.flat t) ∨ w.heap.size ≤ g := by
  have h1 := h.st
  rw [Hole.node_eq] at h1
  refine ⟨h1.join (N := [⟨b, vm, vc, ms, ksOf cs⟩]) (by simpa [bls] using hM) hs (by simpa [bls] using hN), h.mu.thenNew hM fun k hk => h.sub k (by simp [hk]), fun g hg => ?_⟩
  simp only [bls_app, List.mem_append] at hg
  rcases hg with (hg | hg) | hg | hg
  · exact h.sub g (by simp only [bls_app, List.mem_append]; exact .inr (.inl hg))
  · rcases hN g hg with h1 | h1
    · exact h.sub g (by simp [h1])
    · exact .inr (Nat.le_trans h.mu.size h1)
  · exact h.sub g (by simp only [bls_app, List.mem_append]; exact .inr (.inr (.inl hg)))
  · exact h.sub g (by simp only [bls_app, List.mem_append]; exact .inr (.inr (.inr hg)))
theorem Hole.member (ho : Cmpr cmpPe G) {e : PEl} (h : Hole G X t p w wr A B ctx (.mk (b, vm, vc) ms cs) [e]) (he : G e) {w' : World} {vm' : Value} (hM : Mut wr (Nd.bl ⟨b, vm, vc, ms, ksOf cs⟩) w') (hs : Store w' (bls (A ++ (BT.flatL cs ++ B)) ++ X) [⟨b, vm', vc, insC cmpPe ms e, ksOf cs⟩]) (hN : ∀ g ∈ vb vm', g ∈ vb vm ∨ wr.heap.size ≤ g) :
    ∃ t', PutIn G X t p w w' t' := by
  obtain ⟨h1, h2, h3⟩ := h.change hM hs (fun g hg => by
    simp only [bls, List.flatMap_cons, List.flatMap_nil, List.append_nil, Nd.bl, List.mem_cons, List.mem_append] at hg ⊢
    rcases hg with hg | hg | hg
    · exact .inl (.inl hg)
    · exact (hN g hg).imp (fun h => .inr (.inl h)) id
    · exact .inl (.inr (.inr hg)))
  have hc := h.cx (.mk (b, vm', vc) (insC cmpPe ms e) cs) rfl
  have hm := Tr.wf_member ho (t' := (b, vm', vc)) h.wf he
  have hw := h.has _ hm.1 hm.2
  rw [Hole.node_eq] at hc
  exact ⟨ctx (.mk (b, vm', vc) (insC cmpPe ms e) cs), by rw [hc.1]; exact h1, hw.1, hc.2, hw.2, h2, by rw [hc.1]; exact h3⟩
theorem Tr.paths_nil {β α : Type} (t : β) : (Tr.mk t [] [] : Tr β α).paths = [] := by rw [Tr.paths_eq]; rfl
theorem kid_len {s : BT} {x : PEl} {C1 C2 : List (PEl × BT)} {t0 : Nat × Value × Value} : s.paths.length ≤ (Tr.mk t0 ms (C1 ++ (x, s) :: C2)).paths.length := by
  rw [Tr.paths_eq (.mk t0 ms (C1 ++ (x, s) :: C2))]
  simp only [Tr.ms, Tr.cs, List.length_append, List.flatMap_append, List.flatMap_cons, List.length_map]
  omega
theorem Hole.found (ho : Cmpr cmpPe G) {e x : PEl} {p2 : List PEl} {C1 C2 : List (PEl × BT)} {s : BT} (h : Hole G X t p w wr A B ctx (.mk (b, vm, vc) ms (C1 ++ (x, s) :: C2)) (e :: p2)) (he : G e) (hp : p2 ≠ []) (hG : GP G p2) (hx : cmpPe x e = 0) {w' : World} (hE : Ext wr w') :
    Hole G X t p w w' (A ++ ⟨b, vm, vc, ms, ksOf (C1 ++ (x, s) :: C2)⟩ :: BT.flatL C1) (BT.flatL C2 ++ B) (fun s' => ctx (.mk (b, vm, vc) ms (C1 ++ (x, s') :: C2))) s p2 := by
  have e1 : ∀ s' : BT, BT.b s' = BT.b s → A ++ BT.flat (.mk (b, vm, vc) ms (C1 ++ (x, s') :: C2)) ++ B = (A ++ ⟨b, vm, vc, ms, ksOf (C1 ++ (x, s) :: C2)⟩ :: BT.flatL C1) ++ BT.flat s' ++ (BT.flatL C2 ++ B) := fun s' hs' => by
    rw [BT.flat_eq, BT.flatL_mid]
    simp [ksOf, hs']
  refine ⟨?_, h.mu.thenNew (hE.mut []) (by simp), ?_, fun s' hs' => ?_, ?_, fun s' h1 h2 => ?_, ?_⟩
  · rw [← e1 s rfl]; exact h.st.ext hE
  · rw [← e1 s rfl]; exact h.bl
  · have := h.cx (.mk (b, vm, vc) ms (C1 ++ (x, s') :: C2)) rfl
    rw [e1 s' hs'] at this
    exact this
  · have := h.wf
    cases this with
    | mk _ _ _ _ _ h6 => exact h6 (x, s) (by simp)
  · have hb := Tr.wf_below ho (t' := (b, vm, vc)) h.wf he hx hp hG h1 h2
    exact h.has _ hb.1 hb.2
  · exact Nat.le_trans kid_len h.len
theorem Hole.new (ho : Cmpr cmpPe G) {e : PEl} {p2 : List PEl} {C1 C2 : List (PEl × BT)} (h : Hole G X t p w wr A B ctx (.mk (b, vm, vc) ms (C1 ++ C2)) (e :: p2)) (he : G e) (hp : p2 ≠ []) (hG : GP G p2) (h1 : ∀ y ∈ C1, cmpPe y.1 e < 0) (h2 : ∀ y ∈ C2, cmpPe e y.1 < 0) {w' : World} {vc' : Value} {c : Nat}
    (hM : Mut wr (Nd.bl ⟨b, vm, vc, ms, ksOf (C1 ++ C2)⟩) w') (hs : Store w' (bls (A ++ (BT.flatL (C1 ++ C2) ++ B)) ++ X) [⟨b, vm, vc', ms, ksOf C1 ++ (e, c) :: ksOf C2⟩, ⟨c, .slice none 0 0, .slice none 0 0, [], []⟩]) (hN : ∀ g ∈ vb vc', g ∈ Nd.bl ⟨b, vm, vc, ms, ksOf (C1 ++ C2)⟩ ∨ wr.heap.size ≤ g) (hc : wr.heap.size ≤ c) :
    Hole G X t p w w' (A ++ ⟨b, vm, vc', ms, ksOf C1 ++ (e, c) :: ksOf C2⟩ :: BT.flatL C1) (BT.flatL C2 ++ B) (fun s' => ctx (.mk (b, vm, vc') ms (C1 ++ (e, s') :: C2))) (.mk (c, .slice none 0 0, .slice none 0 0) [] []) p2 := by
  obtain ⟨g1, g2, g3⟩ := h.change hM hs (fun g hg => by
    simp only [bls, List.flatMap_cons, List.flatMap_nil, List.append_nil, Nd.bl, List.mem_cons, List.mem_append, vb, Value.ownBlock, Option.toList_none, List.not_mem_nil, or_false] at hg hN ⊢
    rcases hg with (hg | hg | hg) | hg
    · exact .inl (.inl hg)
    · exact .inl (.inr (.inl hg))
    · exact hN g hg
    · exact .inr (hg ▸ hc))
  have e1 : ∀ s' : BT, BT.b s' = c → A ++ BT.flat (.mk (b, vm, vc') ms (C1 ++ (e, s') :: C2)) ++ B = (A ++ ⟨b, vm, vc', ms, ksOf C1 ++ (e, c) :: ksOf C2⟩ :: BT.flatL C1) ++ BT.flat s' ++ (BT.flatL C2 ++ B) := fun s' hs' => by
    rw [BT.flat_eq, BT.flatL_mid]
    simp [ksOf, hs']
  have pm : (A ++ [(⟨b, vm, vc', ms, ksOf C1 ++ (e, c) :: ksOf C2⟩ : Nd), ⟨c, .slice none 0 0, .slice none 0 0, [], []⟩] ++ (BT.flatL (C1 ++ C2) ++ B)).Perm ((A ++ ⟨b, vm, vc', ms, ksOf C1 ++ (e, c) :: ksOf C2⟩ :: BT.flatL C1) ++ BT.flat (.mk (c, .slice none 0 0, .slice none 0 0) [] []) ++ (BT.flatL C2 ++ B)) := by
    rw [BT.flat_eq, BT.flatL_app]
    simp only [List.append_assoc, List.cons_append, List.nil_append, BT.flatL, ksOf, List.map_nil]
    refine List.Perm.append_left _ (List.Perm.cons _ ?_)
    rw [← List.cons_append]
    exact List.perm_middle.symm
  refine ⟨g1.perm pm, g2, fun g hg => ?_, fun s' hs' => ?_, .mk (by simp [SrtC]) (by simp) (by simp [SrtC]) (by simp) (by simp) (by simp), fun s' k1 k2 => ?_, ?_⟩
  · exact g3 g ((pm.flatMap_right Nd.bl).mem_iff.2 hg)
  · have := h.cx (.mk (b, vm, vc') ms (C1 ++ (e, s') :: C2)) rfl
    rw [e1 s' hs'] at this
    exact this
  · have hb := Tr.wf_new ho (t' := (b, vm, vc')) (s' := s') h.wf he h1 h2 hp hG k1 (fun q hq => by
      rw [k2 q hq]
      constructor
      · rintro (hh | hh)
        · obtain ⟨z, hz, -⟩ := hh
          rw [Tr.paths_nil] at hz
          simp at hz
        · exact hh
      · exact .inr)
    exact h.has _ hb.1 hb.2
  · rw [Tr.paths_nil]; simp
end
end Go.Proofs.YtihapgangilncaaGreat
