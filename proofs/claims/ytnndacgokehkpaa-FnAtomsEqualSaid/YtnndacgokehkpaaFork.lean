/- Regions that draw their order, by a tree of scripts: where two operations may come next, each in its turn. -/
import Derived.Test.YtnndacgokehkpaaOrder
namespace Go.Proofs.Ytnndacgokehkpaa
open Go.RowKit

inductive Tr where
  | nil
  | pure (i : Nat) (s : Tr)
  | read (i : Nat) (s : Tr)
  | one (i : Nat) (s : Tr)
  | two (i j : Nat) (s t : Tr)

def Tr.len : Tr → Nat
  | .nil => 0
  | .pure _ s | .read _ s | .one _ s | .two _ _ s _ => s.len + 1

def trB (md : Region.Mode) (ops : Array Oper) (ho nd : List Nat) : Tr → Array Bool → Bool
  | .nil, listed => (Region.ready md ops listed).isEmpty
  | .pure i s, listed => stepB md ops ho nd .pure i listed && trB md ops ho nd s (listed.setIfInBounds i true)
  | .read i s, listed => stepB md ops ho nd .read i listed && trB md ops ho nd s (listed.setIfInBounds i true)
  | .one i s, listed => stepB md ops ho nd .one i listed && trB md ops ho nd s (listed.setIfInBounds i true)
  | .two i j s t, listed => decide (Region.ready md ops listed = [i, j]) && !ho.contains i && !ho.contains j && decide (s.len = t.len) && trB md ops ho nd s (listed.setIfInBounds i true) && trB md ops ho nd t (listed.setIfInBounds j true)

section
variable {P : Program} {ops : Array Oper} {ho nd : List Nat} {C : World → Prop} {Q : Act → World → Prop} {md : Region.Mode}

def trP (P : Program) (ops : Array Oper) (nd : List Nat) (C : World → Prop) (Q : Act → World → Prop) : Tr → Act → World → Prop
  | .nil, a, w => Q a w
  | .pure i s, a, w => ∃ o v, ops[i]? = some o ∧ (∀ w', Yld P ops o v a w') ∧ trP P ops nd C Q s (a.put o.dst v) w
  | .read i s, a, w => ∃ o v, ops[i]? = some o ∧ C w ∧ (∀ w', C w' → Yld P ops o v a w') ∧ trP P ops nd C Q s (a.put o.dst v) w
  | .one i s, a, w => wpOp P ops NoX i (fun a' w' => (i ∈ nd → C w') ∧ trP P ops nd C Q s a' w') a w
  | .two i j s t, a, w => wpOp P ops NoX i (fun a' w' => (i ∈ nd → C w') ∧ trP P ops nd C Q s a' w') a w ∧ wpOp P ops NoX j (fun a' w' => (j ∈ nd → C w') ∧ trP P ops nd C Q t a' w') a w

theorem wpAnyN_of_tr (hsel : ∀ (j : Nat) (o : Oper) cs c, ops[j]? = some o → o.op ≠ .select cs c) : ∀ (s : Tr) (listed : Array Bool) (a : Act) (w : World),
    trB md ops ho nd s listed = true → trP P ops nd C Q s a w → wpAnyN P md ops ho nd C Q s.len listed a w
  | .nil, listed, a, w, hB, h => ⟨by simpa [trB] using hB, h⟩
  | .one i s, listed, a, w, hB, h => by
    simp only [trB, stepB, Bool.and_eq_true, decide_eq_true_eq, Bool.not_eq_true', List.contains_eq_mem, decide_eq_false_iff_not] at hB
    obtain ⟨⟨hr, hh⟩, hB'⟩ := hB
    refine ⟨fun h0 => (by rw [hr] at h0; cases h0), fun j hj => ?_⟩
    rw [hr, List.mem_singleton] at hj
    subst hj
    exact wpOp_mono (fun a' w' h' => ⟨⟨fun h0 => absurd h0 hh, h'.1⟩, wpAnyN_of_tr hsel s _ a' w' hB' h'.2⟩) h
  | .two i k s t, listed, a, w, hB, h => by
    simp only [trB, Bool.and_eq_true, decide_eq_true_eq, Bool.not_eq_true', List.contains_eq_mem, decide_eq_false_iff_not] at hB
    obtain ⟨⟨⟨⟨⟨hr, hh⟩, hh2⟩, hl⟩, hB1⟩, hB2⟩ := hB
    refine ⟨fun h0 => (by rw [hr] at h0; cases h0), fun j hj => ?_⟩
    rw [hr] at hj
    simp only [List.mem_cons, List.not_mem_nil, or_false] at hj
    rcases hj with rfl | rfl
    · exact wpOp_mono (fun a' w' h' => ⟨⟨fun h0 => absurd h0 hh, h'.1⟩, wpAnyN_of_tr hsel s _ a' w' hB1 h'.2⟩) h.1
    · exact wpOp_mono (fun a' w' h' => ⟨⟨fun h0 => absurd h0 hh2, h'.1⟩, by rw [hl]; exact wpAnyN_of_tr hsel t _ a' w' hB2 h'.2⟩) h.2
  | .pure i s, listed, a, w, hB, h => by
    simp only [trB, stepB, Bool.and_eq_true, Bool.not_eq_true', List.contains_eq_mem, decide_eq_false_iff_not, decide_eq_true_eq] at hB
    obtain ⟨⟨⟨hr, hf⟩, hn⟩, hB'⟩ := hB
    obtain ⟨o, v, hi, hy, h'⟩ := h
    exact wpAnyN_hoist (b := false) hi hsel hn [] (fun j oj _ hj => by cases hj) (fun h => by cases h) s.len listed a w (Region.free_spec hi hf) hr (fun j hj => by cases hj) (fun h => by cases h) (fun w' _ => hy w')
      (wpAnyN_of_tr hsel s _ _ w hB' h')
  | .read i s, listed, a, w, hB, h => by
    simp only [trB, stepB, Bool.and_eq_true, Bool.not_eq_true', List.contains_eq_mem, decide_eq_false_iff_not, decide_eq_true_eq, List.all_eq_true, List.mem_range, Bool.or_eq_true, beq_iff_eq] at hB
    obtain ⟨⟨⟨⟨⟨⟨hr, hf⟩, hn⟩, hD⟩, hDl⟩, hall⟩, hB'⟩ := hB
    obtain ⟨o, v, hi, hc, hy, h'⟩ := h
    refine wpAnyN_hoist (b := true) hi hsel hn (descB md ops i) (fun j oj hj hjd => ?_) (fun _ j oj hj hne hjd => ?_) s.len listed a w (Region.free_spec hi hf) hr (fun j hj => hDl j hj) (fun _ => hc) (fun w' hw => hy w' (hw rfl))
      (wpAnyN_of_tr hsel s _ _ w hB' h')
    · have := hD j hjd
      simp only [hj, Option.map_some, Option.getD_some, Array.any_eq_true', Bool.and_eq_true, Bool.or_eq_true, beq_iff_eq, decide_eq_true_eq] at this
      exact this
    · have hlt : j < ops.size := (Array.getElem?_eq_some_iff.1 hj).1
      rcases hall j hlt with ((h | h) | h) | h
      · exact absurd h hne
      · exact absurd h hjd
      · exact .inl h
      · exact .inr h

theorem wp_region_tree {id : Nat} {Q : Exit → Act → World → Prop} {a : Act} {w : World} {l : List Oper} (ho nd : List Nat) (C : World → Prop) (s : Tr) (hm : P.follows .mixedOrders = true)
    (hB : (Region.noSelect l.toArray && decide (s.len = l.length) && trB .any l.toArray ho nd s (Array.replicate l.length false)) = true)
    (h : trP P l.toArray nd C (fun a w => Q .normal a w) s a w.drew) : (Code.region id l.toArray true).wp P Q a w := by
  simp only [Bool.and_eq_true, decide_eq_true_eq] at hB
  obtain ⟨⟨hsel, hlen⟩, hB⟩ := hB
  refine wp_region_any hm (wpAny_of_N (ho := ho) (nd := nd) (C := C) (Q := fun a w => Q .normal a w) (fun _ _ h => h) _ _ _ _ ?_)
  have := wpAnyN_of_tr (md := .any) (ho := ho) (Region.noSelect_spec hsel) s (Array.replicate l.length false) a w.drew hB h
  simpa [hlen] using this

theorem tr_pure {i : Nat} {s : Tr} {a a' : Act} {w : World} {o : Oper} {v : Value} (hi : ops[i]? = some o) (hg : o.guard = none) (hy : ∀ w', (execOp a.eval o).run P w' = .ok (.value v) w') (ha : a.put o.dst v = a')
    (h : trP P ops nd C Q s a' w) : trP P ops nd C Q (.pure i s) a w := ⟨o, v, hi, fun w' => .inl ⟨by simp [Region.wanted, hg], .inl (hy w')⟩, ha ▸ h⟩
theorem tr_read {i : Nat} {s : Tr} {a a' : Act} {w : World} {o : Oper} {v : Value} (hi : ops[i]? = some o) (hg : o.guard = none) (hc : C w) (hy : ∀ w', C w' → (execOp a.eval o).run P w' = .ok (.value v) w') (ha : a.put o.dst v = a')
    (h : trP P ops nd C Q s a' w) : trP P ops nd C Q (.read i s) a w := ⟨o, v, hi, hc, fun w' hw => .inl ⟨by simp [Region.wanted, hg], .inl (hy w' hw)⟩, ha ▸ h⟩
theorem tr_one {i : Nat} {s : Tr} {a : Act} {w : World} {o : Oper} (hi : ops[i]? = some o) (hg : o.guard = none)
    (h : ∀ K : Act → World → Prop, (∀ a' w', (i ∈ nd → C w') → trP P ops nd C Q s a' w' → K a' w') → o.wp P a w K NoX) : trP P ops nd C Q (.one i s) a w := by
  have := h (fun a' w' => (i ∈ nd → C w') ∧ trP P ops nd C Q s a' w') (fun a' w' h1 h2 => ⟨h1, h2⟩)
  show wpOp P ops NoX i _ a w
  unfold wpOp
  simp only [hi]
  rw [if_pos (by simp [Region.wanted, hg])]
  exact .inl this
theorem tr_two {i j : Nat} {s t : Tr} {a : Act} {w : World} (h1 : trP P ops nd C Q (.one i s) a w) (h2 : trP P ops nd C Q (.one j t) a w) : trP P ops nd C Q (.two i j s t) a w := ⟨h1, h2⟩
theorem tr_end {a : Act} {w : World} {C : World → Prop} (h : Q a w) : trP P ops nd C Q .nil a w := h
end

end Go.Proofs.Ytnndacgokehkpaa
