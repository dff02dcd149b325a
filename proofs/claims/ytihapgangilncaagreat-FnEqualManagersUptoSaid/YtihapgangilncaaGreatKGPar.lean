/- Regions that draw their order and write or call: one order, chosen by a script, stands for all, where a closed check on the region's edges says so. Regions that draw their order: operations that may come in any order, each with what it yields and keeps, proved once each (no order is listed). -/
import Derived.Test.YtihapgangilncaaGreatKGMem
import Derived.Deep.RegionWith
namespace Go.Proofs.YtihapgangilncaaGreat
open Go.RowKit

section
variable {P : Program} {ops : Array Oper} {md : Region.Mode} {C : World → Prop} {Q : Act → World → Prop} {ho nd : List Nat}

/-- no way out but the normal one -/
def NoX : Exit → Act → World → Prop := fun _ _ _ => False

theorem Oper.wp_exits {o : Oper} {a : Act} {w : World} {K : Act → World → Prop} {Q' : Exit → Act → World → Prop} (h : o.wp P a w K NoX) : o.wp P a w K Q' := by
  unfold Oper.wp at *
  generalize (execOp a.eval o).run P w = r at *
  cases r with
  | ok n w' =>
    cases n <;> simp only [Oper.upon] at h ⊢
    case enter f args =>
      refine h.mono fun e w'' he => ?_
      cases e with
      | returned v => exact he
      | panicked c => exact he.elim
      | outgrown => obtain ⟨_, _, h⟩ := he; exact h.elim
    all_goals exact h
  | halt x w' => cases x <;> simp only [Oper.upon] at h ⊢ <;> exact h.elim

theorem wpOp_exits {i : Nat} {a : Act} {w : World} {K : Act → World → Prop} {Q' : Exit → Act → World → Prop} (h : wpOp P ops NoX i K a w) : wpOp P ops Q' i K a w := by
  unfold wpOp at *
  split
  · rename_i ho; simpa only [ho] using h
  · rename_i o ho
    simp only [ho] at h
    split
    · rename_i hw
      rw [if_pos hw] at h
      rcases h with h | ⟨_, _, _, h⟩
      · exact .inl (Oper.wp_exits h)
      · exact h.elim
    · rename_i hw; rw [if_neg hw] at h; exact h

/-- the operation o yields v at the frame a in the world w, which it leaves alone -/
def Yld (P : Program) (ops : Array Oper) (o : Oper) (v : Value) (a : Act) (w : World) : Prop :=
  (Region.wanted o (yielded ops a.tmps) = true ∧ ((execOp a.eval o).run P w = .ok (.value v) w ∨ ((execOp a.eval o).run P w = .ok .skip w ∧ v = undef))) ∨ (Region.wanted o (yielded ops a.tmps) = false ∧ v = undef)

theorem Yld.wpOp {i : Nat} {o : Oper} {v : Value} {a : Act} {w : World} (hi : ops[i]? = some o) (hy : Yld P ops o v a w) {K : Act → World → Prop} (h : K (a.put o.dst v) w) : wpOp P ops NoX i K a w := by
  unfold Go.wpOp
  simp only [hi]
  rcases hy with ⟨hw, hv | ⟨hv, rfl⟩⟩ | ⟨hw, rfl⟩
  · rw [if_pos hw]; refine .inl ?_; simp only [Oper.wp, hv, Oper.upon]; exact h
  · rw [if_pos hw]; refine .inl ?_; simp only [Oper.wp, hv, Oper.upon]; exact h
  · rw [if_neg (by simp [hw])]; exact h

def SameFor (ops : Array Oper) (o : Oper) (a a' : Act) : Prop := execOp a'.eval o = execOp a.eval o ∧ Region.wanted o (yielded ops a'.tmps) = Region.wanted o (yielded ops a.tmps)
theorem Yld.same {o : Oper} {v : Value} {a a' : Act} {w : World} (hy : Yld P ops o v a w) (h : SameFor ops o a a') : Yld P ops o v a' w := by
  unfold Yld at *
  rw [h.1, h.2]
  exact hy

theorem wpOp_put {j : Nat} {oi oj : Oper} {v : Value} (hj : ops[j]? = some oj) (hap : oi.apart ops oj = true) (hsi : ∀ cs b, oi.op ≠ .select cs b) (hsj : ∀ cs b, oj.op ≠ .select cs b)
    {K : Act → World → Prop} {a : Act} {w : World} (h : wpOp P ops NoX j K (a.put oi.dst v) w) : wpOp P ops NoX j (fun a' w' => SameFor ops oi a a' ∧ K (a'.put oi.dst v) w') a w := by
  obtain ⟨h1, h2, h3⟩ := Oper.apart_spec hap
  have keep : ∀ u, SameFor ops oi a (a.put oj.dst u) := fun u => ⟨execOp_put oi hsi a oj.dst u h3, wanted_put oi a oj.dst u h3⟩
  unfold wpOp at *
  simp only [hj] at *
  rw [wanted_put oj a oi.dst v h1] at h
  split
  · rename_i hw
    rw [if_pos hw] at h
    rcases h with h | ⟨_, _, _, h⟩
    · refine .inl ?_
      unfold Oper.wp at *
      rw [execOp_put oj hsj a oi.dst v h1] at h
      generalize (execOp a.eval oj).run P w = r at *
      cases r with
      | ok n w' =>
        cases n <;> simp only [Oper.upon] at h ⊢
        case value u => exact ⟨keep u, by rw [← Act.put_comm a v u h2]; exact h⟩
        case skip => exact ⟨keep _, by rw [← Act.put_comm a v undef h2]; exact h⟩
        case defer d =>
          refine ⟨⟨execOp_put oi hsi _ oj.dst undef h3, wanted_put oi _ oj.dst undef h3⟩, ?_⟩
          have e : ({ a with defers := d :: a.defers }.put oj.dst undef).put oi.dst v = ({ a.put oi.dst v with defers := d :: (a.put oi.dst v).defers }).put oj.dst undef := by
            rw [← Act.put_comm _ v undef h2]
            cases oi.dst <;> rfl
          rw [e]
          exact h
        case enter f args =>
          refine h.mono fun e w'' he => ?_
          cases e with
          | returned u => exact ⟨keep u, by rw [← Act.put_comm a v u h2]; exact he⟩
          | panicked c => exact he.elim
          | outgrown => obtain ⟨_, _, h⟩ := he; exact h.elim
        case row row args => exact h.mono fun u w'' he => ⟨keep u, by rw [← Act.put_comm a v u h2]; exact he⟩
      | halt x w' => cases x <;> simp only [Oper.upon] at h ⊢ <;> exact h.elim
    · exact h.elim
  · rename_i hw
    rw [if_neg hw] at h
    exact ⟨keep _, by rw [← Act.put_comm a v undef h2]; exact h⟩

/-- operation j keeps to what was said of it -/
def Keeps (ho nd : List Nat) (C : World → Prop) (j : Nat) (w w' : World) : Prop := (j ∈ ho → w' = w) ∧ (j ∈ nd → C w')

def wpAnyN (P : Program) (md : Region.Mode) (ops : Array Oper) (ho nd : List Nat) (C : World → Prop) (Q : Act → World → Prop) : Nat → Array Bool → Act → World → Prop
  | 0, listed, a, w => Region.ready md ops listed = [] ∧ Q a w
  | fuel + 1, listed, a, w =>
    (Region.ready md ops listed = [] → Q a w) ∧
    ∀ i ∈ Region.ready md ops listed, wpOp P ops NoX i (fun a' w' => Keeps ho nd C i w w' ∧ wpAnyN P md ops ho nd C Q fuel (listed.setIfInBounds i true) a' w') a w

theorem wpAny_of_N {Q' : Exit → Act → World → Prop} (hQ : ∀ a w, Q a w → Q' .normal a w) : ∀ (fuel : Nat) (listed : Array Bool) (a : Act) (w : World), wpAnyN P md ops ho nd C Q fuel listed a w → wpAny P md ops Q' fuel listed a w
  | 0, _, _, _, h => ⟨h.1, hQ _ _ h.2⟩
  | fuel + 1, _, _, _, h => ⟨fun h0 => hQ _ _ (h.1 h0), fun i hi => wpOp_exits (wpOp_mono (fun a' w' h' => wpAny_of_N hQ fuel _ a' w' h'.2) (h.2 i hi))⟩

theorem wpAnyN_hoist {i : Nat} {oi : Oper} {v : Value} {b : Bool} (hi : ops[i]? = some oi) (hsel : ∀ (j : Nat) (o : Oper) cs c, ops[j]? = some o → o.op ≠ .select cs c) (hnd : i ∉ nd) (D : List Nat)
    (hD : ∀ j oj, ops[j]? = some oj → j ∈ D → ∃ e ∈ oj.after, Region.binds md e = true ∧ (e.on = i ∨ e.on ∈ D))
    (hneed : b = true → ∀ j oj, ops[j]? = some oj → j ≠ i → j ∉ D → j ∈ ho ∨ j ∈ nd) :
    ∀ (fuel : Nat) (listed : Array Bool) (a : Act) (w : World),
      (∀ j oj, ops[j]? = some oj → j ≠ i → listed.getD j true = false → (∀ e ∈ oj.after, Region.binds md e = true → e.on ≠ i) → oi.apart ops oj = true) →
      i ∈ Region.ready md ops listed → (∀ j ∈ D, listed.getD j false = false) → (b = true → C w) → (∀ w', (b = true → C w') → Yld P ops oi v a w') →
      wpAnyN P md ops ho nd C Q fuel (listed.setIfInBounds i true) (a.put oi.dst v) w → wpAnyN P md ops ho nd C Q (fuel + 1) listed a w := by
  intro fuel
  have here : ∀ (fuel : Nat) (listed : Array Bool) (a : Act) (w : World), (b = true → C w) → (∀ w', (b = true → C w') → Yld P ops oi v a w') → wpAnyN P md ops ho nd C Q fuel (listed.setIfInBounds i true) (a.put oi.dst v) w →
      wpOp P ops NoX i (fun a' w' => Keeps ho nd C i w w' ∧ wpAnyN P md ops ho nd C Q fuel (listed.setIfInBounds i true) a' w') a w :=
    fun fuel listed a w hc hy H => (hy w hc).wpOp hi ⟨⟨fun _ => rfl, fun h => absurd h hnd⟩, H⟩
  induction fuel with
  | zero =>
    intro listed a w _ hr _ hc hy H
    refine ⟨fun h => (by rw [h] at hr; cases hr), fun j hj => ?_⟩
    by_cases hji : j = i
    · subst hji; exact here 0 listed a w hc hy H
    · have := ready_mono hj hji
      rw [H.1] at this
      cases this
  | succ fuel ih =>
    intro listed a w hfree hr hDl hc hy H
    refine ⟨fun h => (by rw [h] at hr; cases hr), fun j hj => ?_⟩
    by_cases hji : j = i
    · subst hji; exact here _ listed a w hc hy H
    · have h1 := H.2 j (ready_mono hj hji)
      obtain ⟨hjun, oj, hoj, hall⟩ := mem_ready.1 hj
      have hun : ∀ e ∈ oj.after, Region.binds md e = true → e.on ≠ i := fun e he hb heq => by
        have h1 := hall e he hb
        have h0 := (mem_ready.1 hr).1
        rw [heq] at h1
        rcases Nat.lt_or_ge i listed.size with h' | h'
        · simp [h'] at h0 h1; rw [h0] at h1; cases h1
        · simp [Array.getElem?_eq_none h'] at h1
      have hjD : j ∉ D := fun hjd => by
        obtain ⟨e, he, hb, h⟩ := hD j oj hoj hjd
        rcases h with h | h
        · exact hun e he hb h
        · have h2 := hall e he hb
          rw [hDl _ h] at h2
          cases h2
      have h2 := wpOp_put hoj (hfree j oj hoj hji hjun hun) (fun cs b => hsel i oi cs b hi) (fun cs b => hsel j oj cs b hoj) h1
      have hfree' : ∀ k ok, ops[k]? = some ok → k ≠ i → (listed.setIfInBounds j true).getD k true = false →
          (∀ e ∈ ok.after, Region.binds md e = true → e.on ≠ i) → oi.apart ops ok = true := fun k ok hk hki hun hno => by
        refine hfree k ok hk hki ?_ hno
        by_cases hjk : j = k
        · subst hjk; exact hjun
        · rw [getD_set_ne true hjk] at hun; exact hun
      refine wpOp_mono (fun a' w' h3 => ?_) h2
      obtain ⟨hsame, hkeep, h4⟩ := h3
      have hc' : b = true → C w' := fun hb => by
        rcases hneed hb j oj hoj hji hjD with h | h
        · rw [hkeep.1 h]; exact hc hb
        · exact hkeep.2 h
      refine ⟨hkeep, ih (listed.setIfInBounds j true) a' w' hfree' (ready_mono hr (Ne.symm hji)) (fun k hk => ?_) hc' (fun w2 h => (hy w2 h).same hsame) ?_⟩
      · by_cases hjk : j = k
        · subst hjk; exact absurd hk hjD
        · rw [getD_set_ne false hjk]; exact hDl k hk
      · rw [Array.setIfInBounds_comm _ _ hji]
        exact h4

/-- how a step of a script is taken: whatever the world; in every world of the class C; as the only one that may come next -/
inductive Sk where
  | pure
  | read
  | one

def descB (md : Region.Mode) (ops : Array Oper) (i : Nat) : List Nat :=
  (List.range ops.size).foldl (fun D j => if ((ops[j]?).map fun o => o.after.any fun e => Region.binds md e && (e.on == i || D.contains e.on)).getD false then D ++ [j] else D) []

def stepB (md : Region.Mode) (ops : Array Oper) (ho nd : List Nat) (k : Sk) (i : Nat) (listed : Array Bool) : Bool :=
  match k with
  | .one => decide (Region.ready md ops listed = [i]) && !ho.contains i
  | .pure => (Region.ready md ops listed).contains i && Region.free md ops listed i && !nd.contains i
  | .read => (Region.ready md ops listed).contains i && Region.free md ops listed i && !nd.contains i &&
      (descB md ops i).all (fun j => ((ops[j]?).map fun o => o.after.any fun e => Region.binds md e && (e.on == i || (descB md ops i).contains e.on)).getD false) &&
      (descB md ops i).all (fun j => !(listed.getD j false)) &&
      (List.range ops.size).all (fun j => j == i || (descB md ops i).contains j || ho.contains j || nd.contains j)

def scriptB (md : Region.Mode) (ops : Array Oper) (ho nd : List Nat) : List (Sk × Nat) → Array Bool → Bool
  | [], listed => (Region.ready md ops listed).isEmpty
  | (k, i) :: s, listed => stepB md ops ho nd k i listed && scriptB md ops ho nd s (listed.setIfInBounds i true)

def scr (P : Program) (ops : Array Oper) (nd : List Nat) (C : World → Prop) (Q : Act → World → Prop) : List (Sk × Nat) → Act → World → Prop
  | [], a, w => Q a w
  | (.pure, i) :: s, a, w => ∃ o v, ops[i]? = some o ∧ (∀ w', Yld P ops o v a w') ∧ scr P ops nd C Q s (a.put o.dst v) w
  | (.read, i) :: s, a, w => ∃ o v, ops[i]? = some o ∧ C w ∧ (∀ w', C w' → Yld P ops o v a w') ∧ scr P ops nd C Q s (a.put o.dst v) w
  | (.one, i) :: s, a, w => wpOp P ops NoX i (fun a' w' => (i ∈ nd → C w') ∧ scr P ops nd C Q s a' w') a w

theorem wpAnyN_of_scr (hsel : ∀ (j : Nat) (o : Oper) cs c, ops[j]? = some o → o.op ≠ .select cs c) : ∀ (s : List (Sk × Nat)) (listed : Array Bool) (a : Act) (w : World),
    scriptB md ops ho nd s listed = true → scr P ops nd C Q s a w → wpAnyN P md ops ho nd C Q s.length listed a w
  | [], listed, a, w, hB, h => ⟨by simpa [scriptB] using hB, h⟩
  | (.one, i) :: s, listed, a, w, hB, h => by
    simp only [scriptB, stepB, Bool.and_eq_true, decide_eq_true_eq, Bool.not_eq_true', List.contains_eq_mem, decide_eq_false_iff_not] at hB
    obtain ⟨⟨hr, hh⟩, hB'⟩ := hB
    refine ⟨fun h0 => (by rw [hr] at h0; cases h0), fun j hj => ?_⟩
    rw [hr, List.mem_singleton] at hj
    subst hj
    exact wpOp_mono (fun a' w' h' => ⟨⟨fun h0 => absurd h0 hh, h'.1⟩, wpAnyN_of_scr hsel s _ a' w' hB' h'.2⟩) h
  | (.pure, i) :: s, listed, a, w, hB, h => by
    simp only [scriptB, stepB, Bool.and_eq_true, Bool.not_eq_true', List.contains_eq_mem, decide_eq_false_iff_not, decide_eq_true_eq] at hB
    obtain ⟨⟨⟨hr, hf⟩, hn⟩, hB'⟩ := hB
    obtain ⟨o, v, hi, hy, h'⟩ := h
    exact wpAnyN_hoist (b := false) hi hsel hn [] (fun j oj _ hj => by cases hj) (fun h => by cases h) s.length listed a w (Region.free_spec hi hf) hr (fun j hj => by cases hj) (fun h => by cases h) (fun w' _ => hy w')
      (wpAnyN_of_scr hsel s _ _ w hB' h')
  | (.read, i) :: s, listed, a, w, hB, h => by
    simp only [scriptB, stepB, Bool.and_eq_true, Bool.not_eq_true', List.contains_eq_mem, decide_eq_false_iff_not, decide_eq_true_eq, List.all_eq_true, List.mem_range, Bool.or_eq_true, beq_iff_eq] at hB
    obtain ⟨⟨⟨⟨⟨⟨hr, hf⟩, hn⟩, hD⟩, hDl⟩, hall⟩, hB'⟩ := hB
    obtain ⟨o, v, hi, hc, hy, h'⟩ := h
    refine wpAnyN_hoist (b := true) hi hsel hn (descB md ops i) (fun j oj hj hjd => ?_) (fun _ j oj hj hne hjd => ?_) s.length listed a w (Region.free_spec hi hf) hr (fun j hj => hDl j hj) (fun _ => hc) (fun w' hw => hy w' (hw rfl))
      (wpAnyN_of_scr hsel s _ _ w hB' h')
    · have := hD j hjd
      simp only [hj, Option.map_some, Option.getD_some, Array.any_eq_true', Bool.and_eq_true, Bool.or_eq_true, beq_iff_eq, decide_eq_true_eq] at this
      exact this
    · have hlt : j < ops.size := (Array.getElem?_eq_some_iff.1 hj).1
      rcases hall j hlt with ((h | h) | h) | h
      · exact absurd h hne
      · exact absurd h hjd
      · exact .inl h
      · exact .inr h

theorem wp_region_script {id : Nat} {Q : Exit → Act → World → Prop} {a : Act} {w : World} {l : List Oper} (ho nd : List Nat) (C : World → Prop) (s : List (Sk × Nat)) (hm : P.follows .mixedOrders = true)
    (hB : (Region.noSelect l.toArray && decide (s.length = l.length) && scriptB .any l.toArray ho nd s (Array.replicate l.length false)) = true)
    (h : scr P l.toArray nd C (fun a w => Q .normal a w) s a w.drew) : (Code.region id l.toArray true).wp P Q a w := by
  simp only [Bool.and_eq_true, decide_eq_true_eq] at hB
  obtain ⟨⟨hsel, hlen⟩, hB⟩ := hB
  refine wp_region_any hm (wpAny_of_N (ho := ho) (nd := nd) (C := C) (Q := fun a w => Q .normal a w) (fun _ _ h => h) _ _ _ _ ?_)
  have := wpAnyN_of_scr (md := .any) (ho := ho) (Region.noSelect_spec hsel) s (Array.replicate l.length false) a w.drew hB h
  simpa [hlen] using this

theorem scr_pure {i : Nat} {s : List (Sk × Nat)} {a : Act} {w : World} {o : Oper} {v : Value} (hi : ops[i]? = some o) (hg : o.guard = none) (hy : ∀ w', (execOp a.eval o).run P w' = .ok (.value v) w')
    (h : scr P ops nd C Q s (a.put o.dst v) w) : scr P ops nd C Q ((.pure, i) :: s) a w :=
  ⟨o, v, hi, fun w' => .inl ⟨by simp [Region.wanted, hg], .inl (hy w')⟩, h⟩
theorem scr_read {i : Nat} {s : List (Sk × Nat)} {a : Act} {w : World} {o : Oper} {v : Value} (hi : ops[i]? = some o) (hg : o.guard = none) (hc : C w) (hy : ∀ w', C w' → (execOp a.eval o).run P w' = .ok (.value v) w')
    (h : scr P ops nd C Q s (a.put o.dst v) w) : scr P ops nd C Q ((.read, i) :: s) a w :=
  ⟨o, v, hi, hc, fun w' hw => .inl ⟨by simp [Region.wanted, hg], .inl (hy w' hw)⟩, h⟩
theorem scr_pure' {i : Nat} {s : List (Sk × Nat)} {a a' : Act} {w : World} {o : Oper} {v : Value} (hi : ops[i]? = some o) (hg : o.guard = none) (hy : ∀ w', (execOp a.eval o).run P w' = .ok (.value v) w') (ha : a.put o.dst v = a')
    (h : scr P ops nd C Q s a' w) : scr P ops nd C Q ((.pure, i) :: s) a w := scr_pure hi hg hy (ha ▸ h)
theorem scr_read' {i : Nat} {s : List (Sk × Nat)} {a a' : Act} {w : World} {o : Oper} {v : Value} (hi : ops[i]? = some o) (hg : o.guard = none) (hc : C w) (hy : ∀ w', C w' → (execOp a.eval o).run P w' = .ok (.value v) w') (ha : a.put o.dst v = a')
    (h : scr P ops nd C Q s a' w) : scr P ops nd C Q ((.read, i) :: s) a w := scr_read hi hg hc hy (ha ▸ h)
/-- a step that reads, the operation's guard decided -/
theorem scr_r {i : Nat} {s : List (Sk × Nat)} {a a' : Act} {w : World} {o : Oper} {v : Value} (hi : ops[i]? = some o) (hw : Region.wanted o (yielded ops a.tmps) = true) (hy : (execOp a.eval o).run P w = .ok (.value v) w) (ha : a.put o.dst v = a')
    (h : scr P ops nd (fun w' => w' = w) Q s a' w) : scr P ops nd (fun w' => w' = w) Q ((.read, i) :: s) a w :=
  ⟨o, v, hi, rfl, fun w' e => by cases e; exact .inl ⟨hw, .inl hy⟩, ha ▸ h⟩
theorem scr_r0 {i : Nat} {s : List (Sk × Nat)} {a a' : Act} {w : World} {o : Oper} (hi : ops[i]? = some o) (hw : Region.wanted o (yielded ops a.tmps) = false) (ha : a.put o.dst undef = a')
    (h : scr P ops nd (fun w' => w' = w) Q s a' w) : scr P ops nd (fun w' => w' = w) Q ((.read, i) :: s) a w :=
  ⟨o, undef, hi, rfl, fun w' e => by cases e; exact .inr ⟨hw, rfl⟩, ha ▸ h⟩
theorem scr_end {a : Act} {w : World} {C : World → Prop} (h : Q a w) : scr P ops nd C Q [] a w := h
theorem scr_one {i : Nat} {s : List (Sk × Nat)} {a : Act} {w : World} {o : Oper} (hi : ops[i]? = some o) (hg : o.guard = none)
    (h : ∀ K : Act → World → Prop, (∀ a' w', (i ∈ nd → C w') → scr P ops nd C Q s a' w' → K a' w') → o.wp P a w K NoX) : scr P ops nd C Q ((.one, i) :: s) a w := by
  have := h (fun a' w' => (i ∈ nd → C w') ∧ scr P ops nd C Q s a' w') (fun a' w' h1 h2 => ⟨h1, h2⟩)
  show wpOp P ops NoX i _ a w
  unfold wpOp
  simp only [hi]
  rw [if_pos (by simp [Region.wanted, hg])]
  exact .inl this
theorem scr_oneG {i : Nat} {s : List (Sk × Nat)} {a : Act} {w : World} {o : Oper} (hi : ops[i]? = some o) (hw : Region.wanted o (yielded ops a.tmps) = true)
    (h : ∀ K : Act → World → Prop, (∀ a' w', (i ∈ nd → C w') → scr P ops nd C Q s a' w' → K a' w') → o.wp P a w K NoX) : scr P ops nd C Q ((.one, i) :: s) a w := by
  have := h (fun a' w' => (i ∈ nd → C w') ∧ scr P ops nd C Q s a' w') (fun a' w' h1 h2 => ⟨h1, h2⟩)
  show wpOp P ops NoX i _ a w
  unfold wpOp
  simp only [hi]
  rw [if_pos hw]
  exact .inl this
theorem scr_one0 {i : Nat} {s : List (Sk × Nat)} {a a' : Act} {w : World} {o : Oper} (hi : ops[i]? = some o) (hw : Region.wanted o (yielded ops a.tmps) = false) (hc : i ∈ nd → C w) (ha : a.put o.dst undef = a')
    (h : scr P ops nd C Q s a' w) : scr P ops nd C Q ((.one, i) :: s) a w := by
  subst ha
  show wpOp P ops NoX i _ a w
  unfold wpOp
  simp only [hi]
  rw [if_neg (by simp [hw])]
  exact ⟨hc, h⟩
end

end Go.Proofs.YtihapgangilncaaGreat
namespace Go.Proofs.YtihapgangilncaaGreat
open Go.RowKit

def dstOf (ops : Array Oper) (i : Nat) : Option Tmp := (ops[i]?).bind (·.dst)
def apartD (ops : Array Oper) (i j : Nat) : Prop := ∀ d, dstOf ops i = some d → dstOf ops j ≠ some d
theorem apartD.symm {ops : Array Oper} {i j : Nat} (h : apartD ops i j) : apartD ops j i := fun d hj hi => h d hi hj

def upd (vs : Nat → Value) (i : Nat) (v : Value) : Nat → Value := fun k => if k = i then v else vs k

section
variable {P : Program} {ops : Array Oper} {ho nd : List Nat} {C : World → Prop} {Q : Act → World → Prop} {md : Region.Mode}

theorem nodup_le {α : Type} [BEq α] [LawfulBEq α] : ∀ {l G : List α}, l.Nodup → (∀ k ∈ l, k ∈ G) → l.length ≤ G.length
  | [], _, _, _ => Nat.zero_le _
  | x :: l, G, hn, hs => by
    have hx : x ∈ G := hs x (by simp)
    have h := nodup_le (G := G.erase x) (List.nodup_cons.1 hn).2 (fun k hk => (List.mem_erase_of_ne (fun e : k = x => (List.nodup_cons.1 hn).1 (e ▸ hk))).2 (hs k (by simp [hk])))
    rw [List.length_erase_of_mem hx] at h
    have := List.length_pos_of_mem hx
    simp only [List.length_cons]
    omega
theorem nodup_full {α : Type} [BEq α] [LawfulBEq α] {l G : List α} (hn : l.Nodup) (hs : ∀ k ∈ l, k ∈ G) (hl : G.length ≤ l.length) : ∀ k ∈ G, k ∈ l := fun k hk => Classical.byContradiction fun h => by
  have := nodup_le (l := k :: l) (G := G) (List.nodup_cons.2 ⟨h, hn⟩) (fun x hx => by simp only [List.mem_cons] at hx; rcases hx with rfl | hx; exact hk; exact hs x hx)
  simp only [List.length_cons] at this
  omega

def looks (ops : Array Oper) (o : Oper) (k : Nat) : Bool := match dstOf ops k with
  | some d => (o.looksAt ops).contains d
  | none => false
/-- what is said of an operation that may come in any order: the datum that it yields; the block that it makes; the block that it fills -/
inductive Sp where
  | data (F : Value → World → List Nat → Prop)
  | fresh (T : TypeId) (z : Array Value)
  | store (k : Nat) (T : TypeId) (F : Array Value → World → List Nat → Prop)

def Sp.ok : Sp → Prop
  | .data F => ∀ v w X w' Y, Mv w X w' Y → F v w X → F v w' Y
  | .fresh _ _ => True
  | .store _ _ F => ∀ c w X w' Y, Mv w X w' Y → F c w X → F c w' Y

/-- what is known of an operation that has been, where another one looks at its value -/
def Sp.known (s : Sp) (v : Value) (w : World) (X : List Nat) : Prop := match s with
  | .data F => F v w X
  | .fresh _ _ => ∃ b, v = .pointer (some ⟨b, 0, none⟩) ∧ b ∈ X
  | .store _ _ _ => True

/-- what is known at the end -/
def Known (sp : Nat → Sp) (don : List Nat) (vs : Nat → Value) (bs : Nat → Nat) (w0 w : World) (X : List Nat) (i : Nat) : Prop := match sp i with
  | .data F => F (vs i) w X
  | .fresh T z => vs i = .pointer (some ⟨bs i, 0, none⟩) ∧ w0.heap.size ≤ bs i ∧ bs i ∈ X ∧ ((∀ s ∈ don, ∀ T' F, sp s ≠ .store i T' F) → w.heap[bs i]? = some (.cells z T (0, 0)))
  | .store k T F => ∃ c, w.heap[bs k]? = some (.cells c T (0, 0)) ∧ F c w X

theorem Known.more {sp : Nat → Sp} {don : List Nat} {vs : Nat → Value} {bs bs' : Nat → Nat} {w0 w w' : World} {X Y : List Nat} {i : Nat} {v : Value} {j : Nat} (hok : (sp i).ok) (h : Known sp don vs bs w0 w X i) (hij : i ≠ j) (hm : Mv w X w' Y) (hXY : ∀ b ∈ X, b ∈ Y)
    (hbs : bs' i = bs i) (hbk : ∀ k T F, sp i = .store k T F → bs' k = bs k) (hf : ∀ T z, sp i = .fresh T z → (∀ s ∈ don ++ [j], ∀ T' F, sp s ≠ .store i T' F) → w'.heap[bs i]? = w.heap[bs i]?) (hst : ∀ k T F, sp i = .store k T F → w'.heap[bs k]? = w.heap[bs k]?) :
    Known sp (don ++ [j]) (upd vs j v) bs' w0 w' Y i := by
  have hu : upd vs j v i = vs i := if_neg hij
  unfold Known at *
  rw [hu, hbs]
  cases hs : sp i with
  | data F =>
    simp only [hs] at h ⊢
    have hok' := hok
    simp only [hs, Sp.ok] at hok'
    exact hok' _ _ _ _ _ hm h
  | fresh T z =>
    simp only [hs] at h ⊢
    obtain ⟨h1, h2, h3, h4⟩ := h
    exact ⟨h1, h2, hXY _ h3, fun hno => (hf T z hs hno).trans (h4 fun s hs' T' F => hno s (by simp [hs']) T' F)⟩
  | store k T F =>
    simp only [hs] at h ⊢
    obtain ⟨c, h1, h2⟩ := h
    have hok' := hok
    simp only [hs, Sp.ok] at hok'
    exact ⟨c, by rw [hbk k T F hs]; exact (hst k T F hs).trans h1, hok' _ _ _ _ _ hm h2⟩

/-- *p = v, v of one cell, into a block whose cells are known; the world behind it has a name of its own -/
theorem wpL_storeC {w : World} {rest : List Oper} {o : Oper} {a : Act} {Q : Exit → Act → World → Prop} (hgd : o.guard = none) (t : TypeId) (ad x : Operand) (ho : o.op = .store t ad x) {z : Value} {bytes : Nat} (hi : (P.info? t).map (fun i => (i.zero, i.size, i.bytes)) = some (some z, 1, bytes))
    {b off : Nat} {old new : Array Value} {T : TypeId} {v : Value} (hp : a.eval ad = .pointer (some ⟨b, off, none⟩)) (hx : a.eval x = v) (hv : v.oneCell' = true) (hb : w.heap[b]? = some (.cells old T (0, 0))) (hoff : off < old.size) (hnew : old.setIfInBounds off v = new)
    (h : ∀ w', w'.heap[b]? = some (.cells new T (0, 0)) → w.grownBy w' (some b) → wpList P ops Q rest (a.put o.dst undef) w') : wpList P ops Q (o :: rest) a w := by
  subst hnew
  refine wpL_store1 hgd t ad x ho hi hp hx hv (by rw [cells_of hb off]; simp [hoff]) (frozen_of_row _ _ _ _ _ hb) ?_
  exact abs_set (G := fun wr => wpList P ops Q rest (a.put o.dst undef) wr) hb fun w1 h1 h2 _ => h w1 h1 h2
theorem wp_storeC {w : World} {o : Oper} {a : Act} {K : Act → World → Prop} {Q : Exit → Act → World → Prop} (t : TypeId) (ad x : Operand) (ho : o.op = .store t ad x) {z : Value} {bytes : Nat} (hi : (P.info? t).map (fun i => (i.zero, i.size, i.bytes)) = some (some z, 1, bytes))
    {b off : Nat} {old new : Array Value} {T : TypeId} {v : Value} (hp : a.eval ad = .pointer (some ⟨b, off, none⟩)) (hx : a.eval x = v) (hv : v.oneCell' = true) (hb : w.heap[b]? = some (.cells old T (0, 0))) (hoff : off < old.size) (hnew : old.setIfInBounds off v = new)
    (h : ∀ w', w'.heap[b]? = some (.cells new T (0, 0)) → w.grownBy w' (some b) → K (a.put o.dst undef) w') : o.wp P a w K Q := by
  subst hnew
  refine wp_store1 t ad x ho hi hp hx hv (by rw [cells_of hb off]; simp [hoff]) (frozen_of_row _ _ _ _ _ hb) ?_
  exact abs_set (G := fun wr => K (a.put o.dst undef) wr) hb fun w1 h1 h2 _ => h w1 h1 h2
/-- what stands in other blocks stays where one block is written -/
theorem grown_keep {w w' : World} {b k off : Nat} {v : Value} (hg : w.grownBy w' (some b)) (hc : w.cell? ⟨k, off, none⟩ = some v) (hne : k ≠ b) : w'.cell? ⟨k, off, none⟩ = some v :=
  (((Mv.refl w [b]).grown hg (fun j hj => by cases hj; simp)).cell (by simpa using hne) hc).1

end
end Go.Proofs.YtihapgangilncaaGreat
