/- spec.comparePlain and spec.CompareValues. spec.comparePlain and spec.CompareValues: the walk. The order of values is one: it turns with its arguments, and it is 0 exactly for equal values (without NaN). Plain Lean. value.Compare, value.Less, impl.CompareValues, impl.LessValues, impl.EqualValues. (printed by gen_cmpi.py) -/
import Derived.Test.YtihapgangilncaaGreatKFCmpE
import Derived.Test.YtihapgangilncaaGreatKFElemP
namespace Go.Proofs.YtihapgangilncaaGreat
open Go.RowKit
set_option linter.unusedSimpArgs false

/- Tidy: each key has a value -/
mutual
def V.Tidy : V → Prop
  | .mk _ _ _ _ ks l => ks.length ≤ l.length ∧ V.TidyL l
def V.TidyL : List V → Prop
  | [] => True
  | x :: l => x.Tidy ∧ V.TidyL l
end
theorem cmpI_sub {a b k : Nat} (h1 : k ≤ a) (h2 : k ≤ b) : cmpI ((a - k : Nat) : Int) ((b - k : Nat) : Int) = cmpI a b := by
  simp only [cmpI]
  (repeat' split) <;> omega

end Go.Proofs.YtihapgangilncaaGreat

namespace Go.Proofs.YtihapgangilncaaGreat
open Go.RowKit
set_option linter.unusedSimpArgs false

end Go.Proofs.YtihapgangilncaaGreat

namespace Go.Proofs.YtihapgangilncaaGreat
open Go.RowKit
set_option linter.unusedSimpArgs false

theorem int_swap (a b : Int) : compare b a = (compare a b).swap := by
  rw [Int.compare_swap]
theorem nat_swap (a b : Nat) : compare b a = (compare a b).swap := by
  rw [Nat.compare_swap]
theorem dOrder_swap (d e : Ieee.Datum) : e.order d = (d.order e).map Ordering.swap := by
  cases d <;> cases e <;> simp only [Ieee.Datum.order, Option.map_none, Option.map_some]
  · rename_i s m i t n j
    rw [Int.min_comm j i, int_swap]
  · rename_i s m i t
    cases t <;> rfl
  · rename_i s t n j
    cases s <;> rfl
  · rename_i s t
    rw [nat_swap]
theorem order_swap (a b : Nat) : FloatKind.f64.format.order b a = (FloatKind.f64.format.order a b).map Ordering.swap := dOrder_swap _ _
def NoNan (x : Nat) : Prop := (FloatKind.f64.format.read x).isNaN = false
theorem order_some {x y : Nat} (hx : NoNan x) (hy : NoNan y) : FloatKind.f64.format.order x y ≠ none := by
  unfold NoNan at hx hy
  unfold Ieee.Format.order
  generalize FloatKind.f64.format.read x = d at hx
  generalize FloatKind.f64.format.read y = e at hy
  cases d <;> cases e <;> simp_all [Ieee.Datum.order, Ieee.Datum.isNaN]
theorem noNan_of {x : Nat} (h : (FloatKind.f64.format.order x x == some .eq) = true) : NoNan x := by
  unfold NoNan
  unfold Ieee.Format.order at h
  generalize FloatKind.f64.format.read x = d at h
  cases d <;> simp_all [Ieee.Datum.order, Ieee.Datum.isNaN]
theorem word_mod {neg : Bool} {r : Nat} (h : r < Ieee.double.signWeight) : Ieee.double.word neg r % Ieee.double.signWeight = r := by
  unfold Ieee.Format.word
  split
  · rw [Nat.add_mod_left, Nat.mod_eq_of_lt h]
  · exact Nat.mod_eq_of_lt h
theorem read_word {neg : Bool} {r : Nat} (h : r ≤ Ieee.double.infRung) : (Ieee.double.read (Ieee.double.word neg r)).isNaN = false := by
  have hs : Ieee.double.infRung < Ieee.double.signWeight := by decide
  have hm : Ieee.double.word neg r % Ieee.double.signWeight = r := word_mod (by omega)
  simp only [Ieee.Format.read, hm]
  split
  · rfl
  split
  · rfl
  split
  · rfl
  · omega
theorem noNan_toF (n : Int) : NoNan (toF n) := by
  show (Ieee.double.read (Ieee.double.nearest (decide (n < 0)) n.natAbs 0)).isNaN = false
  unfold Ieee.Format.nearest
  split
  · exact read_word (Nat.zero_le _)
  · exact read_word (Nat.min_le_right _ _)

theorem cmpF_neg (a b : Nat) : cmpF b a = - cmpF a b := by
  simp only [cmpF]
  rw [order_swap a b]
  cases h : FloatKind.f64.format.order a b with
  | none => rfl
  | some o => cases o <;> rfl
theorem cmpF_rng (a b : Nat) : cmpF a b = -1 ∨ cmpF a b = 0 ∨ cmpF a b = 1 := by
  simp only [cmpF]
  split <;> simp
theorem cmpF_zero {a b : Nat} (ha : NoNan a) (hb : NoNan b) : feq a b = true ↔ cmpF a b = 0 := by
  obtain ⟨o, ho⟩ := Option.ne_none_iff_exists'.1 (order_some ha hb)
  simp only [cmpF, feq, ho]
  cases o <;> simp
theorem cmpI_rng (a b : Int) : cmpI a b = -1 ∨ cmpI a b = 0 ∨ cmpI a b = 1 := by
  simp only [cmpI]
  (repeat' split) <;> simp
theorem cmpS_rng (a b : ByteArray) : cmpS a b = -1 ∨ cmpS a b = 0 ∨ cmpS a b = 1 := by
  rw [cmpS_slt]
  (repeat' split) <;> simp

theorem cmpP_same' {k n k2 n2 : Int} {f f2 : Nat} {s s2 : ByteArray} {ks ks2 : List ByteArray} {l l2 : List V} (h : cmpI (rkK k) (rkK k2) = 0) :
    V.cmpP (.mk k n f s ks l) (.mk k2 n2 f2 s2 ks2 l2) = if rkK k = 0 then (if k = 2 ∧ k2 = 2 then cmpI n n2 else cmpF (asF k n f) (asF k2 n2 f2))
    else if rkK k = 1 then cmpS s s2 else if rkK k = 2 then cmpI n n2 else if rkK k = 3 then V.cmpPL l l2 else if rkK k = 4 then V.cmpPM ks l ks2 l2 else 0 := by simp only [V.cmpP]; rw [if_neg (by simp [h])]

theorem cmpP_rank' {k n k2 n2 : Int} {f f2 : Nat} {s s2 : ByteArray} {ks ks2 : List ByteArray} {l l2 : List V} (h : cmpI (rkK k) (rkK k2) ≠ 0) :
    V.cmpP (.mk k n f s ks l) (.mk k2 n2 f2 s2 ks2 l2) = cmpI (rkK k) (rkK k2) := by simp only [V.cmpP]; rw [if_pos h]

mutual
theorem cmpP_rng : ∀ u v : V, V.cmpP u v = -1 ∨ V.cmpP u v = 0 ∨ V.cmpP u v = 1
  | .mk k n f s ks l, .mk k2 n2 f2 s2 ks2 l2 => by
    have h1 := cmpI_rng (rkK k) (rkK k2)
    have h2 := cmpI_rng n n2
    have h3 := cmpF_rng (asF k n f) (asF k2 n2 f2)
    have h4 := cmpS_rng s s2
    have h5 := cmpPL_rng l l2
    have h6 := cmpPM_rng ks l ks2 l2
    simp only [V.cmpP]
    split
    · exact h1
    split
    · split
      · exact h2
      · exact h3
    split
    · exact h4
    split
    · exact h2
    split
    · exact h5
    split
    · exact h6
    · exact .inr (.inl rfl)
theorem cmpPL_rng : ∀ l m : List V, V.cmpPL l m = -1 ∨ V.cmpPL l m = 0 ∨ V.cmpPL l m = 1
  | [], [] => by simp [V.cmpPL]
  | [], _ :: _ => by simp [V.cmpPL]
  | _ :: _, [] => by simp [V.cmpPL]
  | x :: l, y :: m => by
    have h1 := cmpP_rng x y
    have h2 := cmpPL_rng l m
    simp only [V.cmpPL]
    split
    · exact h1
    · exact h2
theorem cmpPM_rng : ∀ (ks : List ByteArray) (l : List V) (ks2 : List ByteArray) (m : List V), V.cmpPM ks l ks2 m = -1 ∨ V.cmpPM ks l ks2 m = 0 ∨ V.cmpPM ks l ks2 m = 1
  | [], l, ks2, m => by simpa [V.cmpPM] using cmpI_rng 0 ks2.length
  | k :: ks, l, [], m => by simpa [V.cmpPM] using cmpI_rng (k :: ks).length 0
  | k :: ks, [], k2 :: ks2, m => by simpa [V.cmpPM] using cmpI_rng (k :: ks).length (k2 :: ks2).length
  | k :: ks, x :: l, k2 :: ks2, [] => by simpa [V.cmpPM] using cmpI_rng (k :: ks).length (k2 :: ks2).length
  | k :: ks, x :: l, k2 :: ks2, y :: m => by
    have h0 := cmpS_rng k k2
    have h1 := cmpP_rng x y
    have h2 := cmpPM_rng ks l ks2 m
    simp only [V.cmpPM]
    split
    · exact h0
    split
    · exact h1
    · exact h2
end

theorem neg_if1 (a c : Int) : (if -a ≠ 0 then -a else -c) = -(if a ≠ 0 then a else c) := by (repeat' split) <;> omega
theorem neg_if2 (a b c : Int) : (if -a ≠ 0 then -a else if -b ≠ 0 then -b else -c) = -(if a ≠ 0 then a else if b ≠ 0 then b else c) := by (repeat' split) <;> omega

mutual
theorem cmpP_neg : ∀ u v : V, V.cmpP v u = - V.cmpP u v
  | .mk k n f s ks l, .mk k2 n2 f2 s2 ks2 l2 => by
    have h1 := cmpI_neg (rkK k) (rkK k2)
    have h2 := cmpI_neg n n2
    have h3 := cmpF_neg (asF k n f) (asF k2 n2 f2)
    have h4 := cmpS_neg s s2
    have h5 := cmpPL_neg l l2
    have h6 := cmpPM_neg ks l ks2 l2
    by_cases hr : cmpI (rkK k) (rkK k2) = 0
    · have hk : rkK k = rkK k2 := cmpI_zero.1 hr
      have hr2 : cmpI (rkK k2) (rkK k) = 0 := by rw [h1, hr]; rfl
      rw [cmpP_same' hr, cmpP_same' hr2, ← hk]
      split
      · by_cases e : k = 2 ∧ k2 = 2
        · rw [if_pos e, if_pos ⟨e.2, e.1⟩, h2]
        · rw [if_neg e, if_neg (fun h => e ⟨h.2, h.1⟩), h3]
      split
      · exact h4
      split
      · exact h2
      split
      · exact h5
      split
      · exact h6
      · rfl
    · have hr2 : cmpI (rkK k2) (rkK k) ≠ 0 := by rw [h1]; omega
      rw [cmpP_rank' hr, cmpP_rank' hr2, h1]
theorem cmpPL_neg : ∀ l m : List V, V.cmpPL m l = - V.cmpPL l m
  | [], [] => by simp [V.cmpPL]
  | [], _ :: _ => by simp [V.cmpPL]
  | _ :: _, [] => by simp [V.cmpPL]
  | x :: l, y :: m => by
    simp only [V.cmpPL]
    rw [cmpP_neg x y, cmpPL_neg l m]
    exact neg_if1 _ _
theorem cmpPM_neg : ∀ (ks : List ByteArray) (l : List V) (ks2 : List ByteArray) (m : List V), V.cmpPM ks2 m ks l = - V.cmpPM ks l ks2 m
  | [], l, ks2, m => by cases ks2 <;> simp [V.cmpPM, cmpI] <;> omega
  | k :: ks, l, [], m => by simp [V.cmpPM, cmpI]; omega
  | k :: ks, [], k2 :: ks2, m => by simpa [V.cmpPM] using cmpI_neg (k :: ks).length (k2 :: ks2).length
  | k :: ks, x :: l, k2 :: ks2, [] => by simpa [V.cmpPM] using cmpI_neg (k :: ks).length (k2 :: ks2).length
  | k :: ks, x :: l, k2 :: ks2, y :: m => by
    simp only [V.cmpPM]
    rw [cmpS_neg k k2, cmpP_neg x y, cmpPM_neg ks l ks2 m]
    exact neg_if2 _ _ _
end

/-- the clean forms -/
inductive Cl : V → Prop
  | null : Cl (.mk 0 0 0 ⟨#[]⟩ [] [])
  | bool (n : Int) : Cl (.mk 1 n 0 ⟨#[]⟩ [] [])
  | int (n : Int) : Cl (.mk 2 n 0 ⟨#[]⟩ [] [])
  | float (f : Nat) : Cl (.mk 3 0 f ⟨#[]⟩ [] [])
  | str (s : ByteArray) : Cl (.mk 4 0 0 s [] [])
  | list (l : List V) (h : ∀ i (h : i < l.length), Cl l[i]) : Cl (.mk 5 0 0 ⟨#[]⟩ [] l)
  | map (ks : List ByteArray) (l : List V) (hl : ks.length = l.length) (h : ∀ i (h : i < l.length), Cl l[i]) : Cl (.mk 6 0 0 ⟨#[]⟩ ks l)
theorem clean_cl (v : V) : Cl v.clean := by
  induction v using V.ind with
  | h kind n f s keys l ih =>
    have hl : ∀ x ∈ V.cleanL l, Cl x := fun x hx => by
      rw [V.cleanL_eq] at hx
      obtain ⟨y, hy, rfl⟩ := List.mem_map.1 hx
      obtain ⟨i, hi, rfl⟩ := List.getElem_of_mem hy
      exact ih i hi
    simp only [V.clean]
    split
    · exact .bool _
    split
    · exact .int _
    split
    · exact .float _
    split
    · exact .str _
    split
    · exact .list _ fun i hi => hl _ (List.getElem_mem hi)
    split
    · refine .map _ _ (by simp) fun i hi => ?_
      obtain ⟨p, hp, e⟩ := List.mem_map.1 (List.getElem_mem hi)
      rw [← e]
      exact hl _ (List.of_mem_zip (insAll_sub hp)).2
    · exact .null

theorem eqPL_cmp : ∀ {l m : List V}, (∀ i (h : i < l.length) j (h2 : j < m.length), V.eqP l[i] m[j] = true ↔ V.cmpP l[i] m[j] = 0) → ((l.length = m.length ∧ V.eqPL l m = true) ↔ V.cmpPL l m = 0)
  | [], [], _ => by simp [V.cmpPL, V.eqPL]
  | [], _ :: _, _ => by simp [V.cmpPL, V.eqPL]
  | _ :: _, [], _ => by simp [V.cmpPL, V.eqPL]
  | x :: l, y :: m, h => by
    have h0 : V.eqP x y = true ↔ V.cmpP x y = 0 := h 0 (Nat.zero_lt_succ _) 0 (Nat.zero_lt_succ _)
    have h1 := eqPL_cmp (l := l) (m := m) (fun i hi j hj => h (i + 1) (Nat.succ_lt_succ hi) (j + 1) (Nat.succ_lt_succ hj))
    simp only [V.cmpPL, V.eqPL, List.length_cons, Bool.and_eq_true, h0, Nat.add_right_cancel_iff]
    by_cases hz : V.cmpP x y = 0
    · rw [if_neg (by simp [hz]), ← h1]; simp [hz]
    · rw [if_pos hz]; simp [hz]
theorem eqPM_cmp : ∀ {ks ks2 : List ByteArray} {l m : List V}, ks.length = l.length → ks2.length = m.length → (∀ i (h : i < l.length) j (h2 : j < m.length), V.eqP l[i] m[j] = true ↔ V.cmpP l[i] m[j] = 0) → ((ks = ks2 ∧ l.length = m.length ∧ V.eqPL l m = true) ↔ V.cmpPM ks l ks2 m = 0)
  | [], [], [], [], _, _, _ => by simp [V.cmpPM, V.eqPL, cmpI]
  | [], k2 :: ks2, [], m, _, h2, _ => by simp [V.cmpPM, cmpI] <;> omega
  | k :: ks, [], l, [], _, _, _ => by simp [V.cmpPM, cmpI] <;> omega
  | k :: ks, k2 :: ks2, x :: l, y :: m, e1, e2, h => by
    have h0 : V.eqP x y = true ↔ V.cmpP x y = 0 := h 0 (Nat.zero_lt_succ _) 0 (Nat.zero_lt_succ _)
    have h1 := eqPM_cmp (ks := ks) (ks2 := ks2) (l := l) (m := m) (by simpa using e1) (by simpa using e2) (fun i hi j hj => h (i + 1) (Nat.succ_lt_succ hi) (j + 1) (Nat.succ_lt_succ hj))
    simp only [V.cmpPM, V.eqPL, List.length_cons, List.cons.injEq, Bool.and_eq_true, h0, Nat.add_right_cancel_iff]
    by_cases hk : cmpS k k2 = 0
    · have hkk := cmpS_zero.1 hk
      by_cases hz : V.cmpP x y = 0
      · rw [if_neg (by simp [hk]), if_neg (by simp [hz]), ← h1]; simp [hz, hkk]
      · rw [if_neg (by simp [hk]), if_pos hz]; simp [hz]
    · have hkk : k ≠ k2 := fun e => hk (cmpS_zero.2 e)
      rw [if_pos hk]; simp [hk, hkk]

theorem cmpP_eq {u : V} (hu : Cl u) : ∀ {v : V}, Cl v → u.orderly = true → v.orderly = true → (V.eqP u v = true ↔ V.cmpP u v = 0) := by
  induction hu with
  | null => intro v hv _ _; cases hv <;> simp [V.eqP, V.cmpP, V.eqPL, vnum, rkK, cmpI]
  | bool n =>
    intro v hv _ _
    cases hv
    case bool n2 =>
      rw [eqP_else (by decide), cmpP_same' (by decide)]
      simp [V.eqPL, rkK, cmpI_zero]
    all_goals simp [V.eqP, V.cmpP, vnum, rkK, cmpI]
  | int n =>
    intro v hv _ ov
    cases hv
    case int n2 =>
      rw [eqP_num (by decide), cmpP_same' (by decide)]
      simp [rkK, cmpI_zero]
    case float f2 =>
      have hf : NoNan f2 := noNan_of (by simpa [V.orderly] using ov)
      rw [eqP_num (by decide), cmpP_same' (by decide)]
      simpa [rkK, asF] using cmpF_zero (noNan_toF n) hf
    all_goals simp [V.eqP, V.cmpP, vnum, rkK, cmpI]
  | float f =>
    intro v hv ou ov
    have hf1 : NoNan f := noNan_of (by simpa [V.orderly] using ou)
    cases hv
    case int n2 =>
      rw [eqP_num (by decide), cmpP_same' (by decide)]
      simpa [rkK, asF] using cmpF_zero hf1 (noNan_toF n2)
    case float f2 =>
      have hf : NoNan f2 := noNan_of (by simpa [V.orderly] using ov)
      rw [eqP_num (by decide), cmpP_same' (by decide)]
      simpa [rkK, asF] using cmpF_zero hf1 hf
    all_goals simp [V.eqP, V.cmpP, vnum, rkK, cmpI]
  | str s =>
    intro v hv _ _
    cases hv
    case str s2 =>
      rw [eqP_else (by decide), cmpP_same' (by decide)]
      simp [V.eqPL, rkK, cmpS_zero]
    all_goals simp [V.eqP, V.cmpP, vnum, rkK, cmpI]
  | list l h ih =>
    intro v hv ou ov
    cases hv
    case list m hm =>
      have ol := (orderlyL_iff l).1 (by simpa [V.orderly] using ou)
      have om := (orderlyL_iff m).1 (by simpa [V.orderly] using ov)
      have he := eqPL_cmp (fun i hi j hj => ih i hi (hm j hj) (ol i hi) (om j hj))
      rw [eqP_list, cmpP_same' (by decide)]
      simpa [rkK] using he
    all_goals simp [V.eqP, V.cmpP, vnum, rkK, cmpI]
  | map ks l hl h ih =>
    intro v hv ou ov
    cases hv
    case map ks2 m hl2 hm =>
      have ol := (orderlyL_iff l).1 (by simpa [V.orderly] using ou)
      have om := (orderlyL_iff m).1 (by simpa [V.orderly] using ov)
      have he := eqPM_cmp hl hl2 (fun i hi j hj => ih i hi (hm j hj) (ol i hi) (om j hj))
      rw [eqP_map, cmpP_same' (by decide)]
      simpa [rkK] using he
    all_goals simp [V.eqP, V.cmpP, vnum, rkK, cmpI]

theorem orderly_clean (v : V) (h : v.orderly = true) : v.clean.orderly = true := by
  induction v using V.ind with
  | h kind n f s keys l ih =>
    have hl : (kind = 5 ∨ kind = 6) → ∀ x ∈ V.cleanL l, x.orderly = true := fun hk x hx => by
      rw [V.cleanL_eq] at hx
      obtain ⟨y, hy, rfl⟩ := List.mem_map.1 hx
      obtain ⟨i, hi, rfl⟩ := List.getElem_of_mem hy
      have h2 : V.orderlyL l = true := by
        rcases hk with rfl | rfl <;> simpa [V.orderly] using h
      exact ih i hi ((orderlyL_iff l).1 h2 i hi)
    by_cases k1 : kind = 1
    · subst k1; simp [V.clean, V.orderly]
    by_cases k2 : kind = 2
    · subst k2; simpa [V.clean, V.orderly] using h
    by_cases k3 : kind = 3
    · subst k3; simpa [V.clean, V.orderly] using h
    by_cases k4 : kind = 4
    · subst k4; simp [V.clean, V.orderly]
    by_cases k5 : kind = 5
    · subst k5
      have : V.orderlyL (V.cleanL l) = true := (orderlyL_iff _).2 fun i hi => hl (.inl rfl) _ (List.getElem_mem hi)
      simpa [V.clean, V.orderly] using this
    by_cases k6 : kind = 6
    · subst k6
      have : V.orderlyL ((insAll [] (keys.zip (V.cleanL l))).map (·.2)) = true := (orderlyL_iff _).2 fun i hi => by
        obtain ⟨p, hp, e⟩ := List.mem_map.1 (List.getElem_mem hi)
        rw [← e]
        exact hl (.inr rfl) _ (List.of_mem_zip (insAll_sub hp)).2
      simpa [V.clean, V.orderly] using this
    · simp [V.clean, V.orderly, k1, k2, k3, k4, k5, k6]

/-- the order of two orderly values, and whether they are equal, one way and the other -/
theorem turned {a b : V} (ha : a.orderly = true) (hb : b.orderly = true) : ∃ (c : Int) (b0 b1 b2 : Bool), V.cmpP a.clean b.clean = c ∧ V.cmpP b.clean a.clean = -c ∧ (c == -1) = b0 ∧ (-c == -1) = b2 ∧ V.eqP a.clean b.clean = b1 ∧ V.eqP b.clean a.clean = b1 ∧
    ((c = -1 ∧ b0 = true ∧ b1 = false ∧ b2 = false) ∨ (c = 0 ∧ b0 = false ∧ b1 = true ∧ b2 = false) ∨ (c = 1 ∧ b0 = false ∧ b1 = false ∧ b2 = true)) := by
  have h1 := cmpP_eq (clean_cl a) (clean_cl b) (orderly_clean a ha) (orderly_clean b hb)
  have h2 := cmpP_eq (clean_cl b) (clean_cl a) (orderly_clean b hb) (orderly_clean a ha)
  have h3 := cmpP_neg a.clean b.clean
  rw [h3] at h2
  refine ⟨_, _, V.eqP a.clean b.clean, _, rfl, h3, rfl, rfl, rfl, ?_, ?_⟩
  · rw [Bool.eq_iff_iff, h1, h2]; omega
  · rcases cmpP_rng a.clean b.clean with h | h | h
    · refine .inl ⟨h, by rw [h]; rfl, ?_, by rw [h]; rfl⟩
      rw [Bool.eq_false_iff]; intro h4; rw [h1] at h4; omega
    · exact .inr (.inl ⟨h, by rw [h]; rfl, h1.2 h, by rw [h]; rfl⟩)
    · refine .inr (.inr ⟨h, by rw [h]; rfl, ?_, by rw [h]; rfl⟩)
      rw [Bool.eq_false_iff]; intro h4; rw [h1] at h4; omega
end Go.Proofs.YtihapgangilncaaGreat

namespace Go.Proofs.YtihapgangilncaaGreat
open Go.RowKit
set_option linter.unusedSimpArgs false

theorem IsVal.one {w : World} {X : List Nat} {v : Value} {t : T} (h : IsVal w X v t) : v.oneCell' = true := by
  obtain ⟨p, x, rfl, _⟩ := h.ex
  rfl

set_option maxRecDepth 100000 in
set_option maxHeartbeats 1000000 in
theorem valueCompare_c {w : World} {X Y : List Nat} {a b : T} {va vb : Value} (ha : IsVal w X va a) (hb : IsVal w Y vb b) (R : Ending → World → Prop) (hR : Ends R w (.int .i64 (cmpT a b))) :
    Calls Tryz.prog 147 #[va, vb] w R := by
  obtain ⟨pa, xa, rfl, -⟩ := id ha.ex
  obtain ⟨pb, xb, rfl, -⟩ := id hb.ex
  have ha' := Lib.hid ha
  have hb' := Lib.hid hb
  have hR' := Lib.hid hR
  clear hR ha hb
  go_enter Tryz.func147, Tryz.ntmps147
  go_wp2_with fail
  refine compare_c b _ X Y a _ _ _ (ha'.out.mv ((Ext.alloc _ _).mv _)) (hb'.out.mv ((Ext.alloc _ _).mv _)) ⟨_, rfl⟩ _ ?_
  intro w2 hE2
  dsimp only
  go_wp2_with fail
  exact hR'.out _ ((Ext.alloc _ _).trans hE2)
end Go.Proofs.YtihapgangilncaaGreat
