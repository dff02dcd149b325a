/- Plain law: two types (one kind each, no references with a relationship of their own) that are turned into the package's form are equal there just if they are written alike. -/
import Derived.Test.YtnndacgokehkpaaEqAt
import Derived.Test.YtnndacgokehkpaaSameT
import Derived.Test.YtnndacgokehkpaaBare
namespace Go.Proofs.Ytnndacgokehkpaa
open Go.RowKit
set_option linter.unusedSimpArgs false

theorem beqB (s t : ByteArray) : (s == t) = decide (s = t) := by by_cases h : s = t <;> simp [h]
theorem feq_zero : feq 0 0 = true := by kernel_rfl
theorem dpT_null (s : T) : dpT s .null = s.isNull := by cases s <;> simp [dpT, T.isNull]

theorem tree_list (l m : List V) : V.tree (.mk 5 0 0 ⟨#[]⟩ [] l) (.mk 5 0 0 ⟨#[]⟩ [] m) = (decide (l.length = m.length) && V.treeL l m) := by simp [V.tree, feq_zero]
theorem tree_map (ks js : List ByteArray) (l m : List V) : V.tree (.mk 6 0 0 ⟨#[]⟩ ks l) (.mk 6 0 0 ⟨#[]⟩ js m) = (decide (l.length = m.length) && (decide (ks = js) && V.treeL l m)) := by simp [V.tree, feq_zero]

theorem dpT_back : ∀ {s t : T}, s.Wf → t.Wf → dpT s t = V.tree s.back t.back := by
  intro s
  induction s using T.ind with
  | list m ih =>
    intro t hs ht
    cases hs with
    | list hs =>
    cases ht with
    | @list l ht =>
      simp only [dpT, T.back, T.backL_eq]
      rw [tree_list, List.length_map, List.length_map]
      by_cases hl : m.length = l.length
      · rw [decide_eq_true hl, Bool.true_and, Bool.true_and]
        rw [Bool.eq_iff_iff, dpTs_iff hl, treeL_iff (by simpa using hl)]
        simp only [List.length_map, List.getElem_map]
        exact ⟨fun h i h1 h2 => (ih i h1 (hs i h1) (ht i h2)) ▸ h i h1 h2, fun h i h1 h2 => (ih i h1 (hs i h1) (ht i h2)).symm ▸ h i h1 h2⟩
      · simp [hl]
    | _ => simp [dpT, T.back, V.tree]
  | map js m ih =>
    intro t hs ht
    cases hs with
    | map hn1 hl1 hs =>
    cases ht with
    | @map ks l hn2 hl2 ht =>
      have k1 : (js.zip m).map (·.1) = js := by rw [List.map_fst_zip (by omega)]
      have k2 : (ks.zip l).map (·.1) = ks := by rw [List.map_fst_zip (by omega)]
      have hr : ∀ x y, (∃ k, (k, x) ∈ js.zip m) → (∃ k, (k, y) ∈ ks.zip l) → dpT x y = V.tree x.back y.back := fun x y ⟨k, hx⟩ ⟨j, hy⟩ => by
        obtain ⟨i, hi, rfl⟩ := List.getElem_of_mem (List.of_mem_zip hx).2
        obtain ⟨q, hq, rfl⟩ := List.getElem_of_mem (List.of_mem_zip hy).2
        exact ih i hi (hs i hi) (ht q hq)
      have main := maps_eq (P := ks.zip l) (Q := js.zip m) (by rw [k2]; exact hn2) (by rw [k1]; exact hn1) (fun x y => V.tree y.back x.back)
      have e1 : js.zip (T.backL m) = (js.zip m).map fun p => (p.1, p.2.back) := by rw [T.backL_eq, zip_map_right]
      have e2 : ks.zip (T.backL l) = (ks.zip l).map fun p => (p.1, p.2.back) := by rw [T.backL_eq, zip_map_right]
      simp only [dpT, T.back]
      rw [tree_map, e1, e2, ← insAll_map, ← insAll_map, Bool.eq_iff_iff]
      simp only [List.map_map, Function.comp_def, Bool.and_eq_true, decide_eq_true_eq, List.length_map]
      constructor
      · rintro ⟨hlen, hall⟩
        obtain ⟨hk, hp⟩ := main.1 ⟨hlen.symm, fun p hp => by
          obtain ⟨i, hi, rfl⟩ := List.getElem_of_mem hp
          have := dpTm_iff.1 hall i hi
          simp only [inMapD, getEnt_lookK] at this
          cases hx : lookK ((js.zip m)[i]).1 (ks.zip l) with
          | none => rw [hx] at this; cases this
          | some x =>
            rw [hx] at this
            exact ⟨x, rfl, (hr ((js.zip m)[i]).2 x ⟨((js.zip m)[i]).1, hp⟩ ⟨_, lookK_mem hx⟩).symm.trans this⟩⟩
        have hlen2 := congrArg List.length hk
        simp only [List.length_map] at hlen2
        refine ⟨hlen2.symm, hk.symm, (treeL_iff (by simpa using hlen2.symm)).2 fun i h1 h2 => ?_⟩
        simp only [List.getElem_map, List.length_map] at h1 h2 ⊢
        exact hp i h2 h1
      · rintro ⟨hlen2, hk, hall⟩
        obtain ⟨hlen, hp⟩ := main.2 ⟨hk.symm, fun i h1 h2 => by
          have := (treeL_iff (by simpa using hlen2)).1 hall i (by simpa using h2) (by simpa using h1)
          simpa using this⟩
        refine ⟨hlen.symm, dpTm_iff.2 fun i hi => ?_⟩
        obtain ⟨x, hx, h⟩ := hp _ (List.getElem_mem hi)
        simp only [inMapD, getEnt_lookK, hx]
        exact (hr ((js.zip m)[i]).2 x ⟨((js.zip m)[i]).1, List.getElem_mem hi⟩ ⟨_, lookK_mem hx⟩).trans h
    | _ => simp [dpT, T.back, V.tree]
  | null => intro t hs ht; cases ht <;> simp [dpT, T.back, V.tree, T.isNull, feq_zero, V.treeL]
  | bool b =>
    intro t hs ht
    cases ht with
    | bool c => cases b <;> cases c <;> simp [dpT, T.back, V.tree, V.treeL, feq_zero]
    | _ => simp [dpT, T.back, V.tree]
  | str b => intro t hs ht; cases ht <;> simp [dpT, T.back, V.tree, V.treeL, feq_zero, beqB]
  | int b => intro t hs ht; cases ht <;> simp [dpT, T.back, V.tree, V.treeL, feq_zero]; (try exact rfl)
  | float b => intro t hs ht; cases ht <;> simp [dpT, T.back, V.tree, V.treeL, feq_zero]

theorem dp_plain (v u : V) : dpT v.plain u.plain = sT v u := by
  rw [dpT_back (plain_wf v) (plain_wf u), back_plain, back_plain]
  rfl
theorem null_kind (v : V) : (v.clean.kindOf = 0) = (v.plain.isNull = true) := by
  rw [← back_plain]
  cases v.plain <;> simp [T.back, V.kindOf, T.isNull]

def dfT (l : List V) : T := match l with | [] => .null | v :: _ => v.plain
theorem df_alike (l m : List V) : dpT (dfT l) (dfT m) = ((dfOf l).length == (dfOf m).length && dfAlike sT (dfOf l) (dfOf m)) := by
  cases l with
  | nil =>
    cases m with
    | nil => simp [dfT, dfOf, dfAlike, dpT, T.isNull]
    | cons u m =>
      simp only [dfT, dfOf, dpT, null_kind]
      cases h : u.plain.isNull <;> simp [dfAlike]
  | cons v l =>
    cases m with
    | nil =>
      simp only [dfT, dfOf, dpT_null, null_kind]
      cases h : v.plain.isNull <;> simp [dfAlike]
    | cons u m =>
      simp only [dfT, dfOf, null_kind]
      cases hv : v.plain.isNull <;> cases hu : u.plain.isNull
      · simp [dfAlike, dp_plain]
      · obtain e : u.plain = .null := by cases h : u.plain <;> simp_all [T.isNull]
        rw [e, dpT_null, hv]; simp [dfAlike]
      · obtain e : v.plain = .null := by cases h : v.plain <;> simp_all [T.isNull]
        rw [e]; simp [dfAlike, dpT, hu]
      · obtain e : v.plain = .null := by cases h : v.plain <;> simp_all [T.isNull]
        rw [e]; simp [dfAlike, dpT, hu]

theorem eqA_none (d : Nat) : eqA d (.mk none none none) (.mk none none none) = true := by cases d <;> simp [eqA, eqAt]
theorem bareS_none (d : Nat) : BareS d (.mk none none none) := by
  cases d with
  | zero => trivial
  | succ d => exact ⟨fun x h => (by cases h), fun x h => (by cases h)⟩

theorem rf_alike {d : Nat} (ih : ∀ a b : A, BareP d a → BareP d b → eqA d (toA d a) (toA d b) = aAlike sT d a b) {r s : RfOf A} (h1 : BareR (BareP d) r) (h2 : BareR (BareP d) s) :
    eqRf (eqA d) (toRf (toA d) r) (toRf (toA d) s) = rfAlike (aAlike sT d) r s := by
  obtain ⟨n1, nm1, at1, rel1⟩ := r
  obtain ⟨n2, nm2, at2, rel2⟩ := s
  obtain ⟨e1, b1⟩ := h1
  obtain ⟨e2, b2⟩ := h2
  simp only at e1 e2 b1 b2
  subst e1 e2
  have := ih at1 at2 b1 b2
  cases n1 <;> cases n2 <;> simp [eqRf, toRf, rfAlike, eqA_none, this, beqB]
theorem bare_rf {d : Nat} (ih : ∀ a : A, BareP d a → BareS d (toA d a)) {r : RfOf A} (h : BareR (BareP d) r) : bareRf (BareS d) (toRf (toA d) r) := by
  obtain ⟨e, b⟩ := h
  refine ⟨by simp [toRf, e], ?_⟩
  simp only [toRf]
  split
  · exact bareS_none d
  · exact ih _ b
theorem lt_alike {d : Nat} (ih : ∀ a b : A, BareP d a → BareP d b → eqA d (toA d a) (toA d b) = aAlike sT d a b) {l m : LtOf A} (h1 : BareR (BareP d) l.elem) (h2 : BareR (BareP d) m.elem) :
    eqLt (eqA d) (toLt (toA d) l) (toLt (toA d) m) = ltAlike (aAlike sT d) l m := by
  have h := rf_alike ih h1 h2
  have e := beqB l.rel m.rel
  simp only [eqLt, toLt, ltAlike, h, e]
  cases rfAlike (aAlike sT d) l.elem m.elem <;> simp <;> congr
theorem ft_alike {d : Nat} (ih : ∀ a b : A, BareP d a → BareP d b → eqA d (toA d a) (toA d b) = aAlike sT d a b) {x y : FtOf A} (h1 : BareR (BareP d) x.type) (h2 : BareR (BareP d) y.type) :
    eqFt (eqA d) (toFt (toA d) x) (toFt (toA d) y) = ftAlike sT (aAlike sT d) x y := by
  have h := rf_alike ih h1 h2
  have e := beqB x.name y.name
  have hd := df_alike x.dflt y.dflt
  have e1 : (toFt (toA d) x).dflt = dfT x.dflt := rfl
  have e2 : (toFt (toA d) y).dflt = dfT y.dflt := rfl
  simp only [eqFt, ftAlike, e1, e2, hd, e]
  simp only [toFt, h]
  cases rfAlike (aAlike sT d) x.type y.type <;> cases ((dfOf x.dflt).length == (dfOf y.dflt).length) <;> simp <;> congr
theorem all2b_map {α β : Type} {g : β → β → Bool} {g2 : α → α → Bool} {h : α → β} : ∀ {l m : List α}, (∀ x ∈ l, ∀ y ∈ m, g (h x) (h y) = g2 x y) → all2b g (l.map h) (m.map h) = all2b g2 l m
  | [], [], _ => rfl
  | [], _ :: _, _ => rfl
  | _ :: _, [], _ => rfl
  | x :: l, y :: m, e => by
    simp only [List.map_cons, all2b]
    rw [e x (List.mem_cons_self ..) y (List.mem_cons_self ..), all2b_map fun a ha b hb => e a (List.mem_cons_of_mem _ ha) b (List.mem_cons_of_mem _ hb)]
theorem mt_alike {d : Nat} (ih : ∀ a b : A, BareP d a → BareP d b → eqA d (toA d a) (toA d b) = aAlike sT d a b) {m n : MtOf A} (h1 : BareR (BareP d) m.elem ∧ ∀ x ∈ m.fields, BareR (BareP d) x.type) (h2 : BareR (BareP d) n.elem ∧ ∀ x ∈ n.fields, BareR (BareP d) x.type) :
    eqMt (eqA d) (toMt (toA d) m) (toMt (toA d) n) = mtAlike sT (aAlike sT d) m n := by
  have h := rf_alike ih h1.1 h2.1
  have e := beqB m.rel n.rel
  have hf := all2b_map (g := eqFt (eqA d)) (g2 := ftAlike sT (aAlike sT d)) (h := toFt (toA d)) (l := m.fields) (m := n.fields) fun x hx y hy => ft_alike ih (h1.2 x hx) (h2.2 y hy)
  simp only [eqMt, toMt, mtAlike, h, hf, e]
  by_cases hl : m.fields.length = n.fields.length
  · simp only [hl, beq_self_eq_true]
    cases rfAlike (aAlike sT d) m.elem n.elem <;> simp <;> congr
  · rw [all2b_neq hl]; simp

theorem atoms_law (d : Nat) : ∀ a b : A, BareP d a → BareP d b → eqA d (toA d a) (toA d b) = aAlike sT d a b := by
  induction d with
  | zero => intro a b _ _; rfl
  | succ d ih =>
    intro a b h1 h2
    obtain ⟨s, ls, ms⟩ := a
    obtain ⟨t, ks, ns⟩ := b
    obtain ⟨o1, l1, m1⟩ := h1
    obtain ⟨o2, l2, m2⟩ := h2
    have ee : ∀ s : ByteArray, s.toList.isEmpty = decide (s = ⟨#[]⟩) := fun s => by
      cases h : s.toList.isEmpty
      · exact (decide_eq_false (empty_ne h)).symm
      · exact (decide_eq_true (empty_eq h)).symm
    have e := beqB s t
    simp only [oneKind, ee] at o1 o2
    simp only [eqA, toA, toAt, eqAt, aAlike, aAlike1, al5, e]
    cases ls <;> cases ks <;> cases ms <;> cases ns <;> by_cases hs : s = ⟨#[]⟩ <;> by_cases ht : t = ⟨#[]⟩ <;> simp_all [all2b]
    all_goals first
      | exact Ne.symm ht
      | exact lt_alike ih l1 l2
      | exact mt_alike ih m1 m2
      | exact mt_alike ih ⟨m1.1, m1.2⟩ ⟨m2.1, m2.2⟩

theorem bare_law (d : Nat) : ∀ a : A, BareP d a → BareS d (toA d a) := by
  induction d with
  | zero => intro a _; trivial
  | succ d ih =>
    intro a h
    obtain ⟨s, ls, ms⟩ := a
    obtain ⟨-, l1, m1⟩ := h
    refine ⟨fun x hx => ?_, fun x hx => ?_⟩
    · cases ls with
      | nil => cases hx
      | cons l ls =>
        simp only [List.head?_cons, Option.map_some, Option.some.injEq] at hx
        subst hx
        exact bare_rf ih (l1 l (by simp))
    · cases ms with
      | nil => cases hx
      | cons m ms =>
        simp only [List.head?_cons, Option.map_some, Option.some.injEq] at hx
        subst hx
        have hm := m1 m (by simp)
        refine ⟨bare_rf ih hm.1, fun y hy => ?_⟩
        simp only [toMt, List.mem_map] at hy
        obtain ⟨z, hz, rfl⟩ := hy
        exact bare_rf ih (hm.2 z hz)
end Go.Proofs.Ytnndacgokehkpaa
