/- What impl.fromTree makes of a tree; of a plain value it makes the clean value (plain law). -/
import Derived.Test.YtihapgangilncaaGreatKFClean
import Derived.Test.YtihapgangilncaaGreatKFOrderly
namespace Go.Proofs.YtihapgangilncaaGreat
open Go.RowKit

theorem slt_irrefl' (a : ByteArray) : slt a a = false := by
  cases h : slt a a with
  | false => rfl
  | true => exact absurd h (by simp [slt_irrefl])

theorem rising_ext : ∀ {a b : List ByteArray}, Rising a → Rising b → (∀ k, k ∈ a ↔ k ∈ b) → a = b
  | [], [], _, _, _ => rfl
  | [], y :: b, _, _, h => by simpa using (h y).2 (by simp)
  | x :: a, [], _, _, h => by simpa using (h x).1 (by simp)
  | x :: a, y :: b, ha, hb, h => by
    have hxy : x = y := by
      rcases List.mem_cons.1 ((h x).1 (by simp)) with e | hx
      · exact e
      · rcases List.mem_cons.1 ((h y).2 (by simp)) with e | hy
        · exact e.symm
        · have := slt_trans (hb.1 x hx) (ha.1 y hy)
          rw [slt_irrefl'] at this
          cases this
    subst hxy
    have : a = b := rising_ext ha.2 hb.2 (fun k => by
      constructor
      · intro hk
        rcases List.mem_cons.1 ((h k).1 (by simp [hk])) with e | hk'
        · subst e
          have := ha.1 k hk
          rw [slt_irrefl'] at this
          cases this
        · exact hk'
      · intro hk
        rcases List.mem_cons.1 ((h k).2 (by simp [hk])) with e | hk'
        · subst e
          have := hb.1 k hk
          rw [slt_irrefl'] at this
          cases this
        · exact hk')
    rw [this]

theorem Rising.nodup : ∀ {ks : List ByteArray}, Rising ks → ks.Nodup
  | [], _ => List.nodup_nil
  | k :: ks, h => List.nodup_cons.2 ⟨fun hm => (by have := h.1 _ hm; rw [slt_irrefl] at this; cases this), h.2.nodup⟩

/-- the value under a key, the first one of it -/
def lookK {α : Type} (q : ByteArray) : EntsOfT α → Option α
  | [] => none
  | e :: es => if q = e.1 then some e.2 else lookK q es
theorem lookK_put {α : Type} (q k : ByteArray) (v : α) (es : EntsOfT α) : lookK q (putEnt k v es) = if q = k then some v else lookK q es := by
  induction es with
  | nil => simp [putEnt, lookK]
  | cons e es ih =>
    simp only [putEnt]
    by_cases hk : k = e.1
    · subst hk
      by_cases hq : q = e.1 <;> simp [lookK, hq]
    · rw [if_neg (by simpa using hk)]
      by_cases hq : q = e.1
      · subst hq
        simp [lookK, Ne.symm hk]
      · simp [lookK, hq, ih]
theorem lookK_ins {α : Type} (q k : ByteArray) (v : α) (es : EntsOfT α) : lookK q (insK k v es) = if q = k then some v else lookK q es := by
  induction es with
  | nil => simp [insK, lookK]
  | cons e es ih =>
    simp only [insK]
    cases hs : slt e.1 k with
    | true =>
      have hk : ¬ k = e.1 := fun h => by rw [h, slt_irrefl] at hs; cases hs
      by_cases hq : q = e.1
      · subst hq
        simp [lookK, Ne.symm hk]
      · simp [lookK, hq, ih]
    | false =>
      by_cases hk : e.1 = k
      · subst hk
        by_cases hq : q = e.1 <;> simp [lookK, hq]
      · by_cases hq : q = k <;> simp [lookK, hq, hk]
theorem lookK_none {α : Type} {q : ByteArray} {es : EntsOfT α} : lookK q es = none ↔ q ∉ es.map (·.1) := by
  induction es with
  | nil => simp [lookK]
  | cons e es ih => by_cases hq : q = e.1 <;> simp [lookK, hq, ih]
theorem rising_ents : ∀ {α : Type} {a b : EntsOfT α}, Rising (a.map (·.1)) → Rising (b.map (·.1)) → (∀ q, lookK q a = lookK q b) → a = b := by
  intro α a b ha hb h
  have hk : a.map (·.1) = b.map (·.1) := rising_ext ha hb (fun k => by
    have := h k
    constructor
    · intro h1
      refine Classical.not_not.1 fun h2 => ?_
      rw [lookK_none.2 h2, lookK_none] at this
      exact this h1
    · intro h1
      refine Classical.not_not.1 fun h2 => ?_
      rw [lookK_none.2 h2] at this
      exact lookK_none.1 this.symm h1)
  induction a generalizing b with
  | nil => cases b with
    | nil => rfl
    | cons e b => simp at hk
  | cons e a ih =>
    cases b with
    | nil => simp at hk
    | cons e' b =>
      simp only [List.map_cons, List.cons.injEq] at hk
      have h1 := h e.1
      simp only [lookK, if_true, hk.1] at h1
      have e1 : e = e' := Prod.ext hk.1 (by simpa using h1)
      subst e1
      congr 1
      refine ih ha.2 hb.2 (fun q => ?_) hk.2
      have h2 := h q
      by_cases hq : q = e.1
      · subst hq
        have n1 : e.1 ∉ a.map (·.1) := fun hm => by have := ha.1 _ hm; rw [slt_irrefl] at this; cases this
        have n2 : e.1 ∉ b.map (·.1) := fun hm => by have := hb.1 _ hm; rw [slt_irrefl] at this; cases this
        rw [lookK_none.2 n1, lookK_none.2 n2]
      · simpa [lookK, hq] using h2

theorem snoc_ind {α : Type} {motive : List α → Prop} (h0 : motive []) (h1 : ∀ l a, motive l → motive (l ++ [a])) (l : List α) : motive l := by
  have : ∀ r : List α, motive r.reverse := fun r => by
    induction r with
    | nil => exact h0
    | cons a r ih => rw [List.reverse_cons]; exact h1 _ _ ih
  simpa using this l.reverse

theorem lookK_insAll {α : Type} (q : ByteArray) (ps : EntsOfT α) : lookK q (insAll [] ps) = lookK q (putAll ps) := by
  induction ps using snoc_ind with
  | h0 => rfl
  | h1 l a ih => rw [insAll_snoc, putAll_snoc, lookK_ins, lookK_put, ih]
theorem putAll_nodup {α : Type} (ps : EntsOfT α) : ((putAll ps).map (·.1)).Nodup := by
  induction ps using snoc_ind with
  | h0 => simp [putAll]
  | h1 l a ih => rw [putAll_snoc]; exact putEnt_keys ih
theorem putAll_self {α : Type} {es : EntsOfT α} (h : (es.map (·.1)).Nodup) : putAll es = es := by
  induction es using snoc_ind with
  | h0 => rfl
  | h1 l a ih =>
    rw [List.map_append, List.nodup_append] at h
    rw [putAll_snoc, ih h.1, putEnt_none (fun hm => h.2.2 _ hm _ (by simp) rfl)]
theorem insAll_putAll {α : Type} (ps : EntsOfT α) : insAll [] (putAll ps) = insAll [] ps :=
  rising_ents (insAll_rising _ (by simp [Rising])) (insAll_rising _ (by simp [Rising])) (fun q => by rw [lookK_insAll, lookK_insAll, putAll_self (putAll_nodup ps)])
theorem putEnt_map {α β : Type} (f : α → β) (k : ByteArray) (v : α) (es : EntsOfT α) : (putEnt k v es).map (fun p => (p.1, f p.2)) = putEnt k (f v) (es.map fun p => (p.1, f p.2)) := by
  induction es with
  | nil => rfl
  | cons e es ih => by_cases h : k = e.1 <;> simp [putEnt, h, ih]
theorem putAll_map {α β : Type} (f : α → β) (ps : EntsOfT α) : (putAll ps).map (fun p => (p.1, f p.2)) = putAll (ps.map fun p => (p.1, f p.2)) := by
  induction ps using snoc_ind with
  | h0 => rfl
  | h1 l a ih => rw [putAll_snoc, putEnt_map, ih, List.map_append, List.map_singleton, putAll_snoc]
theorem insAll_self {α : Type} {es : EntsOfT α} (h : Rising (es.map (·.1))) : insAll [] es = es :=
  rising_ents (insAll_rising _ (by simp [Rising])) h (fun q => by rw [lookK_insAll, putAll_self h.nodup])

mutual
def T.back : T → V
  | .null => .mk 0 0 0 ⟨#[]⟩ [] []
  | .bool b => .mk 1 (if b then 1 else 0) 0 ⟨#[]⟩ [] []
  | .int n => .mk 2 n 0 ⟨#[]⟩ [] []
  | .float f => .mk 3 0 f ⟨#[]⟩ [] []
  | .str s => .mk 4 0 0 s [] []
  | .list l => .mk 5 0 0 ⟨#[]⟩ [] (T.backL l)
  | .map keys l => .mk 6 0 0 ⟨#[]⟩ ((insAll [] (keys.zip (T.backL l))).map (·.1)) ((insAll [] (keys.zip (T.backL l))).map (·.2))
def T.backL : List T → List V
  | [] => []
  | t :: l => t.back :: T.backL l
end
theorem T.backL_eq (l : List T) : T.backL l = l.map T.back := by
  induction l with
  | nil => rfl
  | cons v l ih => simp [T.backL, ih]

theorem zip_map_snd {α β : Type} (f : α → β) (es : EntsOfT α) : (es.map (·.1)).zip ((es.map (·.2)).map f) = es.map fun p => (p.1, f p.2) := by
  induction es with
  | nil => rfl
  | cons e es ih => simp only [List.map_cons, List.zip_cons_cons, ih]
theorem zip_map_right {α β : Type} (f : α → β) : ∀ (ks : List ByteArray) (l : List α), (ks.zip l).map (fun p => (p.1, f p.2)) = ks.zip (l.map f)
  | [], _ => by simp
  | _ :: _, [] => by simp
  | k :: ks, a :: l => by simp [zip_map_right f ks l]

/-- taken apart, the plain form of a value is the clean value -/
theorem back_plain (v : V) : v.plain.back = v.clean := by
  induction v using V.ind with
  | h kind n f s keys l ih =>
  have hl : T.backL (V.plainL l) = V.cleanL l := by
    rw [T.backL_eq, V.plainL_eq, V.cleanL_eq, List.map_map]
    refine List.map_congr_left fun v hv => ?_
    obtain ⟨i, hi, rfl⟩ := List.getElem_of_mem hv
    exact ih i hi
  simp only [V.plain, V.clean]
  split
  · by_cases hn : n = 0 <;> simp [T.back, hn]
  split
  · rfl
  split
  · rfl
  split
  · rfl
  split
  · simp [T.back, hl]
  split
  · have e : ((putAll (keys.zip (V.plainL l))).map (·.1)).zip (T.backL ((putAll (keys.zip (V.plainL l))).map (·.2))) = putAll (keys.zip (V.cleanL l)) := by
      rw [T.backL_eq, zip_map_snd, putAll_map, zip_map_right, ← T.backL_eq, hl]
    simp only [T.back]
    rw [e, insAll_putAll]
  · rfl

theorem clean_clean (v : V) : v.clean.clean = v.clean := by
  induction v using V.ind with
  | h kind n f s keys l ih =>
  have hl : V.cleanL (V.cleanL l) = V.cleanL l := by
    rw [V.cleanL_eq, V.cleanL_eq, List.map_map]
    refine List.map_congr_left fun v hv => ?_
    obtain ⟨i, hi, rfl⟩ := List.getElem_of_mem hv
    exact ih i hi
  simp only [V.clean]
  split
  · by_cases hn : n = 0 <;> simp [V.clean, hn]
  split
  · simp [V.clean]
  split
  · simp [V.clean]
  split
  · simp [V.clean]
  split
  · simp [V.clean, hl]
  split
  · simp only [clean_6]
    have hm : ∀ p ∈ insAll [] (keys.zip (V.cleanL l)), p.2.clean = p.2 := by
      have key : ∀ (ps acc : EntsOfT V), (∀ p ∈ acc, p.2.clean = p.2) → (∀ p ∈ ps, p.2.clean = p.2) → ∀ p ∈ insAll acc ps, p.2.clean = p.2 := by
        intro ps
        induction ps with
        | nil => intro acc h _; exact h
        | cons q ps ih2 =>
          intro acc h1 h2
          refine ih2 (insK q.1 q.2 acc) (fun p hp => ?_) (fun p hp => h2 p (by simp [hp]))
          rcases insK_mem hp with rfl | hp
          · exact h2 q (by simp)
          · exact h1 p hp
      refine key _ _ (by simp) (fun p hp => ?_)
      have h2 := (List.of_mem_zip hp).2
      rw [V.cleanL_eq] at h2
      obtain ⟨v, hv, e⟩ := List.mem_map.1 h2
      obtain ⟨i, hi, rfl⟩ := List.getElem_of_mem hv
      rw [← e]
      exact ih i hi
    have e : ((insAll [] (keys.zip (V.cleanL l))).map (·.1)).zip (V.cleanL ((insAll [] (keys.zip (V.cleanL l))).map (·.2))) = insAll [] (keys.zip (V.cleanL l)) := by
      rw [V.cleanL_eq (List.map _ _), zip_map_snd]
      refine (List.map_congr_left fun p hp => ?_).trans (List.map_id _)
      rw [hm p hp]
      rfl
    rw [e, insAll_self (insAll_rising _ (by simp [Rising]))]
  · simp [V.clean]

end Go.Proofs.YtihapgangilncaaGreat
