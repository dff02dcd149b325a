/- Plain law: two trees made of values are equal just if the plain forms of the values are. -/
import Derived.Test.YtihapgangilncaaGreatKGEqV
import Derived.Test.YtihapgangilncaaGreatKGBack
import Derived.Test.YtihapgangilncaaGreatKGOrderly
namespace Go.Proofs.YtihapgangilncaaGreat
open Go.RowKit

theorem lookK_at {α : Type} {k : ByteArray} {v : α} : ∀ {es : EntsOfT α}, (es.map (·.1)).Nodup → (k, v) ∈ es → lookK k es = some v
  | e :: es, hn, h => by
    simp only [List.map_cons, List.nodup_cons] at hn
    simp only [lookK]
    rcases List.mem_cons.1 h with rfl | h
    · rw [if_pos rfl]
    · rw [if_neg (fun he : k = e.1 => hn.1 (he ▸ List.mem_map.2 ⟨_, h, rfl⟩))]
      exact lookK_at hn.2 h
theorem sort_keys {α : Type} (P : EntsOfT α) (q : ByteArray) : q ∈ (insAll [] P).map (·.1) ↔ q ∈ (putAll P).map (·.1) := by
  have h := lookK_insAll q P
  constructor
  · intro hm
    refine Classical.byContradiction fun hn => ?_
    rw [lookK_none.2 hn] at h
    exact lookK_none.1 h hm
  · intro hm
    refine Classical.byContradiction fun hn => ?_
    rw [lookK_none.2 hn] at h
    exact lookK_none.1 h.symm hm

/-- two maps (each key once): as many keys, and under each key of the second one the first one has a value that r relates, just if the sorted lists are related place by place -/
theorem maps_eq {α : Type} {P Q : EntsOfT α} (hP : (P.map (·.1)).Nodup) (hQ : (Q.map (·.1)).Nodup) (r : α → α → Bool) :
    (P.length = Q.length ∧ ∀ p ∈ Q, ∃ x, lookK p.1 P = some x ∧ r x p.2 = true) ↔
      ((insAll [] P).map (·.1) = (insAll [] Q).map (·.1) ∧ ∀ i (h : i < (insAll [] P).length) (h2 : i < (insAll [] Q).length), r ((insAll [] P)[i]).2 ((insAll [] Q)[i]).2 = true) := by
  have rP : Rising ((insAll [] P).map (·.1)) := insAll_rising P trivial
  have rQ : Rising ((insAll [] Q).map (·.1)) := insAll_rising Q trivial
  have sP := putAll_self hP
  have sQ := putAll_self hQ
  have kP : ∀ q, q ∈ (insAll [] P).map (·.1) ↔ q ∈ P.map (·.1) := fun q => by rw [sort_keys, sP]
  have kQ : ∀ q, q ∈ (insAll [] Q).map (·.1) ↔ q ∈ Q.map (·.1) := fun q => by rw [sort_keys, sQ]
  have lP : ∀ q, lookK q (insAll [] P) = lookK q P := fun q => by rw [lookK_insAll, sP]
  have lQ : ∀ q, lookK q (insAll [] Q) = lookK q Q := fun q => by rw [lookK_insAll, sQ]
  have nP : (insAll [] P).length = P.length := by
    have h1 := nodup_le rP.nodup (fun k hk => (kP k).1 hk)
    have h2 := nodup_le hP (fun k hk => (kP k).2 hk)
    simp only [List.length_map] at h1 h2
    omega
  have nQ : (insAll [] Q).length = Q.length := by
    have h1 := nodup_le rQ.nodup (fun k hk => (kQ k).1 hk)
    have h2 := nodup_le hQ (fun k hk => (kQ k).2 hk)
    simp only [List.length_map] at h1 h2
    omega
  constructor
  · rintro ⟨hl, h⟩
    have hkeys : (insAll [] P).map (·.1) = (insAll [] Q).map (·.1) := by
      refine rising_ext rP rQ fun k => ?_
      rw [kP, kQ]
      have hsub : ∀ k ∈ Q.map (·.1), k ∈ P.map (·.1) := fun k hk => by
        obtain ⟨p, hp, rfl⟩ := List.mem_map.1 hk
        obtain ⟨x, hx, -⟩ := h p hp
        exact List.mem_map.2 ⟨_, lookK_mem hx, rfl⟩
      exact ⟨fun hk => nodup_full hQ hsub (by simp; omega) k hk, hsub k⟩
    refine ⟨hkeys, fun i h1 h2 => ?_⟩
    have hmq : (insAll [] Q)[i] ∈ insAll [] Q := List.getElem_mem h2
    have hmp : (insAll [] P)[i] ∈ insAll [] P := List.getElem_mem h1
    have hkq : lookK ((insAll [] Q)[i]).1 (insAll [] Q) = some ((insAll [] Q)[i]).2 := lookK_at rQ.nodup hmq
    have hkp : lookK ((insAll [] P)[i]).1 (insAll [] P) = some ((insAll [] P)[i]).2 := lookK_at rP.nodup hmp
    rw [lQ] at hkq
    rw [lP] at hkp
    have hk : ((insAll [] P)[i]).1 = ((insAll [] Q)[i]).1 := by
      have := congrArg (fun l => l[i]?) hkeys
      simpa [h1, h2] using this
    obtain ⟨x, hx, hr⟩ := h _ (lookK_mem hkq)
    rw [hk] at hkp
    simp only at hx
    rw [hkp] at hx
    cases hx
    exact hr
  · rintro ⟨hkeys, h⟩
    refine ⟨by have := congrArg List.length hkeys; simp at this; omega, fun p hp => ?_⟩
    have hlq := lookK_at hQ hp
    rw [← lQ] at hlq
    obtain ⟨i, hi, e⟩ := List.getElem_of_mem (lookK_mem hlq)
    have hi' : i < (insAll [] P).length := by have := congrArg List.length hkeys; simp at this; omega
    have hk : ((insAll [] P)[i]).1 = ((insAll [] Q)[i]).1 := by
      have := congrArg (fun l => l[i]?) hkeys
      simpa [hi, hi'] using this
    have hkp : lookK ((insAll [] P)[i]).1 (insAll [] P) = some ((insAll [] P)[i]).2 := lookK_at rP.nodup (List.getElem_mem hi')
    rw [lP, hk, e] at hkp
    have hr := h i hi' hi
    rw [e] at hr
    exact ⟨_, hkp, hr⟩

inductive T.Wf : T → Prop where
  | null : T.Wf .null
  | bool (b : Bool) : T.Wf (.bool b)
  | int (n : Int) : T.Wf (.int n)
  | float (n : Nat) : T.Wf (.float n)
  | str (n : ByteArray) : T.Wf (.str n)
  | list {l : List T} (h : ∀ i (h : i < l.length), T.Wf l[i]) : T.Wf (.list l)
  | map {keys : List ByteArray} {l : List T} (hn : keys.Nodup) (hl : keys.length = l.length) (h : ∀ i (h : i < l.length), T.Wf l[i]) : T.Wf (.map keys l)

theorem insK_map {α β : Type} (f : α → β) (k : ByteArray) (v : α) : ∀ es : EntsOfT α, (insK k v es).map (fun p => (p.1, f p.2)) = insK k (f v) (es.map fun p => (p.1, f p.2))
  | [] => rfl
  | e :: es => by
    simp only [insK, List.map_cons]
    split
    · rw [List.map_cons, insK_map f k v es]
    · split <;> simp
theorem insAll_map {α β : Type} (f : α → β) (ps : EntsOfT α) : (insAll [] ps).map (fun p => (p.1, f p.2)) = insAll [] (ps.map fun p => (p.1, f p.2)) := by
  induction ps using snoc_ind with
  | h0 => rfl
  | h1 ps p ih => rw [insAll_snoc, insK_map, ih, List.map_append, List.map_cons, List.map_nil, insAll_snoc]

theorem eqP_map (ks ks2 : List ByteArray) (l l2 : List V) : V.eqP (.mk 6 0 0 ⟨#[]⟩ ks l) (.mk 6 0 0 ⟨#[]⟩ ks2 l2) = (decide (ks = ks2) && (decide (l.length = l2.length) && V.eqPL l l2)) := by
  rw [eqP_else (by decide)]; simp
theorem eqP_list (l l2 : List V) : V.eqP (.mk 5 0 0 ⟨#[]⟩ [] l) (.mk 5 0 0 ⟨#[]⟩ [] l2) = (decide (l.length = l2.length) && V.eqPL l l2) := by
  rw [eqP_else (by decide)]; simp

theorem eqT_back : ∀ {s t : T}, s.Wf → t.Wf → eqT s t = V.eqP s.back t.back := by
  intro s
  induction s using T.ind with
  | list m ih =>
    intro t hs ht
    cases hs with
    | list hs =>
    cases ht with
    | @list l ht =>
      simp only [eqT, T.back, T.backL_eq]
      rw [eqP_list, List.length_map, List.length_map]
      by_cases hl : m.length = l.length
      · rw [decide_eq_true hl, Bool.true_and, Bool.true_and]
        rw [Bool.eq_iff_iff, eqTs_iff hl, eqPL_iff (by simpa using hl)]
        simp only [List.length_map, List.getElem_map]
        exact ⟨fun h i h1 h2 => (ih i h1 (hs i h1) (ht i h2)) ▸ h i h1 h2, fun h i h1 h2 => (ih i h1 (hs i h1) (ht i h2)).symm ▸ h i h1 h2⟩
      · simp [hl]
    | map hn hl h => simp only [eqT, T.back]; rw [eqP_else (by decide)]; rfl
    | _ => simp only [eqT, T.back]; rw [eqP_else (by decide)]; simp [T.isNull]
  | map js m ih =>
    intro t hs ht
    cases hs with
    | map hn1 hl1 hs =>
    cases ht with
    | @map ks l hn2 hl2 ht =>
      have k1 : (js.zip m).map (·.1) = js := by rw [List.map_fst_zip (by omega)]
      have k2 : (ks.zip l).map (·.1) = ks := by rw [List.map_fst_zip (by omega)]
      have hr : ∀ x y, (∃ k, (k, x) ∈ js.zip m) → (∃ k, (k, y) ∈ ks.zip l) → eqT x y = V.eqP x.back y.back := fun x y ⟨k, hx⟩ ⟨j, hy⟩ => by
        obtain ⟨i, hi, rfl⟩ := List.getElem_of_mem (List.of_mem_zip hx).2
        obtain ⟨q, hq, rfl⟩ := List.getElem_of_mem (List.of_mem_zip hy).2
        exact ih i hi (hs i hi) (ht q hq)
      have main := maps_eq (P := js.zip m) (Q := ks.zip l) (by rw [k1]; exact hn1) (by rw [k2]; exact hn2) (fun x y => V.eqP x.back y.back)
      have e1 : js.zip (T.backL m) = (js.zip m).map fun p => (p.1, p.2.back) := by rw [T.backL_eq, zip_map_right]
      have e2 : ks.zip (T.backL l) = (ks.zip l).map fun p => (p.1, p.2.back) := by rw [T.backL_eq, zip_map_right]
      simp only [eqT, T.back]
      rw [eqP_map, e1, e2, ← insAll_map, ← insAll_map, Bool.eq_iff_iff]
      simp only [List.map_map, Function.comp_def, Bool.and_eq_true, decide_eq_true_eq, List.length_map]
      constructor
      · rintro ⟨hlen, hall⟩
        obtain ⟨hk, hp⟩ := main.1 ⟨hlen, fun p hp => by
          obtain ⟨i, hi, rfl⟩ := List.getElem_of_mem hp
          have := eqTm_iff.1 hall i hi
          simp only [inMap, getEnt_lookK] at this
          cases hx : lookK ((ks.zip l)[i]).1 (js.zip m) with
          | none => rw [hx] at this; cases this
          | some x =>
            rw [hx] at this
            exact ⟨x, rfl, (hr x ((ks.zip l)[i]).2 ⟨_, lookK_mem hx⟩ ⟨((ks.zip l)[i]).1, hp⟩).symm.trans this⟩⟩
        have hlen2 := congrArg List.length hk
        simp only [List.length_map] at hlen2
        refine ⟨hk, hlen2, (eqPL_iff (by simpa using hlen2)).2 fun i h1 h2 => ?_⟩
        simp only [List.getElem_map, List.length_map] at h1 h2 ⊢
        exact hp i h1 h2
      · rintro ⟨hk, hlen2, hall⟩
        obtain ⟨hlen, hp⟩ := main.2 ⟨hk, fun i h1 h2 => by
          have := (eqPL_iff (by simpa using hlen2)).1 hall i (by simpa using h1) (by simpa using h2)
          simpa using this⟩
        refine ⟨hlen, eqTm_iff.2 fun i hi => ?_⟩
        obtain ⟨x, hx, h⟩ := hp _ (List.getElem_mem hi)
        simp only [inMap, getEnt_lookK, hx]
        exact (hr x ((ks.zip l)[i]).2 ⟨_, lookK_mem hx⟩ ⟨((ks.zip l)[i]).1, List.getElem_mem hi⟩).trans h
    | list h => simp only [eqT, T.back]; rw [eqP_else (by decide)]; rfl
    | _ => simp only [eqT, T.back]; rw [eqP_else (by decide)]; simp [T.isNull]
  | null => intro t hs ht; cases ht <;> simp only [eqT, T.back] <;> rw [eqP_else (by decide)] <;> simp [T.isNull, V.eqPL]
  | bool b =>
    intro t hs ht
    cases ht with
    | bool c => simp only [eqT, T.back]; rw [eqP_else (by decide)]; cases b <;> cases c <;> simp [V.eqPL]
    | _ => simp only [eqT, T.back]; rw [eqP_else (by decide)]; simp [T.isNull]
  | str b => intro t hs ht; cases ht <;> simp only [eqT, T.back] <;> rw [eqP_else (by decide)] <;> simp [T.isNull, V.eqPL]
  | int b => intro t hs ht; cases ht <;> simp only [eqT, T.back] <;> first | (rw [eqP_num (by decide)]; simp [asF, toF]; done) | (rw [eqP_else (by decide)]; simp [T.isNull]; done)
  | float b => intro t hs ht; cases ht <;> simp only [eqT, T.back] <;> first | (rw [eqP_num (by decide)]; simp [asF, toF]; done) | (rw [eqP_else (by decide)]; simp [T.isNull]; done)

theorem putEnt_mem {α : Type} {k : ByteArray} {v : α} {p : ByteArray × α} : ∀ {es : EntsOfT α}, p ∈ putEnt k v es → p = (k, v) ∨ p ∈ es
  | [], h => by simpa [putEnt] using h
  | e :: es, h => by
    simp only [putEnt] at h
    split at h
    · rcases List.mem_cons.1 h with h | h
      · exact .inl h
      · exact .inr (List.mem_cons_of_mem _ h)
    · rcases List.mem_cons.1 h with h | h
      · exact .inr (h ▸ List.mem_cons_self ..)
      · rcases putEnt_mem h with h | h
        · exact .inl h
        · exact .inr (List.mem_cons_of_mem _ h)
theorem putAll_sub {α : Type} {ps : EntsOfT α} {p : ByteArray × α} (h : p ∈ putAll ps) : p ∈ ps := by
  induction ps using snoc_ind with
  | h0 => simp [putAll] at h
  | h1 ps q ih =>
    rw [putAll_snoc] at h
    rcases putEnt_mem h with rfl | h
    · simp
    · exact List.mem_append_left _ (ih h)
theorem insAll_sub {α : Type} {ps : EntsOfT α} {p : ByteArray × α} (h : p ∈ insAll [] ps) : p ∈ ps := by
  induction ps using snoc_ind with
  | h0 => simp [insAll] at h
  | h1 ps q ih =>
    rw [insAll_snoc] at h
    rcases insK_mem h with rfl | h
    · simp
    · exact List.mem_append_left _ (ih h)

theorem plain_wf (v : V) : v.plain.Wf := by
  induction v using V.ind with
  | h kind n f s keys l ih =>
  have hl : ∀ x ∈ V.plainL l, x.Wf := fun x hx => by
    rw [V.plainL_eq] at hx
    obtain ⟨y, hy, rfl⟩ := List.mem_map.1 hx
    obtain ⟨i, hi, rfl⟩ := List.getElem_of_mem hy
    exact ih i hi
  simp only [V.plain]
  repeat' split
  · exact .bool _
  · exact .int _
  · exact .float _
  · exact .str _
  · exact .list fun i hi => hl _ (List.getElem_mem hi)
  · refine .map (putAll_nodup _) (by simp) fun i hi => ?_
    have : ((putAll (keys.zip (V.plainL l))).map (·.2))[i] ∈ (putAll (keys.zip (V.plainL l))).map (·.2) := List.getElem_mem hi
    obtain ⟨p, hp, e⟩ := List.mem_map.1 this
    rw [← e]
    exact hl _ (List.of_mem_zip (putAll_sub hp)).2
  · exact .null

theorem eqT_plain (a b : V) : eqT a.plain b.plain = V.eqP a.clean b.clean := by
  rw [eqT_back (plain_wf a) (plain_wf b), back_plain, back_plain]

end Go.Proofs.YtihapgangilncaaGreat
