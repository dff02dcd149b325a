/- The trees that the package takes for objects (values of type any), and value.Value over them. -/
import Derived.Test.YtihapgangilncaaGreatKCRep
namespace Go.Proofs.YtihapgangilncaaGreat
open Go.RowKit

inductive T where
  | null
  | bool (b : Bool)
  | int (n : Int)
  | float (f : Nat)
  | str (s : ByteArray)
  | list (l : List T)
  | map (keys : List ByteArray) (l : List T)

/-- the value x (of type any) is the tree t -/
inductive IsT (w : World) (X : List Nat) : Value → T → Prop where
  | null : IsT w X .nilIface .null
  | bool (b : Bool) : IsT w X (.iface 4 (.bool b)) (.bool b)
  | int {n : Int} (h : (Lit.int .i64 n).wf = true) : IsT w X (.iface 2 (.int .i64 n)) (.int n)
  | float {f : Nat} (h : (Lit.float .f64 f).wf = true) : IsT w X (.iface 43 (.float .f64 f)) (.float f)
  | str {s : ByteArray} (h : s.size ≤ 140737488351232) : IsT w X (.iface 9 (.string s)) (.str s)
  | list {b off c : Nat} {l : List T} (vals : Nat → Value) (hl : l.length ≤ c) (hb : l.length * 88 ≤ 140737488351232) (hx : 0 < l.length → b ∉ X)
    (hr : ∀ i, i < l.length → w.cell? ⟨b, off + i, none⟩ = some (vals i)) (hv : ∀ i (h : i < l.length), IsT w X (vals i) (l[i])) :
    IsT w X (.iface 213 (.slice (some ⟨b, off, none⟩) l.length c)) (.list l)
  | map {r : Nat} {keys : List ByteArray} {l : List T} (es : Ents) (vals : Nat → Value) (hm : IsMap w r es) (hx : r ∉ X) (hk : es.map (·.1) = keys) (hl : keys.length = l.length) (hb : l.length * 88 ≤ 140737488351232)
    (hs : ∀ k ∈ keys, k.size ≤ 140737488351232) (hr : ∀ i, i < l.length → (es[i]?).map (·.2) = some (vals i)) (hv : ∀ i (h : i < l.length), IsT w X (vals i) (l[i])) :
    IsT w X (.iface 214 (.map (some r))) (.map keys l)

theorem IsT.mv {a b : World} {X Y : List Nat} {x : Value} {t : T} (h : IsT a X x t) (hm : Mv a X b Y) : IsT b Y x t := by
  induction h with
  | null => exact .null
  | bool b => exact .bool b
  | int h => exact .int h
  | float h => exact .float h
  | str h => exact .str h
  | list vals hl hb hx hr hv ih => exact .list vals hl hb (fun hp => (hm.cell (hx hp) (hr 0 hp)).2) (fun i hi => (hm.cell (hx (by omega)) (hr i hi)).1) ih
  | map es vals hm' hx hk hl hb hs hr hv ih => exact .map es vals (hm'.mv hm hx) (hm.block _ hm'.lt hx).2 hk hl hb hs hr ih

theorem IsT.one {w : World} {X : List Nat} {x : Value} {t : T} (h : IsT w X x t) : x.oneCell' = true := by cases h <;> rfl

theorem T.ind {motive : T → Prop} (null : motive .null) (bool : ∀ b, motive (.bool b)) (int : ∀ n, motive (.int n)) (float : ∀ f, motive (.float f)) (str : ∀ s, motive (.str s))
    (list : ∀ l : List T, (∀ i (h : i < l.length), motive (l[i])) → motive (.list l)) (map : ∀ keys (l : List T), (∀ i (h : i < l.length), motive (l[i])) → motive (.map keys l)) (t : T) : motive t :=
  T.rec (motive_1 := motive) (motive_2 := fun l => ∀ i (h : i < l.length), motive (l[i])) null bool int float str (fun l ih => list l ih) (fun keys l ih => map keys l ih)
    (fun i hi => by simp at hi)
    (fun v l hv hl i hi => by
      cases i with
      | zero => exact hv
      | succ i => exact hl i (by simpa using hi)) t

/-- v is a slice of type []any with the trees l -/
structure IsTs (w : World) (X : List Nat) (v : Value) (l : List T) : Prop where
  ex : ∃ b off c, v = .slice (some ⟨b, off, none⟩) l.length c ∧ l.length ≤ c ∧ l.length * 88 ≤ 140737488351232 ∧ (0 < l.length → b ∉ X) ∧
    ∀ i (h : i < l.length), ∃ x, w.cell? ⟨b, off + i, none⟩ = some x ∧ IsT w X x (l[i])

theorem IsT.inv_list {w : World} {X : List Nat} {x : Value} {l : List T} (h : IsT w X x (.list l)) : ∃ v, x = .iface 213 v ∧ IsTs w X v l := by
  cases h with
  | @list b off c _ vals hl hb hx hr hv => exact ⟨_, rfl, ⟨b, off, c, rfl, hl, hb, hx, fun i hi => ⟨_, hr i hi, hv i hi⟩⟩⟩
theorem IsTs.mk_list {w : World} {X : List Nat} {v : Value} {l : List T} (h : IsTs w X v l) : IsT w X (.iface 213 v) (.list l) := by
  obtain ⟨b, off, c, rfl, h2, h3, h4, h5⟩ := h.ex
  have hch : ∀ i, ∃ x, ∀ h : i < l.length, w.cell? ⟨b, off + i, none⟩ = some x ∧ IsT w X x (l[i]) := fun i => by
    by_cases hi : i < l.length
    · obtain ⟨x, hx⟩ := h5 i hi; exact ⟨x, fun _ => hx⟩
    · exact ⟨undef, fun h => absurd h hi⟩
  exact .list (fun i => Classical.choose (hch i)) h2 h3 h4 (fun i hi => (Classical.choose_spec (hch i) hi).1) (fun i hi => (Classical.choose_spec (hch i) hi).2)
theorem IsTs.mv {a b : World} {X Y : List Nat} {v : Value} {l : List T} (h : IsTs a X v l) (hm : Mv a X b Y) : IsTs b Y v l := by
  obtain ⟨v', e, h'⟩ := (h.mk_list.mv hm).inv_list
  cases e
  exact h'

theorem IsTs.of_own {w : World} {X : List Nat} {g cap n : Nat} {xs : List Value} {ts : List T} (h : Own w 20 1 (.slice (some ⟨g, 0, none⟩) n cap) n xs) (hx : All2 (IsT w (g :: X)) xs ts) (hg : g ∉ X)
    (hn : n ≤ cap) (hb : ts.length * 88 ≤ 140737488351232) : IsTs w X (.slice (some ⟨g, 0, none⟩) n cap) ts := by
  have h1 := hx.length
  have h2 := h.1
  have hnt : n = ts.length := by omega
  subst hnt
  exact ⟨g, 0, cap, rfl, hn, hb, fun _ => hg, fun i hi => ⟨xs[i]'(by omega), h.cell i (by omega), (hx.get i (by omega) hi).mv ((Mv.refl _ _).less (fun _ h => List.mem_cons_of_mem _ h))⟩⟩

/-- a map's entries read as trees -/
inductive EntsT (w : World) (X : List Nat) : Ents → EntsOfT T → Prop where
  | nil : EntsT w X [] []
  | cons {k : ByteArray} {x : Value} {t : T} {es : Ents} {ts : EntsOfT T} (h : IsT w X x t) (hs : EntsT w X es ts) : EntsT w X ((k, x) :: es) ((k, t) :: ts)

theorem EntsT.mv {a b : World} {X Y : List Nat} {es : Ents} {ts : EntsOfT T} (h : EntsT a X es ts) (hm : Mv a X b Y) : EntsT b Y es ts := by
  induction h with
  | nil => exact .nil
  | cons h _ ih => exact .cons (h.mv hm) ih
theorem EntsT.put {w : World} {X : List Nat} {es : Ents} {ts : EntsOfT T} (h : EntsT w X es ts) {k : ByteArray} {x : Value} {t : T} (hx : IsT w X x t) : EntsT w X (putEnt k x es) (putEnt k t ts) := by
  induction h with
  | nil => exact .cons hx .nil
  | cons h hs ih =>
    simp only [putEnt]
    split
    · exact .cons hx hs
    · exact .cons h ih
theorem EntsT.length {w : World} {X : List Nat} {es : Ents} {ts : EntsOfT T} (h : EntsT w X es ts) : es.length = ts.length := by
  induction h with
  | nil => rfl
  | cons h hs ih => simp [ih]
theorem EntsT.keys {w : World} {X : List Nat} {es : Ents} {ts : EntsOfT T} (h : EntsT w X es ts) : es.map (·.1) = ts.map (·.1) := by
  induction h with
  | nil => rfl
  | cons h hs ih => simp [ih]
theorem EntsT.get {w : World} {X : List Nat} {es : Ents} {ts : EntsOfT T} (h : EntsT w X es ts) : ∀ i (hi : i < es.length) (hi' : i < ts.length), (es[i]).1 = (ts[i]).1 ∧ IsT w X (es[i]).2 (ts[i]).2 := by
  induction h with
  | nil => intro i hi; simp at hi
  | cons h hs ih =>
    intro i hi hi'
    cases i with
    | zero => exact ⟨rfl, h⟩
    | succ i => exact ih i (by simpa using hi) (by simpa using hi')
theorem EntsT.find {w : World} {X : List Nat} {es : Ents} {ts : EntsOfT T} (h : EntsT w X es ts) (k : ByteArray) :
    (getEnt k es = none ∧ getEnt k ts = none) ∨ ∃ x t, getEnt k es = some x ∧ getEnt k ts = some t ∧ IsT w X x t := by
  have key : ∀ n, (findEnt k es n = none ∧ findEnt k ts n = none) ∨ ∃ j x t, findEnt k es n = some (j, x) ∧ findEnt k ts n = some (j, t) ∧ IsT w X x t := by
    induction h with
    | nil => intro n; exact .inl ⟨rfl, rfl⟩
    | cons h hs ih =>
      intro n
      simp only [findEnt]
      split
      · exact .inr ⟨_, _, _, rfl, rfl, h⟩
      · exact ih (n + 1)
  rcases key 0 with ⟨h1, h2⟩ | ⟨j, x, t, h1, h2, h3⟩
  · exact .inl ⟨by simp [getEnt, h1], by simp [getEnt, h2]⟩
  · exact .inr ⟨x, t, by simp [getEnt, h1], by simp [getEnt, h2], h3⟩

/-- block r is a map of type map[string]any with the trees ts -/
structure IsTm (w : World) (X : List Nat) (r : Nat) (ts : EntsOfT T) : Prop where
  ex : ∃ es, IsMap w r es ∧ EntsT w X es ts
  notin : r ∉ X
  bound : ts.length * 88 ≤ 140737488351232
  keys : ∀ p ∈ ts, p.1.size ≤ 140737488351232

theorem IsTm.mv {a b : World} {X Y : List Nat} {r : Nat} {ts : EntsOfT T} (h : IsTm a X r ts) (hm : Mv a X b Y) : IsTm b Y r ts := by
  obtain ⟨⟨es, h1, h2⟩, h3, h4, h5⟩ := h
  exact ⟨⟨es, h1.mv hm h3, h2.mv hm⟩, (hm.block _ h1.lt h3).2, h4, h5⟩
theorem IsTm.nodup {w : World} {X : List Nat} {r : Nat} {ts : EntsOfT T} (h : IsTm w X r ts) : (ts.map (·.1)).Nodup := by
  obtain ⟨es, ⟨mes, clock, _, he⟩, h2⟩ := h.ex
  rw [← h2.keys]
  exact he.keys
theorem IsTm.lt {w : World} {X : List Nat} {r : Nat} {ts : EntsOfT T} (h : IsTm w X r ts) : r < w.heap.size := by
  obtain ⟨es, h1, _⟩ := h.ex
  exact h1.lt

theorem IsTm.mk_map {w : World} {X : List Nat} {r : Nat} {ts : EntsOfT T} (h : IsTm w X r ts) : IsT w X (.iface 214 (.map (some r))) (.map (ts.map (·.1)) (ts.map (·.2))) := by
  obtain ⟨⟨es, h1, h2⟩, h3, h4, h5⟩ := h
  have hlen := h2.length
  refine .map es (fun i => ((es[i]?).map (·.2)).getD undef) h1 h3 h2.keys (by simp) (by simpa using h4) ?_ ?_ ?_
  · intro k hk
    obtain ⟨p, hp, rfl⟩ := List.mem_map.1 hk
    exact h5 p hp
  · intro i hi
    have hi' : i < es.length := by simpa [hlen] using hi
    simp [hi']
  · intro i hi
    have hi' : i < ts.length := by simpa using hi
    have := (h2.get i (by omega) hi').2
    simpa [hlen, hi'] using this

theorem IsT.inv_map {w : World} {X : List Nat} {x : Value} {keys : List ByteArray} {l : List T} (h : IsT w X x (.map keys l)) :
    ∃ r, x = .iface 214 (.map (some r)) ∧ IsTm w X r (keys.zip l) ∧ keys.length = l.length := by
  cases h with
  | @map r _ _ es vals hm hx hk hl hb hs hr hv =>
    refine ⟨r, rfl, ⟨⟨es, hm, ?_⟩, hx, by simp [hl]; omega, ?_⟩, hl⟩
    · have key : ∀ (es : Ents) (keys : List ByteArray) (l : List T) (vals : Nat → Value), es.map (·.1) = keys → keys.length = l.length → (∀ i, i < l.length → (es[i]?).map (·.2) = some (vals i)) → (∀ i (h : i < l.length), IsT w X (vals i) (l[i])) → EntsT w X es (keys.zip l) := by
        intro es
        induction es with
        | nil => intro keys l vals hk hl hr hv; simp only [List.map_nil] at hk; subst hk; exact .nil
        | cons e es ih =>
          intro keys l vals hk hl hr hv
          subst hk
          cases l with
          | nil => simp at hl
          | cons t l =>
            obtain ⟨k, x⟩ := e
            have h0 := hr 0 (by simp)
            simp only [List.getElem?_cons_zero, Option.map_some, Option.some.injEq] at h0
            have h1 := hv 0 (by simp)
            rw [← h0] at h1
            exact .cons h1 (ih _ l (fun i => vals (i + 1)) rfl (by simpa using hl) (fun i hi => by simpa using hr (i + 1) (by simpa using hi)) (fun i hi => hv (i + 1) (by simpa using hi)))
      exact key es keys l vals hk hl hr hv
    · intro p hp
      exact hs _ (List.of_mem_zip hp).1

/-- v (of type value.Value) is an unstructured value over the tree t -/
structure IsVal (w : World) (X : List Nat) (v : Value) (t : T) : Prop where
  ex : ∃ b x, v = .iface 261 (.pointer (some ⟨b, 0, none⟩)) ∧ w.heap[b]? = some (.cells #[x] 292 (0, 0)) ∧ b ∉ X ∧ IsT w X x t

theorem IsVal.mv {a b : World} {X Y : List Nat} {v : Value} {t : T} (h : IsVal a X v t) (hm : Mv a X b Y) : IsVal b Y v t := by
  obtain ⟨p, x, h1, h2, h3, h4⟩ := h.ex
  have := hm.block p (Array.getElem?_eq_some_iff.1 h2).1 h3
  exact ⟨p, x, h1, this.1.trans h2, this.2, h4.mv hm⟩

end Go.Proofs.YtihapgangilncaaGreat
