/- The trees that the package takes for objects (values of type any), and value.Value over them. impl.plain and impl.plainMap make the tree of a value. -/
import Derived.Test.YtihapgangilncaaGreatKGRep
namespace Go.Proofs.YtihapgangilncaaGreat
open Go.RowKit

inductive T where
  | null
  | bool (b : Bool)
  | int (n : Int)
  | float (f : Nat)
  | str (s : ByteArray)
  | list (l : List T)
  | map (keys : List ByteArray) (l : List T)

/-- the value x (of type any) is the tree t -/
inductive IsT (w : World) (X : List Nat) : Value → T → Prop where
  | null : IsT w X .nilIface .null
  | bool (b : Bool) : IsT w X (.iface 4 (.bool b)) (.bool b)
  | int {n : Int} (h : (Lit.int .i64 n).wf = true) : IsT w X (.iface 2 (.int .i64 n)) (.int n)
  | float {f : Nat} (h : (Lit.float .f64 f).wf = true) : IsT w X (.iface 43 (.float .f64 f)) (.float f)
  | str {s : ByteArray} (h : s.size ≤ 140737488351232) : IsT w X (.iface 9 (.string s)) (.str s)
  | list {b off c : Nat} {l : List T} (vals : Nat → Value) (hl : l.length ≤ c) (hb : l.length * 88 ≤ 140737488351232) (hx : 0 < l.length → b ∉ X)
    (hr : ∀ i, i < l.length → w.cell? ⟨b, off + i, none⟩ = some (vals i)) (hv : ∀ i (h : i < l.length), IsT w X (vals i) (l[i])) :
    IsT w X (.iface 213 (.slice (some ⟨b, off, none⟩) l.length c)) (.list l)
  | map {r : Nat} {keys : List ByteArray} {l : List T} (es : Ents) (vals : Nat → Value) (hm : IsMap w r es) (hx : r ∉ X) (hk : es.map (·.1) = keys) (hl : keys.length = l.length) (hb : l.length * 88 ≤ 140737488351232)
    (hs : ∀ k ∈ keys, k.size ≤ 140737488351232) (hr : ∀ i, i < l.length → (es[i]?).map (·.2) = some (vals i)) (hv : ∀ i (h : i < l.length), IsT w X (vals i) (l[i])) :
    IsT w X (.iface 214 (.map (some r))) (.map keys l)

theorem IsT.mv {a b : World} {X Y : List Nat} {x : Value} {t : T} (h : IsT a X x t) (hm : Mv a X b Y) : IsT b Y x t := by
  induction h with
  | null => exact .null
  | bool b => exact .bool b
  | int h => exact .int h
  | float h => exact .float h
  | str h => exact .str h
  | list vals hl hb hx hr hv ih => exact .list vals hl hb (fun hp => (hm.cell (hx hp) (hr 0 hp)).2) (fun i hi => (hm.cell (hx (by omega)) (hr i hi)).1) ih
  | map es vals hm' hx hk hl hb hs hr hv ih => exact .map es vals (hm'.mv hm hx) (hm.block _ hm'.lt hx).2 hk hl hb hs hr ih

theorem IsT.one {w : World} {X : List Nat} {x : Value} {t : T} (h : IsT w X x t) : x.oneCell' = true := by cases h <;> rfl

theorem T.ind {motive : T → Prop} (null : motive .null) (bool : ∀ b, motive (.bool b)) (int : ∀ n, motive (.int n)) (float : ∀ f, motive (.float f)) (str : ∀ s, motive (.str s))
    (list : ∀ l : List T, (∀ i (h : i < l.length), motive (l[i])) → motive (.list l)) (map : ∀ keys (l : List T), (∀ i (h : i < l.length), motive (l[i])) → motive (.map keys l)) (t : T) : motive t :=
  T.rec (motive_1 := motive) (motive_2 := fun l => ∀ i (h : i < l.length), motive (l[i])) null bool int float str (fun l ih => list l ih) (fun keys l ih => map keys l ih)
    (fun i hi => by simp at hi)
    (fun v l hv hl i hi => by
      cases i with
      | zero => exact hv
      | succ i => exact hl i (by simpa using hi)) t

/-- v is a slice of type []any with the trees l -/
structure IsTs (w : World) (X : List Nat) (v : Value) (l : List T) : Prop where
  ex : ∃ b off c, v = .slice (some ⟨b, off, none⟩) l.length c ∧ l.length ≤ c ∧ l.length * 88 ≤ 140737488351232 ∧ (0 < l.length → b ∉ X) ∧
    ∀ i (h : i < l.length), ∃ x, w.cell? ⟨b, off + i, none⟩ = some x ∧ IsT w X x (l[i])

theorem IsT.inv_list {w : World} {X : List Nat} {x : Value} {l : List T} (h : IsT w X x (.list l)) : ∃ v, x = .iface 213 v ∧ IsTs w X v l := by
  cases h with
  | @list b off c _ vals hl hb hx hr hv => exact ⟨_, rfl, ⟨b, off, c, rfl, hl, hb, hx, fun i hi => ⟨_, hr i hi, hv i hi⟩⟩⟩
theorem IsTs.mk_list {w : World} {X : List Nat} {v : Value} {l : List T} (h : IsTs w X v l) : IsT w X (.iface 213 v) (.list l) := by
  obtain ⟨b, off, c, rfl, h2, h3, h4, h5⟩ := h.ex
  have hch : ∀ i, ∃ x, ∀ h : i < l.length, w.cell? ⟨b, off + i, none⟩ = some x ∧ IsT w X x (l[i]) := fun i => by
    by_cases hi : i < l.length
    · obtain ⟨x, hx⟩ := h5 i hi; exact ⟨x, fun _ => hx⟩
    · exact ⟨undef, fun h => absurd h hi⟩
  exact .list (fun i => Classical.choose (hch i)) h2 h3 h4 (fun i hi => (Classical.choose_spec (hch i) hi).1) (fun i hi => (Classical.choose_spec (hch i) hi).2)
theorem IsTs.mv {a b : World} {X Y : List Nat} {v : Value} {l : List T} (h : IsTs a X v l) (hm : Mv a X b Y) : IsTs b Y v l := by
  obtain ⟨v', e, h'⟩ := (h.mk_list.mv hm).inv_list
  cases e
  exact h'

theorem IsTs.of_own {w : World} {X : List Nat} {g cap n : Nat} {xs : List Value} {ts : List T} (h : Own w 20 1 (.slice (some ⟨g, 0, none⟩) n cap) n xs) (hx : All2 (IsT w (g :: X)) xs ts) (hg : g ∉ X)
    (hn : n ≤ cap) (hb : ts.length * 88 ≤ 140737488351232) : IsTs w X (.slice (some ⟨g, 0, none⟩) n cap) ts := by
  have h1 := hx.length
  have h2 := h.1
  have hnt : n = ts.length := by omega
  subst hnt
  exact ⟨g, 0, cap, rfl, hn, hb, fun _ => hg, fun i hi => ⟨xs[i]'(by omega), h.cell i (by omega), (hx.get i (by omega) hi).mv ((Mv.refl _ _).less (fun _ h => List.mem_cons_of_mem _ h))⟩⟩

/-- a map's entries read as trees -/
inductive EntsT (w : World) (X : List Nat) : Ents → EntsOfT T → Prop where
  | nil : EntsT w X [] []
  | cons {k : ByteArray} {x : Value} {t : T} {es : Ents} {ts : EntsOfT T} (h : IsT w X x t) (hs : EntsT w X es ts) : EntsT w X ((k, x) :: es) ((k, t) :: ts)

theorem EntsT.mv {a b : World} {X Y : List Nat} {es : Ents} {ts : EntsOfT T} (h : EntsT a X es ts) (hm : Mv a X b Y) : EntsT b Y es ts := by
  induction h with
  | nil => exact .nil
  | cons h _ ih => exact .cons (h.mv hm) ih
theorem EntsT.put {w : World} {X : List Nat} {es : Ents} {ts : EntsOfT T} (h : EntsT w X es ts) {k : ByteArray} {x : Value} {t : T} (hx : IsT w X x t) : EntsT w X (putEnt k x es) (putEnt k t ts) := by
  induction h with
  | nil => exact .cons hx .nil
  | cons h hs ih =>
    simp only [putEnt]
    split
    · exact .cons hx hs
    · exact .cons h ih
theorem EntsT.length {w : World} {X : List Nat} {es : Ents} {ts : EntsOfT T} (h : EntsT w X es ts) : es.length = ts.length := by
  induction h with
  | nil => rfl
  | cons h hs ih => simp [ih]
theorem EntsT.keys {w : World} {X : List Nat} {es : Ents} {ts : EntsOfT T} (h : EntsT w X es ts) : es.map (·.1) = ts.map (·.1) := by
  induction h with
  | nil => rfl
  | cons h hs ih => simp [ih]
theorem EntsT.get {w : World} {X : List Nat} {es : Ents} {ts : EntsOfT T} (h : EntsT w X es ts) : ∀ i (hi : i < es.length) (hi' : i < ts.length), (es[i]).1 = (ts[i]).1 ∧ IsT w X (es[i]).2 (ts[i]).2 := by
  induction h with
  | nil => intro i hi; simp at hi
  | cons h hs ih =>
    intro i hi hi'
    cases i with
    | zero => exact ⟨rfl, h⟩
    | succ i => exact ih i (by simpa using hi) (by simpa using hi')
theorem EntsT.find {w : World} {X : List Nat} {es : Ents} {ts : EntsOfT T} (h : EntsT w X es ts) (k : ByteArray) :
    (getEnt k es = none ∧ getEnt k ts = none) ∨ ∃ x t, getEnt k es = some x ∧ getEnt k ts = some t ∧ IsT w X x t := by
  have key : ∀ n, (findEnt k es n = none ∧ findEnt k ts n = none) ∨ ∃ j x t, findEnt k es n = some (j, x) ∧ findEnt k ts n = some (j, t) ∧ IsT w X x t := by
    induction h with
    | nil => intro n; exact .inl ⟨rfl, rfl⟩
    | cons h hs ih =>
      intro n
      simp only [findEnt]
      split
      · exact .inr ⟨_, _, _, rfl, rfl, h⟩
      · exact ih (n + 1)
  rcases key 0 with ⟨h1, h2⟩ | ⟨j, x, t, h1, h2, h3⟩
  · exact .inl ⟨by simp [getEnt, h1], by simp [getEnt, h2]⟩
  · exact .inr ⟨x, t, by simp [getEnt, h1], by simp [getEnt, h2], h3⟩

/-- block r is a map of type map[string]any with the trees ts -/
structure IsTm (w : World) (X : List Nat) (r : Nat) (ts : EntsOfT T) : Prop where
  ex : ∃ es, IsMap w r es ∧ EntsT w X es ts
  notin : r ∉ X
  bound : ts.length * 88 ≤ 140737488351232
  keys : ∀ p ∈ ts, p.1.size ≤ 140737488351232

theorem IsTm.mv {a b : World} {X Y : List Nat} {r : Nat} {ts : EntsOfT T} (h : IsTm a X r ts) (hm : Mv a X b Y) : IsTm b Y r ts := by
  obtain ⟨⟨es, h1, h2⟩, h3, h4, h5⟩ := h
  exact ⟨⟨es, h1.mv hm h3, h2.mv hm⟩, (hm.block _ h1.lt h3).2, h4, h5⟩
theorem IsTm.nodup {w : World} {X : List Nat} {r : Nat} {ts : EntsOfT T} (h : IsTm w X r ts) : (ts.map (·.1)).Nodup := by
  obtain ⟨es, ⟨mes, clock, _, he⟩, h2⟩ := h.ex
  rw [← h2.keys]
  exact he.keys
theorem IsTm.lt {w : World} {X : List Nat} {r : Nat} {ts : EntsOfT T} (h : IsTm w X r ts) : r < w.heap.size := by
  obtain ⟨es, h1, _⟩ := h.ex
  exact h1.lt

theorem IsTm.mk_map {w : World} {X : List Nat} {r : Nat} {ts : EntsOfT T} (h : IsTm w X r ts) : IsT w X (.iface 214 (.map (some r))) (.map (ts.map (·.1)) (ts.map (·.2))) := by
  obtain ⟨⟨es, h1, h2⟩, h3, h4, h5⟩ := h
  have hlen := h2.length
  refine .map es (fun i => ((es[i]?).map (·.2)).getD undef) h1 h3 h2.keys (by simp) (by simpa using h4) ?_ ?_ ?_
  · intro k hk
    obtain ⟨p, hp, rfl⟩ := List.mem_map.1 hk
    exact h5 p hp
  · intro i hi
    have hi' : i < es.length := by simpa [hlen] using hi
    simp [hi']
  · intro i hi
    have hi' : i < ts.length := by simpa using hi
    have := (h2.get i (by omega) hi').2
    simpa [hlen, hi'] using this

theorem IsT.inv_map {w : World} {X : List Nat} {x : Value} {keys : List ByteArray} {l : List T} (h : IsT w X x (.map keys l)) :
    ∃ r, x = .iface 214 (.map (some r)) ∧ IsTm w X r (keys.zip l) ∧ keys.length = l.length := by
  cases h with
  | @map r _ _ es vals hm hx hk hl hb hs hr hv =>
    refine ⟨r, rfl, ⟨⟨es, hm, ?_⟩, hx, by simp [hl]; omega, ?_⟩, hl⟩
    · have key : ∀ (es : Ents) (keys : List ByteArray) (l : List T) (vals : Nat → Value), es.map (·.1) = keys → keys.length = l.length → (∀ i, i < l.length → (es[i]?).map (·.2) = some (vals i)) → (∀ i (h : i < l.length), IsT w X (vals i) (l[i])) → EntsT w X es (keys.zip l) := by
        intro es
        induction es with
        | nil => intro keys l vals hk hl hr hv; simp only [List.map_nil] at hk; subst hk; exact .nil
        | cons e es ih =>
          intro keys l vals hk hl hr hv
          subst hk
          cases l with
          | nil => simp at hl
          | cons t l =>
            obtain ⟨k, x⟩ := e
            have h0 := hr 0 (by simp)
            simp only [List.getElem?_cons_zero, Option.map_some, Option.some.injEq] at h0
            have h1 := hv 0 (by simp)
            rw [← h0] at h1
            exact .cons h1 (ih _ l (fun i => vals (i + 1)) rfl (by simpa using hl) (fun i hi => by simpa using hr (i + 1) (by simpa using hi)) (fun i hi => hv (i + 1) (by simpa using hi)))
      exact key es keys l vals hk hl hr hv
    · intro p hp
      exact hs _ (List.of_mem_zip hp).1

/-- v (of type value.Value) is an unstructured value over the tree t -/
structure IsVal (w : World) (X : List Nat) (v : Value) (t : T) : Prop where
  ex : ∃ b x, v = .iface 261 (.pointer (some ⟨b, 0, none⟩)) ∧ w.heap[b]? = some (.cells #[x] 292 (0, 0)) ∧ b ∉ X ∧ IsT w X x t

theorem IsVal.mv {a b : World} {X Y : List Nat} {v : Value} {t : T} (h : IsVal a X v t) (hm : Mv a X b Y) : IsVal b Y v t := by
  obtain ⟨p, x, h1, h2, h3, h4⟩ := h.ex
  have := hm.block p (Array.getElem?_eq_some_iff.1 h2).1 h3
  exact ⟨p, x, h1, this.1.trans h2, this.2, h4.mv hm⟩

end Go.Proofs.YtihapgangilncaaGreat
namespace Go.Proofs.YtihapgangilncaaGreat
open Go.RowKit

def putAll {α : Type} (ps : EntsOfT α) : EntsOfT α := ps.foldl (fun es p => putEnt p.1 p.2 es) []
theorem putAll_snoc {α : Type} (ps : EntsOfT α) (p : ByteArray × α) : putAll (ps ++ [p]) = putEnt p.1 p.2 (putAll ps) := by simp [putAll]

mutual
def V.plain : V → T
  | .mk kind n f s keys l => if kind = 1 then .bool (n != 0) else if kind = 2 then .int n else if kind = 3 then .float f else if kind = 4 then .str s else if kind = 5 then .list (V.plainL l)
    else if kind = 6 then .map ((putAll (keys.zip (V.plainL l))).map (·.1)) ((putAll (keys.zip (V.plainL l))).map (·.2)) else .null
def V.plainL : List V → List T
  | [] => []
  | v :: l => v.plain :: V.plainL l
end
theorem V.plainL_eq (l : List V) : V.plainL l = l.map V.plain := by
  induction l with
  | nil => rfl
  | cons v l ih => simp [V.plainL, ih]

theorem putAll_mem {α : Type} (ps : EntsOfT α) : ∀ p ∈ putAll ps, p.1 ∈ ps.map (·.1) := by
  suffices h : ∀ (ps acc : EntsOfT α) (S : List ByteArray), (∀ p ∈ acc, p.1 ∈ S) → ∀ p ∈ ps.foldl (fun es p => putEnt p.1 p.2 es) acc, p.1 ∈ S ∨ p.1 ∈ ps.map (·.1) by
    intro p hp
    simpa using h ps [] [] (by simp) p hp
  intro ps
  induction ps with
  | nil => intro acc S h p hp; exact .inl (h p hp)
  | cons q ps ih =>
    intro acc S h p hp
    have := ih (putEnt q.1 q.2 acc) (q.1 :: S) (by
      have key : ∀ (es : EntsOfT α), (∀ p ∈ es, p.1 ∈ S) → ∀ p ∈ putEnt q.1 q.2 es, p.1 ∈ q.1 :: S := by
        intro es
        induction es with
        | nil => intro _ p hp; simp only [putEnt, List.mem_singleton] at hp; subst hp; simp
        | cons e es ih' =>
          intro h' p hp
          simp only [putEnt] at hp
          split at hp
          · simp only [List.mem_cons] at hp
            rcases hp with rfl | hp
            · simp
            · have := h' p (by simp [hp]); simp [this]
          · simp only [List.mem_cons] at hp
            rcases hp with rfl | hp
            · have := h' p (by simp); simp [this]
            · exact ih' (fun p hp => h' p (by simp [hp])) p hp
      exact key acc h) p hp
    simp only [List.mem_cons, List.map_cons] at this ⊢
    rcases this with (h | h) | h
    · exact .inr (.inl h)
    · exact .inl h
    · exact .inr (.inr h)

theorem putEnt_length {α : Type} (k : ByteArray) (v : α) (es : EntsOfT α) : (putEnt k v es).length ≤ es.length + 1 := by
  induction es with
  | nil => simp [putEnt]
  | cons e es ih => simp only [putEnt]; split <;> simp; omega
theorem putAll_length {α : Type} (ps : EntsOfT α) : (putAll ps).length ≤ ps.length := by
  suffices h : ∀ (ps acc : EntsOfT α), (ps.foldl (fun es p => putEnt p.1 p.2 es) acc).length ≤ acc.length + ps.length by simpa [putAll] using h ps []
  intro ps
  induction ps with
  | nil => simp
  | cons q ps ih => intro acc; have := ih (putEnt q.1 q.2 acc); have := putEnt_length q.1 q.2 acc; simp only [List.foldl_cons, List.length_cons] at *; omega

def PlainC (v : V) : Prop := ∀ (w : World) (X : List Nat) (cs : List Value), IsV w X cs v → Old X w → ∀ R : Ending → World → Prop, (∀ w' x, Ext w w' → IsT w' X x v.plain → R (.returned x) w') →
  Calls Tryz.prog 141 #[.agg cs.toArray] w R

def plainEnts (keys : List ByteArray) (l : List V) : EntsOfT T := putAll (keys.zip (V.plainL l))

theorem zip_take_lt {keys : List ByteArray} {ts : List T} {k : Nat} (h1 : k < keys.length) (h2 : k < ts.length) : (keys.zip ts).take (k + 1) = (keys.zip ts).take k ++ [(keys[k], ts[k])] := by
  rw [List.take_succ_eq_append_getElem (by simp; omega)]
  simp
theorem zip_take_ge {keys : List ByteArray} {ts : List T} {k : Nat} (h2 : ts.length ≤ k) : (keys.zip ts).take (k + 1) = (keys.zip ts).take k := by
  rw [List.take_of_length_le (by simp; omega), List.take_of_length_le (by simp; omega)]

set_option maxHeartbeats 1000000 in
set_option maxRecDepth 100000 in
theorem plainMap_of {kind n : Int} {f : Nat} {s : ByteArray} {keys : List ByteArray} {l : List V} (ih : ∀ i (h : i < l.length), PlainC (l[i])) (w : World) (X : List Nat) (cs : List Value) (hv : IsV w X cs (.mk kind n f s keys l)) (hX : ∀ b ∈ X, b < w.heap.size)
    (R : Ending → World → Prop) (hR : ∀ w' r, Ext w w' → IsTm w' X r (plainEnts keys l) → R (.returned (.map (some r))) w') :
    Calls Tryz.prog 169 #[.agg cs.toArray] w R := by
  obtain ⟨ko, kc, o, c, rfl, hwf, hks, hl⟩ := hv.inv
  obtain ⟨_, _, kb, koff, e, k2, k3, k4, k5⟩ := hks.ex
  cases e
  obtain ⟨_, _, b, off, e, h2, h3, h4, h5⟩ := hl.ex
  cases e
  have hR' := Lib.hid hR
  have hih := Lib.hid ih
  have hsm := Lib.hid hks.small
  clear hR ih hv hks hl hwf
  have hmm := @run_makeMap Tryz.prog
  go_enter Tryz.func169, Tryz.ntmps169
  go_wp2_with fail
  refine abs2 (G := Code.wp _ _ _ _) ?_
  intro w1 hE1 hb1 hb2 hs1
  go_loopw [10] (fun i wr => ∃ k : Nat, k ≤ keys.length ∧ i = .int .i64 k ∧ Ext w wr ∧ wr.heap[w.heap.size]? = w1.heap[w.heap.size]? ∧ ∃ es, IsMap wr (w.heap.size + 1) es ∧ EntsT wr ((w.heap.size + 1) :: X) es (putAll ((keys.zip (V.plainL l)).take k)))
    (fun i _ => keys.length - (intOf i).toNat)
  case atStart => exact ⟨0, Nat.zero_le _, rfl, hE1, rfl, [], ⟨#[], 0, hb2, ⟨rfl, by simp, by simp, by simp⟩⟩, .nil⟩
  case round =>
    obtain ⟨k, hk, rfl, hE, hbox, es, hm, hes⟩ := hrel
    have hbox' := cells_of (hbox.trans hb1)
    by_cases hlt : k < keys.length
    · obtain ⟨rfl, hkX⟩ := k4 (by omega)
      have d0 := (hE.mv X |>.cell hkX (k5 k hlt).1).1
      have p5 : wr.cell? ⟨w.heap.size, 5, none⟩ = some (.slice o l.length c) := hbox' 5
      clear hb1 hb2 hs1 hE1 k4 k5 hbox'
      by_cases hkl : k < l.length
      · obtain ⟨rfl, hbX⟩ := h4 (by omega)
        obtain ⟨x, c0, c1, c2, c3, c4, c5, hx⟩ := h5 k hkl
        have q0 := (hE.mv X |>.cell hbX c0).1
        have q1 := (hE.mv X |>.cell hbX c1).1
        have q2 := (hE.mv X |>.cell hbX c2).1
        have q3 := (hE.mv X |>.cell hbX c3).1
        have q4 := (hE.mv X |>.cell hbX c4).1
        have q5 := (hE.mv X |>.cell hbX c5).1
        clear c0 c1 c2 c3 c4 c5 h4 h5 
        go_wp2_with fail
        refine hih.out k hkl wr ((w.heap.size + 1) :: X) x.list (hx.mv ((hE.mv X).more (by omega))) (.cons hm.lt (Old.le hX hE.size)) _ ?_
        intro w2 y hE2 hy
        dsimp only
        obtain ⟨w3, hr3, hm3, hg3, hs3⟩ := run_mapUpdate_ents (P := Tryz.prog) (T := 214) Tryz.underlying214 Tryz.underlying9 (hm.ext hE2) (keys[k]) y
        have hone := hy.one
        go_wp2_with fail
        go_roundw
        case rel =>
          refine ⟨k + 1, by omega, by go_num, (hE.trans hE2).grown hg3 (by intro j hj; cases hj; omega), ?_, _, hm3, ?_⟩
          · exact ((hg3.block _ (by have := hm.lt; have := hE2.size; omega) (by simp)).trans (hE2.below.block _ (by have := hm.lt; omega))).trans hbox
          · rw [zip_take_lt hlt (by rw [V.plainL_eq]; simpa using hkl), putAll_snoc]
            have hpl : (V.plainL l)[k]'(by rw [V.plainL_eq]; simpa using hkl) = (l[k]).plain := by simp [V.plainL_eq]
            rw [hpl]
            exact (hes.mv ((hE2.mv _).grown hg3 (by simp))).put (hy.mv ((Mv.refl _ _).grown hg3 (by simp)))
        case measure => simp [intOf]; omega
      · clear h4 h5
        go_wp2_with fail
        go_roundw
        case rel =>
          refine ⟨k + 1, by omega, by go_num, hE, hbox, es, hm, ?_⟩
          rw [zip_take_ge (by rw [V.plainL_eq]; simp; omega)]
          exact hes
        case measure => simp [intOf]; omega
    · go_wp2_with fail
      refine hR'.out _ _ hE ?_
      rw [List.take_of_length_le (by simp; omega)] at hes
      refine ⟨⟨es, hm, hes.mv ((Mv.refl _ _).less (fun _ h => List.mem_cons_of_mem _ h))⟩, fun h => ?_, ?_, ?_⟩
      · have := hX _ h; omega
      · have h1 := putAll_length (keys.zip (V.plainL l))
        simp only [List.length_zip, V.plainL_eq, List.length_map] at h1
        simp only [plainEnts, V.plainL_eq]
        omega
      · intro p hp
        have h1 := putAll_mem _ p hp
        obtain ⟨q, hq, e⟩ := List.mem_map.1 h1
        exact hsm.out _ (e ▸ (List.of_mem_zip hq).1)


theorem plainL_get {l : List V} {i : Nat} (h : i < l.length) (h' : i < (V.plainL l).length) : (V.plainL l)[i] = (l[i]).plain := by simp [V.plainL_eq]
theorem plainL_length (l : List V) : (V.plainL l).length = l.length := by simp [V.plainL_eq]

theorem Tryz.info20 : (Tryz.prog.info? 20).map (fun i => (i.zero, i.size, i.bytes)) = some (some .nilIface, 1, 16) := by kernel_rfl

theorem plain_1 {n : Int} {f : Nat} {s : ByteArray} {keys : List ByteArray} {l : List V} : V.plain (.mk 1 n f s keys l) = .bool (n != 0) := by simp [V.plain]
theorem plain_2 {n : Int} {f : Nat} {s : ByteArray} {keys : List ByteArray} {l : List V} : V.plain (.mk 2 n f s keys l) = .int n := by simp [V.plain]
theorem plain_3 {n : Int} {f : Nat} {s : ByteArray} {keys : List ByteArray} {l : List V} : V.plain (.mk 3 n f s keys l) = .float f := by simp [V.plain]
theorem plain_4 {n : Int} {f : Nat} {s : ByteArray} {keys : List ByteArray} {l : List V} : V.plain (.mk 4 n f s keys l) = .str s := by simp [V.plain]
theorem plain_5 {n : Int} {f : Nat} {s : ByteArray} {keys : List ByteArray} {l : List V} : V.plain (.mk 5 n f s keys l) = .list (V.plainL l) := by simp [V.plain]
theorem plain_6 {n : Int} {f : Nat} {s : ByteArray} {keys : List ByteArray} {l : List V} : V.plain (.mk 6 n f s keys l) = .map ((plainEnts keys l).map (·.1)) ((plainEnts keys l).map (·.2)) := by simp [V.plain, plainEnts]
theorem plain_else {kind n : Int} {f : Nat} {s : ByteArray} {keys : List ByteArray} {l : List V} (h1 : (kind == 1) = false) (h2 : (kind == 2) = false) (h3 : (kind == 3) = false) (h4 : (kind == 4) = false) (h5 : (kind == 5) = false) (h6 : (kind == 6) = false) :
    V.plain (.mk kind n f s keys l) = .null := by simp only [beq_eq_false_iff_ne] at *; simp [V.plain, *]

set_option maxRecDepth 100000 in
set_option maxHeartbeats 1000000 in
theorem plain_all (v : V) : PlainC v := by
  induction v using V.ind with
  | h kind n f s keys l ih =>
  intro w X cs hv hX R hR
  have hmap := plainMap_of (kind := kind) (n := n) (f := f) (s := s) (keys := keys) ih
  obtain ⟨ko, kc, o, c, rfl, hwf, hks, hl⟩ := hv.inv
  obtain ⟨_, _, b, off, e, h2, h3, h4, h5⟩ := hl.ex
  cases e
  have hR' := Lib.hid hR
  have hih := Lib.hid ih
  have hmap' := Lib.hid hmap
  have hv' := Lib.hid hv
  have hX' := Lib.hid hX
  have hwf' := Lib.hid hwf
  clear hR ih hks hl hwf hmap hv hX
  go_enter Tryz.func141, Tryz.ntmps141
  have hb1 : 16 * l.length ≤ 281474976710656 := by omega
  have hb2 : l.length ≤ maxLen := by unfold maxLen; omega
  go_wp2_with (refine wpL_make rfl 213 _ _ rfl 20 Tryz.underlying213 Tryz.info20 l.length rfl rfl hb1 hb2 ?_; intro w2 hown hE2; obtain ⟨hc2, hf2, hz2⟩ := hE2.cells)
  · obtain rfl : kind = 1 := by simpa using ‹(kind == 1) = true›
    refine hR'.out _ _ (.alloc _ _) ?_
    rw [plain_1]
    exact .bool _
  · obtain rfl : kind = 2 := by simpa using ‹(kind == 2) = true›
    refine hR'.out _ _ (.alloc _ _) ?_
    rw [plain_2]
    exact .int hwf'.out.2.1
  · obtain rfl : kind = 3 := by simpa using ‹(kind == 3) = true›
    refine hR'.out _ _ (.alloc _ _) ?_
    rw [plain_3]
    exact .float hwf'.out.2.2.1
  · obtain rfl : kind = 4 := by simpa using ‹(kind == 4) = true›
    refine hR'.out _ _ (.alloc _ _) ?_
    rw [plain_4]
    exact .str hwf'.out.2.2.2
  · obtain rfl : kind = 5 := by simpa using ‹(kind == 5) = true›
    go_loopw [3, 38] (fun v i wr => ∃ (k g cap : Nat) (xs : List Value), k ≤ l.length ∧ i = .int .i64 k ∧ v = .slice (some ⟨g, 0, none⟩) k cap ∧ Ext w wr ∧ w.heap.size ≤ g ∧ k ≤ cap ∧ Own wr 20 1 (.slice (some ⟨g, 0, none⟩) k cap) k xs ∧ All2 (IsT wr (g :: X)) xs ((V.plainL l).take k))
      (fun _ i _ => l.length - (intOf i).toNat)
    case atStart => exact ⟨0, w.heap.size + 1, l.length, [], Nat.zero_le _, rfl, by simp, (Ext.alloc _ _).trans hE2, by omega, Nat.zero_le _, by simpa using hown, .nil⟩
    case round =>
      obtain ⟨k, g, cap, xs, hk, rfl, rfl, hE, hgw, hkc, ho, hxs⟩ := hrel
      clear hc2 hf2 hz2 hE2 hown hb1 hb2
      by_cases hlt : k < l.length
      · obtain ⟨rfl, hbX⟩ := h4 (by omega)
        obtain ⟨x, c0, c1, c2, c3, c4, c5, hx⟩ := h5 k hlt
        have q0 := (hE.mv X |>.cell hbX c0).1
        have q1 := (hE.mv X |>.cell hbX c1).1
        have q2 := (hE.mv X |>.cell hbX c2).1
        have q3 := (hE.mv X |>.cell hbX c3).1
        have q4 := (hE.mv X |>.cell hbX c4).1
        have q5 := (hE.mv X |>.cell hbX c5).1
        clear c0 c1 c2 c3 c4 c5 h4 h5
        go_wp2_with fail
        refine hih.out k hlt (wr.alloc _) (g :: X) x.list (hx.mv (((hE.push _).mv X).more hgw)) (.cons (by have : g < wr.heap.size := ho.lt rfl; simp; omega) (Old.le hX'.out (hE.push _).size)) _ ?_
        intro w3 y hE3 hy
        dsimp only
        have hone := hy.one
        have hone1 : ∀ u ∈ (#[y] : Array Value).toList, u.oneCell' = true := by simpa using hone
        have hb3 : (k + 1) * 16 ≤ 140737488355328 := by omega
        have hb4 : k + 1 ≤ maxLen := by unfold maxLen; omega
        go_wp2_with (first | refine wpL_lit1 rfl 213 _ rfl 20 Tryz.underlying213 Tryz.info20 rfl rfl hone ?_ | (at_builtin; refine wpL_app1 rfl _ _ 213 rfl 20 Tryz.underlying213 Tryz.info20 rfl (by decide) (ho.ext ((Ext.alloc _ _).trans hE3)) rfl rfl rfl hone1 hb3 hb4 ?_; intro v' w4 ho4 hg4 hne4 hd4))
        go_roundw
        case rel =>
          obtain ⟨g', cap', hv4, hkc'⟩ := ho4.shape hne4
          have hd5 : g = g' ∨ w3.heap.size ≤ g' := by simpa [Value.ownBlock] using hd4 g' (by rw [hv4]; rfl)
          have hE4 := (hE.push _).trans hE3
          have hg5 : w3.grownBy w4 (some g) := hg4
          refine ⟨k + 1, g', cap', xs ++ [y], by omega, by go_num, hv4, hE4.grown hg5 (by intro j hj; cases hj; exact hgw), by have := hE4.size; omega, hkc', hv4 ▸ ho4, ?_⟩
          rw [List.take_succ_eq_append_getElem (by rw [plainL_length]; exact hlt), plainL_get hlt]
          exact (hxs.imp fun _ _ h => h.mv (Mv.row (((Ext.alloc _ _).trans hE3).mv _) hg5 hd5)).snoc (hy.mv (Mv.row (.refl _ _) hg5 hd5))
        case measure => simp [intOf]; omega
      · go_wp2_with fail
        have : k = l.length := by omega
        subst this
        refine hR'.out _ _ hE ?_
        rw [plain_5]
        rw [List.take_of_length_le (by simp [plainL_length])] at hxs
        exact (IsTs.of_own ho hxs (fun h => by have := hX'.out _ h; omega) hkc (by rw [plainL_length]; omega)).mk_list
  · obtain rfl : kind = 6 := by simpa using ‹(kind == 6) = true›
    refine hmap'.out _ X _ (hv'.out.mv ((Ext.alloc _ _).mv X)) (Old.le hX'.out (by simp)) _ ?_
    intro w2 r hE2 hm
    dsimp only
    go_wp2_with fail
    refine hR'.out _ _ ((Ext.alloc _ _).trans hE2) ?_
    rw [plain_6]
    exact hm.mk_map
  · refine hR'.out _ _ (.alloc _ _) ?_
    rw [plain_else (by assumption) (by assumption) (by assumption) (by assumption) (by assumption) (by assumption)]
    exact .null

end Go.Proofs.YtihapgangilncaaGreat
