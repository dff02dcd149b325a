/- Maps with string keys, as lists of their entries: what the operations on them do. -/
import Derived.Test.YtnndacgokehkpaaMem
namespace Go.Proofs.Ytnndacgokehkpaa
open Go.RowKit

abbrev EntsOfT (α : Type) := List (ByteArray × α)
abbrev Ents := EntsOfT Value

/-- the place and the value of a key -/
def findEnt {α : Type} (k : ByteArray) : EntsOfT α → Nat → Option (Nat × α)
  | [], _ => none
  | e :: es, i => if k == e.1 then some (i, e.2) else findEnt k es (i + 1)
def getEnt {α : Type} (k : ByteArray) (es : EntsOfT α) : Option α := (findEnt k es 0).map (·.2)
def putEnt {α : Type} (k : ByteArray) (v : α) : EntsOfT α → EntsOfT α
  | [] => [(k, v)]
  | e :: es => if k == e.1 then (k, v) :: es else e :: putEnt k v es

/-- the entries of a map's block read as es -/
structure EntsOf (mes : Array MapEntry) (clock : Nat) (es : Ents) : Prop where
  reads : mes.toList.map (fun e => (e.key, e.val)) = es.map (fun p => (Value.string p.1, p.2))
  born : (mes.toList.map (·.born)).Nodup
  lt : ∀ e ∈ mes.toList, e.born < clock
  keys : (es.map (·.1)).Nodup

/-- block r is a map whose entries are es -/
def IsMap (w : World) (r : Nat) (es : Ents) : Prop := ∃ mes clock, w.heap[r]? = some (.map mes clock) ∧ EntsOf mes clock es

theorem IsMap.lt {w : World} {r : Nat} {es : Ents} (h : IsMap w r es) : r < w.heap.size := by
  obtain ⟨mes, clock, hh, _⟩ := h
  exact (Array.getElem?_eq_some_iff.1 hh).1
theorem IsMap.keep {w w' : World} {r : Nat} {es : Ents} (h : IsMap w r es) (hb : w'.heap[r]? = w.heap[r]?) : IsMap w' r es := by
  obtain ⟨mes, clock, hh, he⟩ := h
  exact ⟨mes, clock, hb.trans hh, he⟩
theorem IsMap.mv {a b : World} {X Y : List Nat} {r : Nat} {es : Ents} (h : IsMap a r es) (hm : Mv a X b Y) (hx : r ∉ X) : IsMap b r es := h.keep (hm.block r h.lt hx).1
theorem IsMap.ext {a b : World} {r : Nat} {es : Ents} (h : IsMap a r es) (e : Ext a b) : IsMap b r es := h.keep (e.below.block r h.lt)

theorem findNow_ents (k : ByteArray) : ∀ (l : List MapEntry) (es : Ents) (i : Nat), l.map (fun e => (e.key, e.val)) = es.map (fun p => (Value.string p.1, p.2)) →
    Instr.findNow .string (.string k) l i = some (findEnt k es i)
  | [], [], i, _ => rfl
  | [], _ :: _, i, h => by simp at h
  | _ :: _, [], i, h => by simp at h
  | e :: l, p :: es, i, h => by
    simp only [List.map_cons, List.cons.injEq, Prod.mk.injEq] at h
    obtain ⟨⟨h1, h2⟩, h3⟩ := h
    simp only [Instr.findNow, h1, Instr.sameNow, findEnt]
    cases hb : k == p.1 with
    | true => simp [h2]
    | false => simpa using findNow_ents k l es (i + 1) h3

theorem findEnt_bound {α : Type} {k : ByteArray} : ∀ {es : EntsOfT α} {i j : Nat} {v : α}, findEnt k es i = some (j, v) → i ≤ j ∧ es[j - i]? = some (k, v)
  | [], _, _, _, h => by simp [findEnt] at h
  | e :: es, i, j, v, h => by
    simp only [findEnt] at h
    split at h
    · rename_i hk
      simp only [Option.some.injEq, Prod.mk.injEq] at h
      obtain ⟨rfl, rfl⟩ := h
      have : k = e.1 := by simpa using hk
      simp [this]
    · have := findEnt_bound h
      refine ⟨by omega, ?_⟩
      rw [show j - i = (j - (i + 1)) + 1 from by omega]
      simpa using this.2

theorem findEnt_none {α : Type} {k : ByteArray} : ∀ {es : EntsOfT α} {i : Nat}, findEnt k es i = none ↔ k ∉ es.map (·.1)
  | [], _ => by simp [findEnt]
  | e :: es, i => by
    simp only [findEnt, List.map_cons, List.mem_cons, not_or]
    split
    · rename_i hk
      have : k = e.1 := by simpa using hk
      simp [this]
    · rename_i hk
      rw [findEnt_none]
      have : ¬ k = e.1 := by simpa using hk
      simp [this]

theorem putEnt_none {α : Type} {k : ByteArray} {v : α} : ∀ {es : EntsOfT α}, k ∉ es.map (·.1) → putEnt k v es = es ++ [(k, v)]
  | [], _ => rfl
  | e :: es, h => by
    simp only [List.map_cons, List.mem_cons, not_or] at h
    simp only [putEnt]
    rw [if_neg (by simpa using h.1), putEnt_none h.2]
    rfl

theorem putEnt_some {α : Type} {k : ByteArray} {v : α} : ∀ {es : EntsOfT α} {i j : Nat} {u : α}, findEnt k es i = some (j, u) → putEnt k v es = es.set (j - i) (k, v)
  | [], _, _, _, h => by simp [findEnt] at h
  | e :: es, i, j, u, h => by
    simp only [findEnt] at h
    simp only [putEnt]
    split at h
    · rename_i hk
      simp only [Option.some.injEq, Prod.mk.injEq] at h
      obtain ⟨rfl, rfl⟩ := h
      simp [hk]
    · rename_i hk
      rw [if_neg hk, putEnt_some h, show j - i = (j - (i + 1)) + 1 from by have := findEnt_bound h; omega]
      rfl

theorem putEnt_keys {α : Type} {k : ByteArray} {v : α} {es : EntsOfT α} (h : (es.map (·.1)).Nodup) : ((putEnt k v es).map (·.1)).Nodup := by
  cases hf : findEnt k es 0 with
  | none =>
    rw [findEnt_none] at hf
    rw [putEnt_none hf, List.map_append, List.nodup_append]
    refine ⟨h, by simp, ?_⟩
    intro a ha b hb
    simp only [List.map_cons, List.map_nil, List.mem_singleton] at hb
    subst hb
    intro e
    subst e
    exact hf ha
  | some p =>
    obtain ⟨j, u⟩ := p
    have hb := findEnt_bound hf
    rw [putEnt_some hf, List.map_set]
    simp only [Nat.sub_zero] at hb ⊢
    have : (es.map (·.1)).set j k = es.map (·.1) := by
      apply List.ext_getElem?
      intro n
      by_cases e : j = n
      · subst e
        rw [List.getElem?_set]
        have := hb.2
        simp [this]
        exact (List.getElem?_eq_some_iff.1 this).1
      · simp [e]
    rw [this]
    exact h

section
variable {P : Program} {w : World} {T K E : TypeId}

theorem run_findKey_ents (hK : P.underlying K = some .string) (k : ByteArray) {mes : Array MapEntry} {clock : Nat} {es : Ents} (h : EntsOf mes clock es) :
    (Instr.findKey K (.string k) mes.toList).run P w = .ok (findEnt k es 0) w := by
  simp [Instr.findKey, run_underlying hK, findNow_ents k mes.toList es 0 h.reads]

theorem run_checkKey_succ (hK : P.underlying K = some .string) (b : Bool) (k : ByteArray) (n : Nat) : (Instr.checkKey b (n + 1) K (.string k)).run P w = .ok () w := by
  rw [Instr.checkKey]
  simp [run_underlying hK]
theorem run_checkKey_str (hK : P.underlying K = some .string) (b : Bool) (k : ByteArray) : (Instr.checkKey b 10000 K (.string k)).run P w = .ok () w := run_checkKey_succ hK b k 9999

theorem run_getObj_ents {r : Nat} {mes : Array MapEntry} {clock : Nat} (hh : w.heap[r]? = some (.map mes clock)) : (getObj r).run P w = .ok (.map mes clock) w := by
  simp [getObj, Sem.run, hh]
theorem run_setObj_ents {r : Nat} {mes : Array MapEntry} {clock : Nat} (o : Obj) (hh : w.heap[r]? = some (.map mes clock)) : (setObj r o).run P w = .ok () { w with heap := w.heap.setIfInBounds r o } := by
  simp [setObj, Sem.run, hh]

theorem grownBy_set (w : World) (r : Nat) (o : Obj) : w.grownBy { w with heap := w.heap.setIfInBounds r o } (some r) :=
  ⟨rfl, rfl, rfl, by simp, fun k _ hk => by
    show (w.heap.setIfInBounds r o)[k]? = _
    rw [Array.getElem?_setIfInBounds, if_neg (fun e => hk (by rw [e]))]⟩

/-- 'm[k] = v' -/
theorem run_mapUpdate_ents (hT : P.underlying T = some (.map K E)) (hK : P.underlying K = some .string) {r : Nat} {es : Ents} (hm : IsMap w r es) (k : ByteArray) (v : Value) :
    ∃ w', (Instr.mapUpdate T (.map (some r)) (.string k) v).run P w = .ok () w' ∧ IsMap w' r (putEnt k v es) ∧ w.grownBy w' (some r) ∧ w'.heap.size = w.heap.size := by
  obtain ⟨mes, clock, hh, he⟩ := hm
  have hr : r < w.heap.size := (Array.getElem?_eq_some_iff.1 hh).1
  have hlen : mes.size = es.length := by have := congrArg List.length he.reads; simpa using this
  cases hf : findEnt k es 0 with
  | none =>
    refine ⟨_, ?_, ?_, grownBy_set w r (.map (mes.push { key := .string k, val := v, born := clock }) (clock + 1)), by simp⟩
    · simp [Instr.mapUpdate, run_underlying hT, run_getObj_ents hh, run_checkKey_str hK, run_findKey_ents hK k he, hf, run_setObj_ents _ hh]
    · refine ⟨mes.push { key := .string k, val := v, born := clock }, clock + 1, by simp [hr], ⟨?_, ?_, ?_, putEnt_keys he.keys⟩⟩
      · rw [findEnt_none] at hf
        rw [putEnt_none hf]
        simp [he.reads]
      · simp only [Array.toList_push, List.map_append, List.map_cons, List.map_nil, List.nodup_append]
        refine ⟨he.born, by simp, ?_⟩
        intro a ha b hb
        simp only [List.mem_singleton] at hb
        obtain ⟨x, hx, rfl⟩ := List.mem_map.1 ha
        have := he.lt x hx
        omega
      · intro e hm
        simp only [Array.toList_push, List.mem_append, List.mem_singleton] at hm
        rcases hm with hm | rfl
        · have := he.lt e hm; omega
        · exact Nat.lt_succ_self _
  | some p =>
    obtain ⟨j, u⟩ := p
    have hb := findEnt_bound hf
    simp only [Nat.zero_le, Nat.sub_zero, true_and] at hb
    have hj : j < mes.size := by rw [hlen]; exact (List.getElem?_eq_some_iff.1 hb).1
    have hkey : mes[j].key = .string k := by
      have h2 := congrArg (fun l => l[j]?) he.reads
      simp only [List.getElem?_map, hb, Array.getElem?_toList, Array.getElem?_eq_getElem hj, Option.map_some, Option.some.injEq, Prod.mk.injEq] at h2
      exact h2.1
    refine ⟨_, ?_, ?_, grownBy_set w r (.map (mes.modify j fun e => { e with key := .string k, val := v }) clock), by simp⟩
    · simp [Instr.mapUpdate, run_underlying hT, run_getObj_ents hh, run_checkKey_str hK, run_findKey_ents hK k he, hf, run_setObj_ents _ hh, Instr.keyThatStays, hj, hkey, Instr.sameBits]
    · refine ⟨mes.modify j fun e => { e with key := .string k, val := v }, clock, by simp [hr], ⟨?_, ?_, ?_, putEnt_keys he.keys⟩⟩
      · rw [putEnt_some hf, Nat.sub_zero, List.map_set]
        rw [← he.reads]
        apply List.ext_getElem?
        intro n
        simp only [List.getElem?_map, Array.getElem?_toList, Array.getElem?_modify, List.getElem?_set, List.length_map, Array.length_toList]
        by_cases e : j = n
        · subst e; simp [hj]
        · simp [e]
      · have : (mes.modify j fun e => { e with key := .string k, val := v }).toList.map (·.born) = mes.toList.map (·.born) := by
          apply List.ext_getElem?
          intro n
          simp only [List.getElem?_map, Array.getElem?_toList, Array.getElem?_modify]
          by_cases e : j = n
          · subst e; simp [hj]
          · simp [e]
        rw [this]
        exact he.born
      · intro e hm
        obtain ⟨n, hn⟩ := List.mem_iff_getElem?.1 hm
        simp only [Array.getElem?_toList, Array.getElem?_modify] at hn
        by_cases e' : j = n
        · subst e'
          simp [hj] at hn
          subst hn
          exact he.lt mes[j] (by simp)
        · simp [e'] at hn
          exact he.lt e (by rw [List.mem_iff_getElem?]; exact ⟨n, by simpa using hn⟩)

/-- 'v, ok := m[k]' -/
theorem run_lookup_ents_ok (hT : P.underlying T = some (.map K E)) (hK : P.underlying K = some .string) {r : Nat} {es : Ents} (hm : IsMap w r es) (k : ByteArray) (z : Value) (hz : (zeroValue E).run P w = .ok z w) :
    (Instr.lookup T (.map (some r)) (.string k) true).run P w = .ok (.tuple #[(getEnt k es).getD z, .bool (getEnt k es).isSome]) w := by
  obtain ⟨mes, clock, hh, he⟩ := hm
  cases hf : findEnt k es 0 with
  | none => simp [Instr.lookup, run_underlying hT, run_getObj_ents hh, run_checkKey_str hK, run_findKey_ents hK k he, hf, hz, getEnt]
  | some p => obtain ⟨j, u⟩ := p; simp [Instr.lookup, run_underlying hT, run_getObj_ents hh, run_checkKey_str hK, run_findKey_ents hK k he, hf, getEnt]
theorem run_lookup_ents (hT : P.underlying T = some (.map K E)) (hK : P.underlying K = some .string) {r : Nat} {es : Ents} (hm : IsMap w r es) (k : ByteArray) (z : Value) (hz : (zeroValue E).run P w = .ok z w) :
    (Instr.lookup T (.map (some r)) (.string k) false).run P w = .ok ((getEnt k es).getD z) w := by
  obtain ⟨mes, clock, hh, he⟩ := hm
  cases hf : findEnt k es 0 with
  | none => simp [Instr.lookup, run_underlying hT, run_getObj_ents hh, run_checkKey_str hK, run_findKey_ents hK k he, hf, hz, getEnt]
  | some p => obtain ⟨j, u⟩ := p; simp [Instr.lookup, run_underlying hT, run_getObj_ents hh, run_checkKey_str hK, run_findKey_ents hK k he, hf, getEnt]

/-- 'len(m)' -/
theorem run_len_ents (hT : P.underlying T = some (.map K E)) (ty : TypeId) {r : Nat} {es : Ents} (hm : IsMap w r es) :
    (Builtin.len_ #[T] ty #[.map (some r)]).run P w = .ok (.int .i64 es.length) w := by
  obtain ⟨mes, clock, hh, he⟩ := hm
  have hlen : mes.size = es.length := by have := congrArg List.length he.reads; simpa using this
  simp [Builtin.len_, run_underlying hT, run_getObj_ents hh, goInt, hlen]

theorem isMap_made (w : World) : IsMap (w.alloc (.map #[] 0)) w.heap.size [] := ⟨#[], 0, by show (w.heap.push _)[w.heap.size]? = _; simp, ⟨rfl, by simp, by simp, by simp⟩⟩
end

end Go.Proofs.Ytnndacgokehkpaa
