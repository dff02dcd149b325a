/- Maps with string keys, as lists of their entries: what the operations on them do. Going over a map with string keys: each entry once, in some order. The order of strings by their bytes, and lists of fields in that order: plain Lean. -/
import Derived.Test.YtihapgangilncaaGreatKGMem
namespace Go.Proofs.YtihapgangilncaaGreat
open Go.RowKit

abbrev EntsOfT (α : Type) := List (ByteArray × α)
abbrev Ents := EntsOfT Value

/-- the place and the value of a key -/
def findEnt {α : Type} (k : ByteArray) : EntsOfT α → Nat → Option (Nat × α)
  | [], _ => none
  | e :: es, i => if k == e.1 then some (i, e.2) else findEnt k es (i + 1)
def getEnt {α : Type} (k : ByteArray) (es : EntsOfT α) : Option α := (findEnt k es 0).map (·.2)
def putEnt {α : Type} (k : ByteArray) (v : α) : EntsOfT α → EntsOfT α
  | [] => [(k, v)]
  | e :: es => if k == e.1 then (k, v) :: es else e :: putEnt k v es

/-- the entries of a map's block read as es -/
structure EntsOf (mes : Array MapEntry) (clock : Nat) (es : Ents) : Prop where
  reads : mes.toList.map (fun e => (e.key, e.val)) = es.map (fun p => (Value.string p.1, p.2))
  born : (mes.toList.map (·.born)).Nodup
  lt : ∀ e ∈ mes.toList, e.born < clock
  keys : (es.map (·.1)).Nodup

/-- block r is a map whose entries are es -/
def IsMap (w : World) (r : Nat) (es : Ents) : Prop := ∃ mes clock, w.heap[r]? = some (.map mes clock) ∧ EntsOf mes clock es

theorem IsMap.lt {w : World} {r : Nat} {es : Ents} (h : IsMap w r es) : r < w.heap.size := by
  obtain ⟨mes, clock, hh, _⟩ := h
  exact (Array.getElem?_eq_some_iff.1 hh).1
theorem IsMap.keep {w w' : World} {r : Nat} {es : Ents} (h : IsMap w r es) (hb : w'.heap[r]? = w.heap[r]?) : IsMap w' r es := by
  obtain ⟨mes, clock, hh, he⟩ := h
  exact ⟨mes, clock, hb.trans hh, he⟩
theorem IsMap.mv {a b : World} {X Y : List Nat} {r : Nat} {es : Ents} (h : IsMap a r es) (hm : Mv a X b Y) (hx : r ∉ X) : IsMap b r es := h.keep (hm.block r h.lt hx).1
theorem IsMap.ext {a b : World} {r : Nat} {es : Ents} (h : IsMap a r es) (e : Ext a b) : IsMap b r es := h.keep (e.below.block r h.lt)

theorem findNow_ents (k : ByteArray) : ∀ (l : List MapEntry) (es : Ents) (i : Nat), l.map (fun e => (e.key, e.val)) = es.map (fun p => (Value.string p.1, p.2)) →
    Instr.findNow .string (.string k) l i = some (findEnt k es i)
  | [], [], i, _ => rfl
  | [], _ :: _, i, h => by simp at h
  | _ :: _, [], i, h => by simp at h
  | e :: l, p :: es, i, h => by
    simp only [List.map_cons, List.cons.injEq, Prod.mk.injEq] at h
    obtain ⟨⟨h1, h2⟩, h3⟩ := h
    simp only [Instr.findNow, h1, Instr.sameNow, findEnt]
    cases hb : k == p.1 with
    | true => simp [h2]
    | false => simpa using findNow_ents k l es (i + 1) h3

theorem findEnt_bound {α : Type} {k : ByteArray} : ∀ {es : EntsOfT α} {i j : Nat} {v : α}, findEnt k es i = some (j, v) → i ≤ j ∧ es[j - i]? = some (k, v)
  | [], _, _, _, h => by simp [findEnt] at h
  | e :: es, i, j, v, h => by
    simp only [findEnt] at h
    split at h
    · rename_i hk
      simp only [Option.some.injEq, Prod.mk.injEq] at h
      obtain ⟨rfl, rfl⟩ := h
      have : k = e.1 := by simpa using hk
      simp [this]
    · have := findEnt_bound h
      refine ⟨by omega, ?_⟩
      rw [show j - i = (j - (i + 1)) + 1 from by omega]
      simpa using this.2

theorem findEnt_none {α : Type} {k : ByteArray} : ∀ {es : EntsOfT α} {i : Nat}, findEnt k es i = none ↔ k ∉ es.map (·.1)
  | [], _ => by simp [findEnt]
  | e :: es, i => by
    simp only [findEnt, List.map_cons, List.mem_cons, not_or]
    split
    · rename_i hk
      have : k = e.1 := by simpa using hk
      simp [this]
    · rename_i hk
      rw [findEnt_none]
      have : ¬ k = e.1 := by simpa using hk
      simp [this]

theorem putEnt_none {α : Type} {k : ByteArray} {v : α} : ∀ {es : EntsOfT α}, k ∉ es.map (·.1) → putEnt k v es = es ++ [(k, v)]
  | [], _ => rfl
  | e :: es, h => by
    simp only [List.map_cons, List.mem_cons, not_or] at h
    simp only [putEnt]
    rw [if_neg (by simpa using h.1), putEnt_none h.2]
    rfl

theorem putEnt_some {α : Type} {k : ByteArray} {v : α} : ∀ {es : EntsOfT α} {i j : Nat} {u : α}, findEnt k es i = some (j, u) → putEnt k v es = es.set (j - i) (k, v)
  | [], _, _, _, h => by simp [findEnt] at h
  | e :: es, i, j, u, h => by
    simp only [findEnt] at h
    simp only [putEnt]
    split at h
    · rename_i hk
      simp only [Option.some.injEq, Prod.mk.injEq] at h
      obtain ⟨rfl, rfl⟩ := h
      simp [hk]
    · rename_i hk
      rw [if_neg hk, putEnt_some h, show j - i = (j - (i + 1)) + 1 from by have := findEnt_bound h; omega]
      rfl

theorem putEnt_keys {α : Type} {k : ByteArray} {v : α} {es : EntsOfT α} (h : (es.map (·.1)).Nodup) : ((putEnt k v es).map (·.1)).Nodup := by
  cases hf : findEnt k es 0 with
  | none =>
    rw [findEnt_none] at hf
    rw [putEnt_none hf, List.map_append, List.nodup_append]
    refine ⟨h, by simp, ?_⟩
    intro a ha b hb
    simp only [List.map_cons, List.map_nil, List.mem_singleton] at hb
    subst hb
    intro e
    subst e
    exact hf ha
  | some p =>
    obtain ⟨j, u⟩ := p
    have hb := findEnt_bound hf
    rw [putEnt_some hf, List.map_set]
    simp only [Nat.sub_zero] at hb ⊢
    have : (es.map (·.1)).set j k = es.map (·.1) := by
      apply List.ext_getElem?
      intro n
      by_cases e : j = n
      · subst e
        rw [List.getElem?_set]
        have := hb.2
        simp [this]
        exact (List.getElem?_eq_some_iff.1 this).1
      · simp [e]
    rw [this]
    exact h

section
variable {P : Program} {w : World} {T K E : TypeId}

theorem run_findKey_ents (hK : P.underlying K = some .string) (k : ByteArray) {mes : Array MapEntry} {clock : Nat} {es : Ents} (h : EntsOf mes clock es) :
    (Instr.findKey K (.string k) mes.toList).run P w = .ok (findEnt k es 0) w := by
  simp [Instr.findKey, run_underlying hK, findNow_ents k mes.toList es 0 h.reads]

theorem run_checkKey_succ (hK : P.underlying K = some .string) (b : Bool) (k : ByteArray) (n : Nat) : (Instr.checkKey b (n + 1) K (.string k)).run P w = .ok () w := by
  rw [Instr.checkKey]
  simp [run_underlying hK]
theorem run_checkKey_str (hK : P.underlying K = some .string) (b : Bool) (k : ByteArray) : (Instr.checkKey b 10000 K (.string k)).run P w = .ok () w := run_checkKey_succ hK b k 9999

theorem run_getObj_ents {r : Nat} {mes : Array MapEntry} {clock : Nat} (hh : w.heap[r]? = some (.map mes clock)) : (getObj r).run P w = .ok (.map mes clock) w := by
  simp [getObj, Sem.run, hh]
theorem run_setObj_ents {r : Nat} {mes : Array MapEntry} {clock : Nat} (o : Obj) (hh : w.heap[r]? = some (.map mes clock)) : (setObj r o).run P w = .ok () { w with heap := w.heap.setIfInBounds r o } := by
  simp [setObj, Sem.run, hh]

theorem grownBy_set (w : World) (r : Nat) (o : Obj) : w.grownBy { w with heap := w.heap.setIfInBounds r o } (some r) :=
  ⟨rfl, rfl, rfl, by simp, fun k _ hk => by
    show (w.heap.setIfInBounds r o)[k]? = _
    rw [Array.getElem?_setIfInBounds, if_neg (fun e => hk (by rw [e]))]⟩

/-- 'm[k] = v' -/
theorem run_mapUpdate_ents (hT : P.underlying T = some (.map K E)) (hK : P.underlying K = some .string) {r : Nat} {es : Ents} (hm : IsMap w r es) (k : ByteArray) (v : Value) :
    ∃ w', (Instr.mapUpdate T (.map (some r)) (.string k) v).run P w = .ok () w' ∧ IsMap w' r (putEnt k v es) ∧ w.grownBy w' (some r) ∧ w'.heap.size = w.heap.size := by
  obtain ⟨mes, clock, hh, he⟩ := hm
  have hr : r < w.heap.size := (Array.getElem?_eq_some_iff.1 hh).1
  have hlen : mes.size = es.length := by have := congrArg List.length he.reads; simpa using this
  cases hf : findEnt k es 0 with
  | none =>
    refine ⟨_, ?_, ?_, grownBy_set w r (.map (mes.push { key := .string k, val := v, born := clock }) (clock + 1)), by simp⟩
    · simp [Instr.mapUpdate, run_underlying hT, run_getObj_ents hh, run_checkKey_str hK, run_findKey_ents hK k he, hf, run_setObj_ents _ hh]
    · refine ⟨mes.push { key := .string k, val := v, born := clock }, clock + 1, by simp [hr], ⟨?_, ?_, ?_, putEnt_keys he.keys⟩⟩
      · rw [findEnt_none] at hf
        rw [putEnt_none hf]
        simp [he.reads]
      · simp only [Array.toList_push, List.map_append, List.map_cons, List.map_nil, List.nodup_append]
        refine ⟨he.born, by simp, ?_⟩
        intro a ha b hb
        simp only [List.mem_singleton] at hb
        obtain ⟨x, hx, rfl⟩ := List.mem_map.1 ha
        have := he.lt x hx
        omega
      · intro e hm
        simp only [Array.toList_push, List.mem_append, List.mem_singleton] at hm
        rcases hm with hm | rfl
        · have := he.lt e hm; omega
        · exact Nat.lt_succ_self _
  | some p =>
    obtain ⟨j, u⟩ := p
    have hb := findEnt_bound hf
    simp only [Nat.zero_le, Nat.sub_zero, true_and] at hb
    have hj : j < mes.size := by rw [hlen]; exact (List.getElem?_eq_some_iff.1 hb).1
    have hkey : mes[j].key = .string k := by
      have h2 := congrArg (fun l => l[j]?) he.reads
      simp only [List.getElem?_map, hb, Array.getElem?_toList, Array.getElem?_eq_getElem hj, Option.map_some, Option.some.injEq, Prod.mk.injEq] at h2
      exact h2.1
    refine ⟨_, ?_, ?_, grownBy_set w r (.map (mes.modify j fun e => { e with key := .string k, val := v }) clock), by simp⟩
    · simp [Instr.mapUpdate, run_underlying hT, run_getObj_ents hh, run_checkKey_str hK, run_findKey_ents hK k he, hf, run_setObj_ents _ hh, Instr.keyThatStays, hj, hkey, Instr.sameBits]
    · refine ⟨mes.modify j fun e => { e with key := .string k, val := v }, clock, by simp [hr], ⟨?_, ?_, ?_, putEnt_keys he.keys⟩⟩
      · rw [putEnt_some hf, Nat.sub_zero, List.map_set]
        rw [← he.reads]
        apply List.ext_getElem?
        intro n
        simp only [List.getElem?_map, Array.getElem?_toList, Array.getElem?_modify, List.getElem?_set, List.length_map, Array.length_toList]
        by_cases e : j = n
        · subst e; simp [hj]
        · simp [e]
      · have : (mes.modify j fun e => { e with key := .string k, val := v }).toList.map (·.born) = mes.toList.map (·.born) := by
          apply List.ext_getElem?
          intro n
          simp only [List.getElem?_map, Array.getElem?_toList, Array.getElem?_modify]
          by_cases e : j = n
          · subst e; simp [hj]
          · simp [e]
        rw [this]
        exact he.born
      · intro e hm
        obtain ⟨n, hn⟩ := List.mem_iff_getElem?.1 hm
        simp only [Array.getElem?_toList, Array.getElem?_modify] at hn
        by_cases e' : j = n
        · subst e'
          simp [hj] at hn
          subst hn
          exact he.lt mes[j] (by simp)
        · simp [e'] at hn
          exact he.lt e (by rw [List.mem_iff_getElem?]; exact ⟨n, by simpa using hn⟩)

/-- 'v, ok := m[k]' -/
theorem run_lookup_ents_ok (hT : P.underlying T = some (.map K E)) (hK : P.underlying K = some .string) {r : Nat} {es : Ents} (hm : IsMap w r es) (k : ByteArray) (z : Value) (hz : (zeroValue E).run P w = .ok z w) :
    (Instr.lookup T (.map (some r)) (.string k) true).run P w = .ok (.tuple #[(getEnt k es).getD z, .bool (getEnt k es).isSome]) w := by
  obtain ⟨mes, clock, hh, he⟩ := hm
  cases hf : findEnt k es 0 with
  | none => simp [Instr.lookup, run_underlying hT, run_getObj_ents hh, run_checkKey_str hK, run_findKey_ents hK k he, hf, hz, getEnt]
  | some p => obtain ⟨j, u⟩ := p; simp [Instr.lookup, run_underlying hT, run_getObj_ents hh, run_checkKey_str hK, run_findKey_ents hK k he, hf, getEnt]
/-- 'len(m)' -/
theorem run_len_ents (hT : P.underlying T = some (.map K E)) (ty : TypeId) {r : Nat} {es : Ents} (hm : IsMap w r es) :
    (Builtin.len_ #[T] ty #[.map (some r)]).run P w = .ok (.int .i64 es.length) w := by
  obtain ⟨mes, clock, hh, he⟩ := hm
  have hlen : mes.size = es.length := by have := congrArg List.length he.reads; simpa using this
  simp [Builtin.len_, run_underlying hT, run_getObj_ents hh, goInt, hlen]

end

end Go.Proofs.YtihapgangilncaaGreat
namespace Go.Proofs.YtihapgangilncaaGreat
open Go.RowKit

/-- the iterator in block it goes over the map in block r, whose entries are es; the entries at the places of done have been visited, in this order -/
structure IterAt (w : World) (it r : Nat) (es : Ents) (done : List Nat) : Prop where
  ex : ∃ mes clock seen, w.heap[r]? = some (.map mes clock) ∧ EntsOf mes clock es ∧ w.heap[it]? = some (.mapIter (some r) clock seen clock) ∧
    seen.toList = done.map (fun i => ((mes[i]?).map (·.born)).getD 0) ∧ ∀ i ∈ done, i < mes.size
  nodup : done.Nodup

theorem IterAt.lt {w : World} {it r : Nat} {es : Ents} {done : List Nat} (h : IterAt w it r es done) : it < w.heap.size ∧ r < w.heap.size ∧ it ≠ r := by
  obtain ⟨mes, clock, seen, h1, _, h2, _⟩ := h.ex
  refine ⟨(Array.getElem?_eq_some_iff.1 h2).1, (Array.getElem?_eq_some_iff.1 h1).1, ?_⟩
  rintro rfl
  rw [h1] at h2
  cases h2
theorem IterAt.map {w : World} {it r : Nat} {es : Ents} {done : List Nat} (h : IterAt w it r es done) : IsMap w r es := by
  obtain ⟨mes, clock, seen, h1, h2, _⟩ := h.ex
  exact ⟨mes, clock, h1, h2⟩
theorem IterAt.keep {w w' : World} {it r : Nat} {es : Ents} {done : List Nat} (h : IterAt w it r es done) (hi : w'.heap[it]? = w.heap[it]?) (hr : w'.heap[r]? = w.heap[r]?) : IterAt w' it r es done := by
  obtain ⟨mes, clock, seen, h1, h2, h3, h4⟩ := h.ex
  exact ⟨⟨mes, clock, seen, hr.trans h1, h2, hi.trans h3, h4⟩, h.nodup⟩
theorem IterAt.ext {w w' : World} {it r : Nat} {es : Ents} {done : List Nat} (h : IterAt w it r es done) (e : Ext w w') : IterAt w' it r es done :=
  h.keep (e.below.block _ h.lt.1) (e.below.block _ h.lt.2.1)

theorem nodup_born {mes : Array MapEntry} (h : (mes.toList.map (·.born)).Nodup) {i j : Nat} {x y : MapEntry} (hi : mes[i]? = some x) (hj : mes[j]? = some y) (e : x.born = y.born) : i = j := by
  have h1 : i < (mes.toList.map (·.born)).length := by simpa using (Array.getElem?_eq_some_iff.1 hi).1
  refine (List.getElem?_inj h1 h).1 ?_
  simp [hi, hj, e]

section
variable {P : Program} {w : World}

theorem run_range_ents {T K E : TypeId} (hT : P.underlying T = some (.map K E)) {r : Nat} {es : Ents} (hm : IsMap w r es) :
    ∃ o, (Instr.range T (.map (some r))).run P w = .ok (.pointer (some ⟨w.heap.size, 0, none⟩)) (w.alloc o) ∧ IterAt (w.alloc o) w.heap.size r es [] := by
  obtain ⟨mes, clock, hh, he⟩ := hm
  have hr : r < w.heap.size := (Array.getElem?_eq_some_iff.1 hh).1
  refine ⟨.mapIter (some r) clock #[] clock, ?_, ⟨⟨mes, clock, #[], ?_, he, ?_, by simp, by simp⟩, by simp⟩⟩
  · simp [Instr.range, run_underlying hT, run_getObj_ents hh]
  · exact (Ext.alloc w _).below.block r hr ▸ hh
  · show (w.heap.push _)[w.heap.size]? = _
    simp

theorem iter_left {mes : Array MapEntry} {done : List Nat} {seen : Array Nat}
    (hs : seen.toList = done.map (fun i => ((mes[i]?).map (·.born)).getD 0)) {e : MapEntry} (hm : e ∈ mes.filter fun e => !seen.contains e.born) :
    ∃ i, i < mes.size ∧ mes[i]? = some e ∧ i ∉ done := by
  simp only [Array.mem_filter, Bool.not_eq_true', Array.contains_eq_mem, decide_eq_false_iff_not] at hm
  obtain ⟨h1, h2⟩ := hm
  obtain ⟨i, hi, rfl⟩ := Array.mem_iff_getElem.1 h1
  refine ⟨i, hi, by simp [hi], fun hin => h2 ?_⟩
  rw [← Array.mem_toList_iff, hs]
  exact List.mem_map.2 ⟨i, hin, by simp [hi]⟩

theorem iter_none {mes : Array MapEntry} {clock : Nat} {es : Ents} (he : EntsOf mes clock es) {done : List Nat} {seen : Array Nat}
    (hs : seen.toList = done.map (fun i => ((mes[i]?).map (·.born)).getD 0)) (hd : ∀ i ∈ done, i < mes.size) (hm : mes.filter (fun e => !seen.contains e.born) = #[]) :
    ∀ i, i < mes.size → i ∈ done := by
  intro i hi
  by_cases hin : i ∈ done
  · exact hin
  · exfalso
    have : mes[i] ∈ mes.filter (fun e => !seen.contains e.born) := by
      simp only [Array.mem_filter, Bool.not_eq_true', Array.contains_eq_mem, decide_eq_false_iff_not]
      refine ⟨by simp, fun h => ?_⟩
      rw [← Array.mem_toList_iff, hs] at h
      obtain ⟨j, hj, e⟩ := List.mem_map.1 h
      have hjl := hd j hj
      simp only [Array.getElem?_eq_getElem hjl, Option.map_some, Option.getD_some] at e
      have := nodup_born he.born (i := j) (j := i) (by simp [hjl]) (by simp [hi]) e
      subst this
      exact hin hj
    rw [hm] at this
    simp at this

theorem run_choose_next (w : World) (n : Nat) (hn : 0 < n) : ∃ j w1, j < n ∧ (choose (.mapNext n)).run P w = .ok j w1 ∧ (w1 = w ∨ w1 = w.drew) := by
  by_cases h1 : n ≤ 1
  · exact ⟨0, w, hn, by simp only [choose, Sem.run]; rw [if_pos (by simp [Question.forced, h1])], .inl rfl⟩
  · refine ⟨w.tape w.drawn (.mapNext n) % n, w.drew, Nat.mod_lt _ hn, ?_, .inr rfl⟩
    simp only [choose, Sem.run]
    rw [if_neg (by simp [Question.forced, h1])]
    rfl

theorem run_next_ents (ty : TypeId) {it r : Nat} {es : Ents} {done : List Nat} (h : IterAt w it r es done) :
    (∃ i, ∃ hi : i < es.length, i ∉ done ∧ ∃ w', (Instr.next (.pointer (some ⟨it, 0, none⟩)) false ty).run P w = .ok (.tuple #[.bool true, .string (es[i]).1, (es[i]).2]) w' ∧
      IterAt w' it r es (done ++ [i]) ∧ w.grownBy w' (some it) ∧ w'.heap.size = w.heap.size) ∨
    ((∀ i, i < es.length → i ∈ done) ∧ (Instr.next (.pointer (some ⟨it, 0, none⟩)) false ty).run P w = .ok (.tuple #[.bool false]) w) := by
  have hlt := h.lt
  obtain ⟨⟨mes, clock, seen, h1, he, h2, hs, hd⟩, hnd⟩ := h
  have hlen : mes.size = es.length := by have := congrArg List.length he.reads; simpa using this
  have hgi : (getObj it).run P w = .ok (.mapIter (some r) clock seen clock) w := by simp [getObj, Sem.run, h2]
  have hall : (!seen.isEmpty && !mes.isEmpty && mes.all (fun e => decide (e.born ≥ clock))) = false := by
    by_cases hm : mes.size = 0
    · have : mes = #[] := Array.eq_empty_of_size_eq_zero hm
      simp [this]
    · rw [Bool.eq_false_iff]
      intro hc
      simp only [Bool.and_eq_true, Array.all_eq_true, decide_eq_true_eq] at hc
      have h3 := hc.2 0 (by omega)
      have h4 := he.lt mes[0] (by simp)
      omega
  have hold : (mes.filter fun e => !seen.contains e.born).filter (fun e => decide (e.born < clock)) = mes.filter fun e => !seen.contains e.born := by
    rw [Array.filter_eq_self]
    intro e hm
    have := (Array.mem_filter.1 hm).1
    simpa using he.lt e (by simpa using this)
  have hnew : (mes.filter fun e => !seen.contains e.born).filter (fun e => decide (e.born ≥ clock)) = #[] := by
    rw [Array.filter_eq_empty_iff]
    intro e hm
    have := (Array.mem_filter.1 hm).1
    have := he.lt e (by simpa using this)
    simp; omega
  by_cases hleft : mes.filter (fun e => !seen.contains e.born) = #[]
  · right
    refine ⟨fun i hi => iter_none he hs hd hleft i (by omega), ?_⟩
    simp only [Instr.next, Sem.run_bind, hgi, Result.andThen_ok, run_getObj_ents h1, hall, hold, hnew, Bool.false_eq_true, if_false]
    have hc : (choose (.mapNext 1)).run P w = .ok 0 w := by
      simp only [choose, Sem.run]
      rw [if_pos (by simp [Question.forced])]
    have e1 : (((if (#[] : Array MapEntry).isEmpty = true then #[none] else #[]) ++ Array.map some (#[] ++ #[])) : Array (Option MapEntry)) = #[none] := by simp
    rw [hleft, e1]
    show ((choose (.mapNext 1)).run P w).andThen _ = _
    rw [hc]
    rfl
  · left
    obtain ⟨j, w1, hj, hc, hw1⟩ := run_choose_next (P := P) w (mes.filter (fun e => !seen.contains e.born)).size (by
      rcases Nat.eq_zero_or_pos (mes.filter (fun e => !seen.contains e.born)).size with h0 | h0
      · exact absurd (Array.eq_empty_of_size_eq_zero h0) hleft
      · exact h0)
    have hmem : (mes.filter (fun e => !seen.contains e.born))[j] ∈ mes.filter (fun e => !seen.contains e.born) := Array.getElem_mem hj
    obtain ⟨i, hi, hie, hnot⟩ := iter_left hs hmem
    have hreads := congrArg (fun l => l[i]?) he.reads
    have hies : i < es.length := by omega
    simp only [List.getElem?_map, Array.getElem?_toList, hie, Option.map_some, List.getElem?_eq_getElem hies, Option.some.injEq, Prod.mk.injEq] at hreads
    have hg1 : w.grownBy w1 (some it) ∧ w1.heap = w.heap := by
      rcases hw1 with rfl | rfl
      · exact ⟨⟨rfl, rfl, rfl, Nat.le_refl _, fun _ _ _ => rfl⟩, rfl⟩
      · exact ⟨⟨rfl, rfl, rfl, Nat.le_refl _, fun _ _ _ => rfl⟩, rfl⟩
    have h2' : w1.heap[it]? = some (.mapIter (some r) clock seen clock) := by rw [hg1.2]; exact h2
    have hset : (setObj it (.mapIter (some r) clock (seen.push (mes.filter (fun e => !seen.contains e.born))[j].born) clock)).run P w1 =
        .ok () { w1 with heap := w1.heap.setIfInBounds it (.mapIter (some r) clock (seen.push (mes.filter (fun e => !seen.contains e.born))[j].born) clock) } := by simp [setObj, Sem.run, h2']
    refine ⟨i, hies, hnot, { w1 with heap := w1.heap.setIfInBounds it (.mapIter (some r) clock (seen.push (mes.filter (fun e => !seen.contains e.born))[j].born) clock) }, ?_, ⟨⟨mes, clock, seen.push (mes.filter (fun e => !seen.contains e.born))[j].born, ?_, he, ?_, ?_, ?_⟩, ?_⟩, ?_, ?_⟩
    · simp only [Instr.next, Sem.run_bind, hgi, Result.andThen_ok, run_getObj_ents h1, hall, hold, hnew, Bool.false_eq_true, if_false]
      have hne : (mes.filter (fun e => !seen.contains e.born)).isEmpty = false := by simpa using hleft
      simp only [hne, Bool.false_eq_true, if_false, Array.empty_append, Array.append_empty, Array.size_map, hc, Result.andThen_ok, Array.getElem?_map, Array.getElem?_eq_getElem hj, Option.map_some, Sem.run_bind, hset, Sem.run_pure]
      rw [hreads.1, hreads.2]
    · show (w1.heap.setIfInBounds it _)[r]? = _
      rw [Array.getElem?_setIfInBounds, if_neg hlt.2.2, hg1.2]
      exact h1
    · show (w1.heap.setIfInBounds it _)[it]? = _
      rw [Array.getElem?_setIfInBounds, if_pos rfl, if_pos (by rw [hg1.2]; exact hlt.1)]
    · simp only [Array.toList_push, hs, List.map_append, List.map_cons, List.map_nil, hie, Option.map_some, Option.getD_some]
    · intro k hk
      simp only [List.mem_append, List.mem_singleton] at hk
      rcases hk with hk | rfl
      · exact hd k hk
      · exact hi
    · rw [List.nodup_append]
      refine ⟨hnd, by simp, ?_⟩
      intro a ha b hb
      simp only [List.mem_singleton] at hb
      subst hb
      intro e
      subst e
      exact hnot ha
    · have h3 := grownBy_set w1 it (.mapIter (some r) clock (seen.push (mes.filter (fun e => !seen.contains e.born))[j].born) clock)
      exact ⟨h3.os.trans hg1.1.os, h3.tape.trans hg1.1.tape, h3.output.trans hg1.1.output, Nat.le_trans hg1.1.size h3.size, fun k hk hne => (h3.block k (by rw [hg1.2]; exact hk) hne).trans (hg1.1.block k hk hne)⟩
    · simp [hg1.2]

theorem run_entry_ents {it r : Nat} {es : Ents} {done : List Nat} {i : Nat} (hi : i < es.length) (h : IterAt w it r es (done ++ [i])) :
    (Instr.entry (.pointer (some ⟨it, 0, none⟩))).run P w = .ok (.tuple #[.string (es[i]).1, (es[i]).2]) w := by
  obtain ⟨⟨mes, clock, seen, h1, he, h2, hs, hd⟩, hnd⟩ := h
  have hgi : (getObj it).run P w = .ok (.mapIter (some r) clock seen clock) w := by simp [getObj, Sem.run, h2]
  have him : i < mes.size := hd i (by simp)
  have hback : seen.back? = some mes[i].born := by
    rw [← Array.getLast?_toList, hs]
    simp [him]
  have hfind : mes.find? (fun e => e.born == mes[i].born) = some mes[i] := by
    rw [Array.find?_eq_some_iff_getElem]
    refine ⟨by simp, i, him, rfl, fun j hj => ?_⟩
    simp only [Bool.not_eq_true', beq_eq_false_iff_ne]
    intro e
    have := nodup_born he.born (i := j) (j := i) (by simp [Nat.lt_trans hj him]) (by simp [him]) e
    omega
  have hreads := congrArg (fun l => l[i]?) he.reads
  simp only [List.getElem?_map, Array.getElem?_toList, Array.getElem?_eq_getElem him, Option.map_some, List.getElem?_eq_getElem hi, Option.some.injEq, Prod.mk.injEq] at hreads
  simp [Instr.entry, hgi, run_getObj_ents h1, hback, hfind, hreads.1, hreads.2]

theorem wpL_next {ops : Array Oper} {rest : List Oper} {o : Oper} {a : Act} {Q : Exit → Act → World → Prop} (hgd : o.guard = none) (x : Operand) (ho : o.op = .next x false) {it r : Nat} {es : Ents} {done : List Nat} (hx : a.eval x = .pointer (some ⟨it, 0, none⟩)) (h : IterAt w it r es done)
    (h1 : ∀ i, ∀ hi : i < es.length, i ∉ done → ∀ w', IterAt w' it r es (done ++ [i]) → w.grownBy w' (some it) → w'.heap.size = w.heap.size → wpList P ops Q rest (a.put o.dst (.tuple #[.bool true, .string (es[i]).1, (es[i]).2])) w')
    (h2 : (∀ i, i < es.length → i ∈ done) → wpList P ops Q rest (a.put o.dst (.tuple #[.bool false])) w) : wpList P ops Q (o :: rest) a w := by
  refine wpList_plain hgd fun _ hK => ?_
  rcases run_next_ents (P := P) o.type h with ⟨i, hi, hn, w', hr, h3, h4, h5⟩ | ⟨hall, hr⟩
  · unfold Oper.wp execOp
    simp only [ho, Sem.run_bind, Sem.run_pure, Result.andThen_ok, hx, hr]
    exact hK _ _ (h1 i hi hn w' h3 h4 h5)
  · unfold Oper.wp execOp
    simp only [ho, Sem.run_bind, Sem.run_pure, Result.andThen_ok, hx, hr]
    exact hK _ _ (h2 hall)
end

end Go.Proofs.YtihapgangilncaaGreat
namespace Go.Proofs.YtihapgangilncaaGreat

theorem bl_irrefl : ∀ x : List UInt8, Op.bytesLess x x = false
  | [] => rfl
  | a :: x => by simp [Op.bytesLess, bl_irrefl x]
theorem bl_trans : ∀ {x y z : List UInt8}, Op.bytesLess x y = true → Op.bytesLess y z = true → Op.bytesLess x z = true
  | _, [], _, h, _ => by simp [Op.bytesLess] at h
  | _, _ :: _, [], _, h => by simp [Op.bytesLess] at h
  | [], _ :: _, _ :: _, _, _ => by simp [Op.bytesLess]
  | a :: x, b :: y, c :: z, h1, h2 => by
    simp only [Op.bytesLess, Bool.or_eq_true, decide_eq_true_eq, Bool.and_eq_true, beq_iff_eq] at h1 h2 ⊢
    rcases h1 with h1 | ⟨rfl, h1⟩
    · rcases h2 with h2 | ⟨rfl, h2⟩
      · exact .inl (UInt8.lt_trans h1 h2)
      · exact .inl h1
    · rcases h2 with h2 | ⟨rfl, h2⟩
      · exact .inl h2
      · exact .inr ⟨rfl, bl_trans h1 h2⟩
theorem bl_total : ∀ {x y : List UInt8}, Op.bytesLess x y = false → Op.bytesLess y x = false → x = y
  | [], [], _, _ => rfl
  | [], _ :: _, h, _ => by simp [Op.bytesLess] at h
  | _ :: _, [], _, h => by simp [Op.bytesLess] at h
  | a :: x, b :: y, h1, h2 => by
    simp only [Op.bytesLess, Bool.or_eq_false_iff, decide_eq_false_iff_not, Bool.and_eq_false_iff, beq_eq_false_iff_ne] at h1 h2
    have hab : a = b := by
      have := h1.1; have := h2.1
      exact UInt8.le_antisymm (by simpa using h2.1) (by simpa using h1.1)
    subst hab
    have h3 : Op.bytesLess x y = false := by simpa using h1.2
    have h4 : Op.bytesLess y x = false := by simpa using h2.2
    rw [bl_total h3 h4]

theorem toList_inj {a b : ByteArray} (h : a.toList = b.toList) : a = b := by
  have : (a == b) = true := by rw [beq_toListBytes, h]; simp
  simpa using this

/-- a comes before b -/
def slt (a b : ByteArray) : Bool := Op.bytesLess a.toList b.toList
theorem slt_irrefl (a : ByteArray) : slt a a = false := bl_irrefl _
theorem slt_trans {a b c : ByteArray} (h1 : slt a b = true) (h2 : slt b c = true) : slt a c = true := bl_trans h1 h2
theorem slt_total {a b : ByteArray} (h1 : slt a b = false) (h2 : slt b a = false) : a = b := toList_inj (bl_total h1 h2)
theorem slt_asymm {a b : ByteArray} (h : slt a b = true) : slt b a = false := by
  rw [Bool.eq_false_iff]
  intro h2
  have := slt_trans h h2
  rw [slt_irrefl] at this
  cases this
/-- keys in increasing order, each once -/
def Rising : List ByteArray → Prop
  | [] => True
  | k :: ks => (∀ x ∈ ks, slt k x = true) ∧ Rising ks
theorem Rising.lt {ks : List ByteArray} (h : Rising ks) : ∀ i j (hij : i < j) (hj : j < ks.length), slt (ks[i]) (ks[j]) = true := by
  induction ks with
  | nil => intro i j hij hj; simp at hj
  | cons k ks ih =>
    intro i j hij hj
    cases j with
    | zero => omega
    | succ j =>
      cases i with
      | zero => exact h.1 _ (List.getElem_mem _)
      | succ i => exact ih h.2 i j (by omega) (by simpa using hj)

/-- the number of keys ahead of key -/
def lowB (key : ByteArray) : List ByteArray → Nat
  | [] => 0
  | k :: ks => if slt k key then lowB key ks + 1 else 0
theorem lowB_le (key : ByteArray) (ks : List ByteArray) : lowB key ks ≤ ks.length := by
  induction ks with
  | nil => simp [lowB]
  | cons k ks ih => simp only [lowB]; split <;> simp; omega
theorem lowB_eq (key : ByteArray) : ∀ (ks : List ByteArray) (n : Nat), n ≤ ks.length → (∀ j (h : j < ks.length), j < n → slt (ks[j]) key = true) → (∀ h : n < ks.length, slt (ks[n]) key = false) → lowB key ks = n
  | [], n, hn, _, _ => by simp at hn; simp [lowB, hn]
  | k :: ks, n, hn, h1, h2 => by
    simp only [lowB]
    cases n with
    | zero =>
      have := h2 (by simp)
      simp at this
      simp [this]
    | succ n =>
      have h0 := h1 0 (by simp) (by omega)
      simp at h0
      simp only [h0, if_true]
      rw [lowB_eq key ks n (by simpa using hn) (fun j h hj => h1 (j + 1) (by simpa using h) (by omega)) (fun h => h2 (by simpa using h))]

/-- is key among the keys (in increasing order) -/
def hasB (key : ByteArray) (ks : List ByteArray) : Bool := if h : lowB key ks < ks.length then ks[lowB key ks] == key else false

/-- the field key with the value v in a list of fields in order -/
def insK {α : Type} (key : ByteArray) (v : α) : EntsOfT α → EntsOfT α
  | [] => [(key, v)]
  | e :: es => if slt e.1 key then e :: insK key v es else if e.1 == key then (key, v) :: es else (key, v) :: e :: es

theorem insK_eq {α : Type} (key : ByteArray) (v : α) (es : EntsOfT α) :
    insK key v es = es.take (lowB key (es.map (·.1))) ++ (key, v) :: es.drop (lowB key (es.map (·.1)) + if hasB key (es.map (·.1)) then 1 else 0) := by
  induction es with
  | nil => simp [insK, lowB, hasB]
  | cons e es ih =>
    simp only [insK, List.map_cons, lowB]
    cases hs : slt e.1 key with
    | true =>
      simp only [if_true, List.take_succ_cons, List.cons_append]
      rw [ih]
      have : hasB key (e.1 :: es.map (·.1)) = hasB key (es.map (·.1)) := by
        simp only [hasB, lowB, hs, if_true, List.length_cons]
        by_cases h : lowB key (es.map (·.1)) < (es.map (·.1)).length
        · rw [dif_pos (by omega), dif_pos h]; simp
        · rw [dif_neg (by omega), dif_neg h]
      rw [this]
      congr 2
      rw [show lowB key (es.map (·.1)) + 1 + (if hasB key (es.map (·.1)) = true then 1 else 0) = (lowB key (es.map (·.1)) + if hasB key (es.map (·.1)) = true then 1 else 0) + 1 from by omega]
      simp
    | false =>
      have : hasB key (e.1 :: es.map (·.1)) = (e.1 == key) := by simp [hasB, lowB, hs]
      rw [this]
      cases hk : e.1 == key <;> simp

theorem insK_mem {α : Type} {key : ByteArray} {v : α} {es : EntsOfT α} {p : ByteArray × α} (h : p ∈ insK key v es) : p = (key, v) ∨ p ∈ es := by
  induction es with
  | nil => simpa [insK] using h
  | cons e es ih =>
    simp only [insK] at h
    split at h
    · simp only [List.mem_cons] at h ⊢
      rcases h with h | h
      · exact .inr (.inl h)
      · rcases ih h with h | h
        · exact .inl h
        · exact .inr (.inr h)
    · split at h
      · simp only [List.mem_cons] at h ⊢
        rcases h with h | h
        · exact .inl h
        · exact .inr (.inr h)
      · simpa using h

theorem insK_rising {α : Type} {key : ByteArray} {v : α} {es : EntsOfT α} (h : Rising (es.map (·.1))) : Rising ((insK key v es).map (·.1)) := by
  induction es with
  | nil => simp [insK, Rising]
  | cons e es ih =>
    simp only [List.map_cons, Rising] at h
    simp only [insK]
    cases hs : slt e.1 key with
    | true =>
      simp only [if_true, List.map_cons, Rising]
      refine ⟨fun x hx => ?_, ih h.2⟩
      obtain ⟨p, hp, rfl⟩ := List.mem_map.1 hx
      rcases insK_mem hp with rfl | hp
      · exact hs
      · exact h.1 _ (List.mem_map.2 ⟨p, hp, rfl⟩)
    | false =>
      simp only [Bool.false_eq_true, if_false]
      cases hk : e.1 == key with
      | true =>
        have : e.1 = key := by simpa using hk
        subst this
        simpa [Rising] using h
      | false =>
        have hne : ¬ e.1 = key := by simpa using hk
        have hlt : slt key e.1 = true := by
          cases h3 : slt key e.1 with
          | true => rfl
          | false => exact absurd (slt_total hs h3) hne
        simp only [Bool.false_eq_true, if_false, List.map_cons, Rising]
        refine ⟨fun x hx => ?_, h.1, h.2⟩
        simp only [List.mem_cons] at hx
        rcases hx with rfl | hx
        · exact hlt
        · exact slt_trans hlt (h.1 x hx)

theorem insK_length {α : Type} (key : ByteArray) (v : α) (es : EntsOfT α) : (insK key v es).length ≤ es.length + 1 := by
  induction es with
  | nil => simp [insK]
  | cons e es ih => simp only [insK]; split <;> (try split) <;> simp; omega

end Go.Proofs.YtihapgangilncaaGreat
