/- Going over a map with string keys: each entry once, in some order. -/
import Derived.Test.YtihapgangilncaaGreatKEStr
namespace Go.Proofs.YtihapgangilncaaGreat
open Go.RowKit

/-- the iterator in block it goes over the map in block r, whose entries are es; the entries at the places of done have been visited, in this order -/
structure IterAt (w : World) (it r : Nat) (es : Ents) (done : List Nat) : Prop where
  ex : ∃ mes clock seen, w.heap[r]? = some (.map mes clock) ∧ EntsOf mes clock es ∧ w.heap[it]? = some (.mapIter (some r) clock seen clock) ∧
    seen.toList = done.map (fun i => ((mes[i]?).map (·.born)).getD 0) ∧ ∀ i ∈ done, i < mes.size
  nodup : done.Nodup

theorem IterAt.lt {w : World} {it r : Nat} {es : Ents} {done : List Nat} (h : IterAt w it r es done) : it < w.heap.size ∧ r < w.heap.size ∧ it ≠ r := by
  obtain ⟨mes, clock, seen, h1, _, h2, _⟩ := h.ex
  refine ⟨(Array.getElem?_eq_some_iff.1 h2).1, (Array.getElem?_eq_some_iff.1 h1).1, ?_⟩
  rintro rfl
  rw [h1] at h2
  cases h2
theorem IterAt.map {w : World} {it r : Nat} {es : Ents} {done : List Nat} (h : IterAt w it r es done) : IsMap w r es := by
  obtain ⟨mes, clock, seen, h1, h2, _⟩ := h.ex
  exact ⟨mes, clock, h1, h2⟩
theorem IterAt.keep {w w' : World} {it r : Nat} {es : Ents} {done : List Nat} (h : IterAt w it r es done) (hi : w'.heap[it]? = w.heap[it]?) (hr : w'.heap[r]? = w.heap[r]?) : IterAt w' it r es done := by
  obtain ⟨mes, clock, seen, h1, h2, h3, h4⟩ := h.ex
  exact ⟨⟨mes, clock, seen, hr.trans h1, h2, hi.trans h3, h4⟩, h.nodup⟩
theorem IterAt.ext {w w' : World} {it r : Nat} {es : Ents} {done : List Nat} (h : IterAt w it r es done) (e : Ext w w') : IterAt w' it r es done :=
  h.keep (e.below.block _ h.lt.1) (e.below.block _ h.lt.2.1)

theorem nodup_born {mes : Array MapEntry} (h : (mes.toList.map (·.born)).Nodup) {i j : Nat} {x y : MapEntry} (hi : mes[i]? = some x) (hj : mes[j]? = some y) (e : x.born = y.born) : i = j := by
  have h1 : i < (mes.toList.map (·.born)).length := by simpa using (Array.getElem?_eq_some_iff.1 hi).1
  refine (List.getElem?_inj h1 h).1 ?_
  simp [hi, hj, e]

section
variable {P : Program} {w : World}

theorem run_range_ents {T K E : TypeId} (hT : P.underlying T = some (.map K E)) {r : Nat} {es : Ents} (hm : IsMap w r es) :
    ∃ o, (Instr.range T (.map (some r))).run P w = .ok (.pointer (some ⟨w.heap.size, 0, none⟩)) (w.alloc o) ∧ IterAt (w.alloc o) w.heap.size r es [] := by
  obtain ⟨mes, clock, hh, he⟩ := hm
  have hr : r < w.heap.size := (Array.getElem?_eq_some_iff.1 hh).1
  refine ⟨.mapIter (some r) clock #[] clock, ?_, ⟨⟨mes, clock, #[], ?_, he, ?_, by simp, by simp⟩, by simp⟩⟩
  · simp [Instr.range, run_underlying hT, run_getObj_ents hh]
  · exact (Ext.alloc w _).below.block r hr ▸ hh
  · show (w.heap.push _)[w.heap.size]? = _
    simp

theorem iter_left {mes : Array MapEntry} {done : List Nat} {seen : Array Nat}
    (hs : seen.toList = done.map (fun i => ((mes[i]?).map (·.born)).getD 0)) {e : MapEntry} (hm : e ∈ mes.filter fun e => !seen.contains e.born) :
    ∃ i, i < mes.size ∧ mes[i]? = some e ∧ i ∉ done := by
  simp only [Array.mem_filter, Bool.not_eq_true', Array.contains_eq_mem, decide_eq_false_iff_not] at hm
  obtain ⟨h1, h2⟩ := hm
  obtain ⟨i, hi, rfl⟩ := Array.mem_iff_getElem.1 h1
  refine ⟨i, hi, by simp [hi], fun hin => h2 ?_⟩
  rw [← Array.mem_toList_iff, hs]
  exact List.mem_map.2 ⟨i, hin, by simp [hi]⟩

theorem iter_none {mes : Array MapEntry} {clock : Nat} {es : Ents} (he : EntsOf mes clock es) {done : List Nat} {seen : Array Nat}
    (hs : seen.toList = done.map (fun i => ((mes[i]?).map (·.born)).getD 0)) (hd : ∀ i ∈ done, i < mes.size) (hm : mes.filter (fun e => !seen.contains e.born) = #[]) :
    ∀ i, i < mes.size → i ∈ done := by
  intro i hi
  by_cases hin : i ∈ done
  · exact hin
  · exfalso
    have : mes[i] ∈ mes.filter (fun e => !seen.contains e.born) := by
      simp only [Array.mem_filter, Bool.not_eq_true', Array.contains_eq_mem, decide_eq_false_iff_not]
      refine ⟨by simp, fun h => ?_⟩
      rw [← Array.mem_toList_iff, hs] at h
      obtain ⟨j, hj, e⟩ := List.mem_map.1 h
      have hjl := hd j hj
      simp only [Array.getElem?_eq_getElem hjl, Option.map_some, Option.getD_some] at e
      have := nodup_born he.born (i := j) (j := i) (by simp [hjl]) (by simp [hi]) e
      subst this
      exact hin hj
    rw [hm] at this
    simp at this

theorem run_choose_next (w : World) (n : Nat) (hn : 0 < n) : ∃ j w1, j < n ∧ (choose (.mapNext n)).run P w = .ok j w1 ∧ (w1 = w ∨ w1 = w.drew) := by
  by_cases h1 : n ≤ 1
  · exact ⟨0, w, hn, by simp only [choose, Sem.run]; rw [if_pos (by simp [Question.forced, h1])], .inl rfl⟩
  · refine ⟨w.tape w.drawn (.mapNext n) % n, w.drew, Nat.mod_lt _ hn, ?_, .inr rfl⟩
    simp only [choose, Sem.run]
    rw [if_neg (by simp [Question.forced, h1])]
    rfl

theorem run_next_ents (ty : TypeId) {it r : Nat} {es : Ents} {done : List Nat} (h : IterAt w it r es done) :
    (∃ i, ∃ hi : i < es.length, i ∉ done ∧ ∃ w', (Instr.next (.pointer (some ⟨it, 0, none⟩)) false ty).run P w = .ok (.tuple #[.bool true, .string (es[i]).1, (es[i]).2]) w' ∧
      IterAt w' it r es (done ++ [i]) ∧ w.grownBy w' (some it) ∧ w'.heap.size = w.heap.size) ∨
    ((∀ i, i < es.length → i ∈ done) ∧ (Instr.next (.pointer (some ⟨it, 0, none⟩)) false ty).run P w = .ok (.tuple #[.bool false]) w) := by
  have hlt := h.lt
  obtain ⟨⟨mes, clock, seen, h1, he, h2, hs, hd⟩, hnd⟩ := h
  have hlen : mes.size = es.length := by have := congrArg List.length he.reads; simpa using this
  have hgi : (getObj it).run P w = .ok (.mapIter (some r) clock seen clock) w := by simp [getObj, Sem.run, h2]
  have hall : (!seen.isEmpty && !mes.isEmpty && mes.all (fun e => decide (e.born ≥ clock))) = false := by
    by_cases hm : mes.size = 0
    · have : mes = #[] := Array.eq_empty_of_size_eq_zero hm
      simp [this]
    · rw [Bool.eq_false_iff]
      intro hc
      simp only [Bool.and_eq_true, Array.all_eq_true, decide_eq_true_eq] at hc
      have h3 := hc.2 0 (by omega)
      have h4 := he.lt mes[0] (by simp)
      omega
  have hold : (mes.filter fun e => !seen.contains e.born).filter (fun e => decide (e.born < clock)) = mes.filter fun e => !seen.contains e.born := by
    rw [Array.filter_eq_self]
    intro e hm
    have := (Array.mem_filter.1 hm).1
    simpa using he.lt e (by simpa using this)
  have hnew : (mes.filter fun e => !seen.contains e.born).filter (fun e => decide (e.born ≥ clock)) = #[] := by
    rw [Array.filter_eq_empty_iff]
    intro e hm
    have := (Array.mem_filter.1 hm).1
    have := he.lt e (by simpa using this)
    simp; omega
  by_cases hleft : mes.filter (fun e => !seen.contains e.born) = #[]
  · right
    refine ⟨fun i hi => iter_none he hs hd hleft i (by omega), ?_⟩
    simp only [Instr.next, Sem.run_bind, hgi, Result.andThen_ok, run_getObj_ents h1, hall, hold, hnew, Bool.false_eq_true, if_false]
    have hc : (choose (.mapNext 1)).run P w = .ok 0 w := by
      simp only [choose, Sem.run]
      rw [if_pos (by simp [Question.forced])]
    have e1 : (((if (#[] : Array MapEntry).isEmpty = true then #[none] else #[]) ++ Array.map some (#[] ++ #[])) : Array (Option MapEntry)) = #[none] := by simp
    rw [hleft, e1]
    show ((choose (.mapNext 1)).run P w).andThen _ = _
    rw [hc]
    rfl
  · left
    obtain ⟨j, w1, hj, hc, hw1⟩ := run_choose_next (P := P) w (mes.filter (fun e => !seen.contains e.born)).size (by
      rcases Nat.eq_zero_or_pos (mes.filter (fun e => !seen.contains e.born)).size with h0 | h0
      · exact absurd (Array.eq_empty_of_size_eq_zero h0) hleft
      · exact h0)
    have hmem : (mes.filter (fun e => !seen.contains e.born))[j] ∈ mes.filter (fun e => !seen.contains e.born) := Array.getElem_mem hj
    obtain ⟨i, hi, hie, hnot⟩ := iter_left hs hmem
    have hreads := congrArg (fun l => l[i]?) he.reads
    have hies : i < es.length := by omega
    simp only [List.getElem?_map, Array.getElem?_toList, hie, Option.map_some, List.getElem?_eq_getElem hies, Option.some.injEq, Prod.mk.injEq] at hreads
    have hg1 : w.grownBy w1 (some it) ∧ w1.heap = w.heap := by
      rcases hw1 with rfl | rfl
      · exact ⟨⟨rfl, rfl, rfl, Nat.le_refl _, fun _ _ _ => rfl⟩, rfl⟩
      · exact ⟨⟨rfl, rfl, rfl, Nat.le_refl _, fun _ _ _ => rfl⟩, rfl⟩
    have h2' : w1.heap[it]? = some (.mapIter (some r) clock seen clock) := by rw [hg1.2]; exact h2
    have hset : (setObj it (.mapIter (some r) clock (seen.push (mes.filter (fun e => !seen.contains e.born))[j].born) clock)).run P w1 =
        .ok () { w1 with heap := w1.heap.setIfInBounds it (.mapIter (some r) clock (seen.push (mes.filter (fun e => !seen.contains e.born))[j].born) clock) } := by simp [setObj, Sem.run, h2']
    refine ⟨i, hies, hnot, { w1 with heap := w1.heap.setIfInBounds it (.mapIter (some r) clock (seen.push (mes.filter (fun e => !seen.contains e.born))[j].born) clock) }, ?_, ⟨⟨mes, clock, seen.push (mes.filter (fun e => !seen.contains e.born))[j].born, ?_, he, ?_, ?_, ?_⟩, ?_⟩, ?_, ?_⟩
    · simp only [Instr.next, Sem.run_bind, hgi, Result.andThen_ok, run_getObj_ents h1, hall, hold, hnew, Bool.false_eq_true, if_false]
      have hne : (mes.filter (fun e => !seen.contains e.born)).isEmpty = false := by simpa using hleft
      simp only [hne, Bool.false_eq_true, if_false, Array.empty_append, Array.append_empty, Array.size_map, hc, Result.andThen_ok, Array.getElem?_map, Array.getElem?_eq_getElem hj, Option.map_some, Sem.run_bind, hset, Sem.run_pure]
      rw [hreads.1, hreads.2]
    · show (w1.heap.setIfInBounds it _)[r]? = _
      rw [Array.getElem?_setIfInBounds, if_neg hlt.2.2, hg1.2]
      exact h1
    · show (w1.heap.setIfInBounds it _)[it]? = _
      rw [Array.getElem?_setIfInBounds, if_pos rfl, if_pos (by rw [hg1.2]; exact hlt.1)]
    · simp only [Array.toList_push, hs, List.map_append, List.map_cons, List.map_nil, hie, Option.map_some, Option.getD_some]
    · intro k hk
      simp only [List.mem_append, List.mem_singleton] at hk
      rcases hk with hk | rfl
      · exact hd k hk
      · exact hi
    · rw [List.nodup_append]
      refine ⟨hnd, by simp, ?_⟩
      intro a ha b hb
      simp only [List.mem_singleton] at hb
      subst hb
      intro e
      subst e
      exact hnot ha
    · have h3 := grownBy_set w1 it (.mapIter (some r) clock (seen.push (mes.filter (fun e => !seen.contains e.born))[j].born) clock)
      exact ⟨h3.os.trans hg1.1.os, h3.tape.trans hg1.1.tape, h3.output.trans hg1.1.output, Nat.le_trans hg1.1.size h3.size, fun k hk hne => (h3.block k (by rw [hg1.2]; exact hk) hne).trans (hg1.1.block k hk hne)⟩
    · simp [hg1.2]

theorem run_entry_ents {it r : Nat} {es : Ents} {done : List Nat} {i : Nat} (hi : i < es.length) (h : IterAt w it r es (done ++ [i])) :
    (Instr.entry (.pointer (some ⟨it, 0, none⟩))).run P w = .ok (.tuple #[.string (es[i]).1, (es[i]).2]) w := by
  obtain ⟨⟨mes, clock, seen, h1, he, h2, hs, hd⟩, hnd⟩ := h
  have hgi : (getObj it).run P w = .ok (.mapIter (some r) clock seen clock) w := by simp [getObj, Sem.run, h2]
  have him : i < mes.size := hd i (by simp)
  have hback : seen.back? = some mes[i].born := by
    rw [← Array.getLast?_toList, hs]
    simp [him]
  have hfind : mes.find? (fun e => e.born == mes[i].born) = some mes[i] := by
    rw [Array.find?_eq_some_iff_getElem]
    refine ⟨by simp, i, him, rfl, fun j hj => ?_⟩
    simp only [Bool.not_eq_true', beq_eq_false_iff_ne]
    intro e
    have := nodup_born he.born (i := j) (j := i) (by simp [Nat.lt_trans hj him]) (by simp [him]) e
    omega
  have hreads := congrArg (fun l => l[i]?) he.reads
  simp only [List.getElem?_map, Array.getElem?_toList, Array.getElem?_eq_getElem him, Option.map_some, List.getElem?_eq_getElem hi, Option.some.injEq, Prod.mk.injEq] at hreads
  simp [Instr.entry, hgi, run_getObj_ents h1, hback, hfind, hreads.1, hreads.2]

theorem wpL_next {ops : Array Oper} {rest : List Oper} {o : Oper} {a : Act} {Q : Exit → Act → World → Prop} (hgd : o.guard = none) (x : Operand) (ho : o.op = .next x false) {it r : Nat} {es : Ents} {done : List Nat} (hx : a.eval x = .pointer (some ⟨it, 0, none⟩)) (h : IterAt w it r es done)
    (h1 : ∀ i, ∀ hi : i < es.length, i ∉ done → ∀ w', IterAt w' it r es (done ++ [i]) → w.grownBy w' (some it) → w'.heap.size = w.heap.size → wpList P ops Q rest (a.put o.dst (.tuple #[.bool true, .string (es[i]).1, (es[i]).2])) w')
    (h2 : (∀ i, i < es.length → i ∈ done) → wpList P ops Q rest (a.put o.dst (.tuple #[.bool false])) w) : wpList P ops Q (o :: rest) a w := by
  refine wpList_plain hgd fun _ hK => ?_
  rcases run_next_ents (P := P) o.type h with ⟨i, hi, hn, w', hr, h3, h4, h5⟩ | ⟨hall, hr⟩
  · unfold Oper.wp execOp
    simp only [ho, Sem.run_bind, Sem.run_pure, Result.andThen_ok, hx, hr]
    exact hK _ _ (h1 i hi hn w' h3 h4 h5)
  · unfold Oper.wp execOp
    simp only [ho, Sem.run_bind, Sem.run_pure, Result.andThen_ok, hx, hr]
    exact hK _ _ (h2 hall)
end

end Go.Proofs.YtihapgangilncaaGreat
