/- What slices.Insert does to a row, without any program in sight: copies of elements of several cells, append of zeros, and the lists. -/
import Derived.Test.YtihapgangilncaaGreatKGRow
import Derived.Laws.CopyRow
import Derived.Lib.AppendZerosOnto
import Derived.Lib.Overlaps
namespace Go.Proofs.YtihapgangilncaaGreat
open Go.RowKit
set_option linter.unusedSimpArgs false

section
variable {P : Program}

theorem run_copy_rowN (w : World) (dT sT ty elem : TypeId) (g o dLen dCap : Nat) (a : Addr) (sLen sCap : Nat) (cur : Array Value) (t : TypeId) (cs : List Value) {sz : Nat}
    (hu : P.underlying dT = some (.slice elem)) (hs : (P.info? elem).map (·.size) = some sz)
    (hg : w.heap[g]? = some (.cells cur t (0, 0))) (hn : cs.length = Nat.min sLen dLen * sz)
    (hsrc : ∀ j v, cs[j]? = some v → w.cell? (a.add j) = some v) (hfit : o + cs.length ≤ cur.size) (h1 : ∀ v ∈ cs, v.oneCell' = true) :
    (Builtin.copy_ #[dT, sT] ty #[.slice (some ⟨g, o, none⟩) dLen dCap, .slice (some a) sLen sCap]).run P w =
      .ok (goInt (Nat.min sLen dLen)) (w.setRow g (cur.toList.take o ++ cs ++ cur.toList.drop (o + cs.length)).toArray) := by
  have hl := run_loadCells_list (P := P) w a cs hsrc
  have hst := run_storeCells_at P g o t cs 0 cur w hg (by simpa using hfit) h1
  cases hq : P.info? elem with
  | none => simp [hq] at hs
  | some i =>
    have hi : i.size = sz := by simpa [hq] using hs
    simp [Builtin.copy_, run_underlying hu, Builtin.lenOf, Builtin.firstCells, sizeOf, typeInfo, hq, hi, ← hn, hl, hst]

theorem wp_copyN {w : World} {o : Oper} {a : Act} {K : Act → World → Prop} {Q : Exit → Act → World → Prop} (d s : Operand) (dT sT : TypeId)
    (ho : o.op = .call { callee := .builtin .copy, args := #[d, s], argTypes := #[dT, sT] }) {elem : TypeId} (hu : P.underlying dT = some (.slice elem)) {sz : Nat} (hs : (P.info? elem).map (·.size) = some sz)
    {g off dLen dCap : Nat} {ad : Addr} {sLen sCap : Nat} (hd : a.eval d = .slice (some ⟨g, off, none⟩) dLen dCap) (hsv : a.eval s = .slice (some ad) sLen sCap)
    {cur : Array Value} {t : TypeId} (hg : w.heap[g]? = some (.cells cur t (0, 0))) (cs : List Value) (hn : cs.length = Nat.min sLen dLen * sz)
    (hsrc : ∀ j v, cs[j]? = some v → w.cell? (ad.add j) = some v) (hfit : off + cs.length ≤ cur.size) (h1 : ∀ v ∈ cs, v.oneCell' = true)
    (h : ∀ w', w'.heap[g]? = some (.cells (cur.toList.take off ++ cs ++ cur.toList.drop (off + cs.length)).toArray t (0, 0)) → w.grownBy w' (some g) → K (a.put o.dst (goInt (Nat.min sLen dLen))) w') : o.wp P a w K Q := by
  have hrun := run_copy_rowN (P := P) w dT sT o.type elem g off dLen dCap ad sLen sCap cur t cs hu hs hg hn hsrc hfit h1
  unfold Oper.wp
  simp [execOp, ho, resolve, invoke, builtin, hd, hsv, hrun, Result.andThen]
  have hw := setRow_heap w g cur (cur.toList.take off ++ cs ++ cur.toList.drop (off + cs.length)).toArray t (0, 0) hg
  refine h _ (by simpa using hw) ⟨rfl, rfl, rfl, by simp [World.setRow], fun k hk hx => ?_⟩
  exact setRow_other w g k _ (fun e => hx (by rw [e]))
theorem wpL_copyN {w : World} {ops : Array Oper} {rest : List Oper} {o : Oper} {a : Act} {Q : Exit → Act → World → Prop} (hgd : o.guard = none) (d s : Operand) (dT sT : TypeId)
    (ho : o.op = .call { callee := .builtin .copy, args := #[d, s], argTypes := #[dT, sT] }) {elem : TypeId} (hu : P.underlying dT = some (.slice elem)) {sz : Nat} (hs : (P.info? elem).map (·.size) = some sz)
    {g off dLen dCap : Nat} {ad : Addr} {sLen sCap : Nat} (hd : a.eval d = .slice (some ⟨g, off, none⟩) dLen dCap) (hsv : a.eval s = .slice (some ad) sLen sCap)
    {cur : Array Value} {t : TypeId} (hg : w.heap[g]? = some (.cells cur t (0, 0))) (cs : List Value) (hn : cs.length = Nat.min sLen dLen * sz)
    (hsrc : ∀ j v, cs[j]? = some v → w.cell? (ad.add j) = some v) (hfit : off + cs.length ≤ cur.size) (h1 : ∀ v ∈ cs, v.oneCell' = true)
    (h : ∀ w', w'.heap[g]? = some (.cells (cur.toList.take off ++ cs ++ cur.toList.drop (off + cs.length)).toArray t (0, 0)) → w.grownBy w' (some g) → wpList P ops Q rest (a.put o.dst (goInt (Nat.min sLen dLen))) w') : wpList P ops Q (o :: rest) a w :=
  wpList_plain hgd fun _ hK => wp_copyN d s dT sT ho hu hs hd hsv hg cs hn hsrc hfit h1 (fun w' h2 h3 => hK _ _ (h w' h2 h3))

theorem append_two (w : World) {t tx ty e e' : TypeId} (ht : P.underlying t = some (.slice e)) (hx : P.underlying tx = some (.slice e')) (v x : Value) : (Builtin.append_ #[t, tx] ty #[v, x]).run P w = (Builtin.append_ #[t, t] ty #[v, x]).run P w := by
  cases v <;> simp [Builtin.append_, run_underlying ht, run_underlying hx]
/-- append(v, x...), the slices' types of two names -/
theorem wpL_append2 {w : World} {ops : Array Oper} {rest : List Oper} {o : Oper} {a : Act} {Q : Exit → Act → World → Prop} (hgd : o.guard = none) (s x : Operand) (t tx : TypeId)
    (ho : o.op = .call { callee := .builtin .append, args := #[s, x], argTypes := #[t, tx] }) {e e' : TypeId} {z : Value} {size bytes : Nat} (ht : P.underlying t = some (.slice e)) (htx : P.underlying tx = some (.slice e'))
    (hi : (P.info? e).map (fun i => (i.zero, i.size, i.bytes)) = some (some z, size, bytes)) (hzs : z.cells.size = size) (hsz : 0 < size)
    {v : Value} {n : Nat} {xs : List Value} (hs : a.eval s = v) (hown : Own w e size v n xs) {ad : Addr} {m c : Nat} (news : List Value) (hx : a.eval x = .slice (some ad) m c) (hl : news.length = m * size)
    (hnews : ∀ j u, news[j]? = some u → w.cell? (ad.add j) = some u) (h1 : ∀ u ∈ news, u.oneCell' = true) (h63 : n + m ≤ maxLen) (hbytes : (n + m) * bytes ≤ 140737488355328)
    (h : ∀ v' w', Own w' e size v' (n + m) (xs ++ news) → w.grownBy w' v.ownBlock → (v' = .slice none 0 0 ↔ v = .slice none 0 0 ∧ m = 0) → (∀ g, v'.ownBlock = some g → v.ownBlock = some g ∨ g = w.heap.size) → wpList P ops Q rest (a.put o.dst v') w') : wpList P ops Q (o :: rest) a w := by
  refine wpList_plain hgd fun _ hK => ?_
  cases hq : P.info? e with
  | none => simp [hq] at hi
  | some inf =>
    have hi3 : inf.zero = some z ∧ inf.size = size ∧ inf.bytes = bytes := by simpa [hq] using hi
    obtain ⟨z1, z2, z3⟩ := hi3
    obtain ⟨v', w', hr, h2, h3, h4, h5⟩ := run_append_mine (P := P) w t o.type e inf z size bytes ht hq z1 z2 z3 hzs hsz v n xs hown ad m c news hl hnews h1 h63 hbytes
    rw [← append_two w ht htx] at hr
    unfold Oper.wp execOp
    simp only [ho, resolve, invoke, builtin, Sem.run_bind, Sem.run_pure, Result.andThen_ok, List.map_toArray, List.map_cons, List.map_nil, hs, hx, hr]
    exact hK _ _ (h v' w' h2 h3 h4 h5)

/-- append(s[:i], make(S, k)...) where the row has no room -/
theorem wpL_growZ {w : World} {ops : Array Oper} {rest : List Oper} {o : Oper} {a : Act} {Q : Exit → Act → World → Prop} (hgd : o.guard = none) (s x : Operand) (t tn : TypeId)
    (ho : o.op = .call { callee := .builtin .append, args := #[s, x], argTypes := #[t, tn] }) {e : TypeId} {z : Value} {size bytes : Nat} {kn kq : IntKind}
    (ht : P.underlying t = some (.slice e)) (htn : P.underlying tn = some (.int kn)) (hi : (P.info? e).map (fun i => (i.zero, i.size, i.bytes)) = some (some z, size, bytes)) (hzs : z.cells.size = size) (hsz : 0 < size)
    {g cap i k : Nat} (olds : List Value) (hs : a.eval s = .slice (some ⟨g, 0, none⟩) i cap) (hx : a.eval x = .int kq k) (hol : olds.length = i * size) (hcs : ∀ j u, olds[j]? = some u → w.cell? ⟨g, j, none⟩ = some u)
    (h0 : 0 < k) (hroom : cap < i + k) (hbytes : (i + k) * bytes ≤ 140737488355328) (h63 : i + k ≤ maxLen)
    (h : ∀ w' G cur, w'.heap[w.heap.size]? = some (.cells cur e (0, 0)) → i + k ≤ G → G ≤ maxLen → cur.size = G * size → cur.toList.take (i * size) = olds → Ext w w' → wpList P ops Q rest (a.put o.dst (.slice (some ⟨w.heap.size, 0, none⟩) (i + k) G)) w') :
    wpList P ops Q (o :: rest) a w := by
  refine wpList_plain hgd fun _ hK => ?_
  cases hq : P.info? e with
  | none => simp [hq] at hi
  | some inf =>
    have hi3 : inf.zero = some z ∧ inf.size = size ∧ inf.bytes = bytes := by simpa [hq] using hi
    obtain ⟨z1, z2, z3⟩ := hi3
    have hm63 : i + k ≤ 9223372036854775807 := by simp only [maxLen] at h63; omega
    have hold : (Builtin.firstCells inf.size i (.slice (some ⟨g, 0, none⟩) i cap)).run P w.drew = .ok olds.toArray w.drew :=
      run_firstCells_some w.drew inf.size i ⟨g, 0, none⟩ i cap olds (by rw [z2]; exact hol) (fun j v hj => by
        have e1 : (⟨g, 0, none⟩ : Addr).add j = ⟨g, j, none⟩ := by unfold Addr.add; split <;> simp_all
        rw [e1]
        exact hcs j v hj)
    have hkb : k * inf.bytes ≤ 281474976710656 := by
      rw [z3]
      exact Nat.le_trans (Nat.mul_le_mul_right _ (Nat.le_add_left k i)) (Nat.le_trans hbytes (by decide))
    have hrun := Lib.run_append_grow_zeros (P := P) w t tn o.type e inf z kq kn ht htn hq z1 (some ⟨g, 0, none⟩) i cap olds hold k h0 (by omega) hroom (by omega) hkb (by rw [z3]; exact growslice_fits hroom hbytes)
    unfold Oper.wp execOp
    simp only [ho, resolve, invoke, builtin, Sem.run_bind, Sem.run_pure, Result.andThen_ok, List.map_toArray, List.map_cons, List.map_nil, hs, hx, hrun]
    refine hK _ _ (h _ (grownCap w (i + k) cap e) _ (by show (w.drew.heap.push _)[_]? = _; exact (push_get _ _ _).trans (if_pos rfl)) (grownCap_ge _ _ _ _) (grownCap_le_maxLen _ _ _ _ h63) ?_ ?_ ((Ext.refl w).drew.push _))
    · have hge := grownCap_ge w (i + k) cap e
      simp only [Array.size_append, size_zeroCells, List.size_toArray, hol, hzs]
      rw [← Nat.add_mul, ← Nat.add_mul]
      congr 1
      omega
    · simp [Array.toList_append, ← hol]
end

theorem shift_list {cur xs V : List Value} {a L s : Nat} (hx : cur.take L = xs) (ha : a ≤ L) (hV : V.length = s) (hc : L + s ≤ cur.length) :
    ((((cur.take (a + s) ++ xs.drop a ++ cur.drop (a + s + (xs.drop a).length)).take a ++ V ++ (cur.take (a + s) ++ xs.drop a ++ cur.drop (a + s + (xs.drop a).length)).drop (a + V.length)).take (L + s)) = xs.take a ++ V ++ xs.drop a) ∧
    ((cur.take (a + s) ++ xs.drop a ++ cur.drop (a + s + (xs.drop a).length)).take a ++ V ++ (cur.take (a + s) ++ xs.drop a ++ cur.drop (a + s + (xs.drop a).length)).drop (a + V.length)).length = cur.length := by
  have hxl : xs.length = L := by rw [← hx, List.length_take]; omega
  have hd : (xs.drop a).length = L - a := by rw [List.length_drop, hxl]
  have ht : (cur.take (a + s)).length = a + s := by rw [List.length_take]; omega
  have hta : (cur.take (a + s)).take a = xs.take a := by
    rw [List.take_take, ← hx, List.take_take]
    congr 1
    omega
  have e1 : (cur.take (a + s) ++ xs.drop a ++ cur.drop (a + s + (xs.drop a).length)).take a = xs.take a := by
    rw [List.append_assoc, List.take_append_of_le_length (by omega), hta]
  have e2 : (cur.take (a + s) ++ xs.drop a ++ cur.drop (a + s + (xs.drop a).length)).drop (a + V.length) = xs.drop a ++ cur.drop (L + s) := by
    rw [hV, List.append_assoc, List.drop_append_of_le_length (by omega), List.drop_eq_nil_of_le (by omega), List.nil_append, hd]
    congr 2
    omega
  rw [e1, e2]
  have hl : (xs.take a ++ V ++ xs.drop a).length = L + s := by simp only [List.length_append, List.length_take, hd, hV, hxl]; omega
  refine ⟨?_, ?_⟩
  · rw [← List.append_assoc, List.take_append_of_le_length (by omega), List.take_of_length_le (by omega)]
  · rw [← List.append_assoc, List.length_append, hl, List.length_drop]; omega

theorem grow_list {cur xs V : List Value} {a L s : Nat} (hx : cur.take a = xs.take a) (hxl : xs.length = L) (ha : a ≤ L) (hV : V.length = s) (hc : L + s ≤ cur.length) :
    ((((cur.take a ++ V ++ cur.drop (a + V.length)).take (a + s) ++ xs.drop a ++ (cur.take a ++ V ++ cur.drop (a + V.length)).drop (a + s + (xs.drop a).length)).take (L + s)) = xs.take a ++ V ++ xs.drop a) ∧
    ((cur.take a ++ V ++ cur.drop (a + V.length)).take (a + s) ++ xs.drop a ++ (cur.take a ++ V ++ cur.drop (a + V.length)).drop (a + s + (xs.drop a).length)).length = cur.length := by
  have hd : (xs.drop a).length = L - a := by rw [List.length_drop, hxl]
  have hl0 : (xs.take a ++ V).length = a + s := by simp only [List.length_append, List.length_take, hV, hxl]; omega
  have e1 : (cur.take a ++ V ++ cur.drop (a + V.length)).take (a + s) = xs.take a ++ V := by
    rw [hx, List.take_append_of_le_length (by omega), List.take_of_length_le (by omega)]
  have hlen : (cur.take a ++ V ++ cur.drop (a + V.length)).length = cur.length := by
    rw [hx, List.length_append, hl0, List.length_drop, hV]; omega
  rw [e1]
  have hl : (xs.take a ++ V ++ xs.drop a).length = L + s := by rw [List.length_append, hl0, hd]; omega
  refine ⟨?_, ?_⟩
  · rw [List.take_append_of_le_length (by omega), List.take_of_length_le (by omega)]
  · rw [List.length_append, hl, List.length_drop, hlen, hd]; omega

theorem flat_len {rows : List (List Value)} {s : Nat} (h : ∀ r ∈ rows, r.length = s) : rows.flatten.length = rows.length * s := by
  induction rows with
  | nil => simp
  | cons r rows ih =>
    rw [List.flatten_cons, List.length_append, h r (by simp), ih (fun q hq => h q (by simp [hq])), List.length_cons, Nat.add_mul]; omega
theorem flat_take {s : Nat} : ∀ {rows : List (List Value)} (i : Nat), (∀ r ∈ rows, r.length = s) → rows.flatten.take (i * s) = (rows.take i).flatten
  | [], i, _ => by simp
  | r :: rows, 0, _ => by simp
  | r :: rows, i + 1, h => by
    have hr := h r (by simp)
    rw [List.flatten_cons, List.take_succ_cons, List.flatten_cons, List.take_append, hr, List.take_of_length_le (by rw [hr, Nat.add_mul]; omega), show (i + 1) * s - s = i * s by rw [Nat.add_mul]; omega, flat_take i (fun q hq => h q (by simp [hq]))]
theorem flat_drop {s : Nat} : ∀ {rows : List (List Value)} (i : Nat), (∀ r ∈ rows, r.length = s) → rows.flatten.drop (i * s) = (rows.drop i).flatten
  | [], i, _ => by simp
  | r :: rows, 0, _ => by simp
  | r :: rows, i + 1, h => by
    have hr := h r (by simp)
    rw [List.flatten_cons, List.drop_succ_cons, List.drop_append, hr, List.drop_eq_nil_of_le (by rw [hr, Nat.add_mul]; omega), List.nil_append, show (i + 1) * s - s = i * s by rw [Nat.add_mul]; omega, flat_drop i (fun q hq => h q (by simp [hq]))]
end Go.Proofs.YtihapgangilncaaGreat
