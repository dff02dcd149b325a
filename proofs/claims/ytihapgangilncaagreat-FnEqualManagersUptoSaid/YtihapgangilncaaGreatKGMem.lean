/- Memory, without any program in sight: worlds that go on, rows that are appended to, maps with string keys. -/
import Derived.WalkKit
import Derived.WalkSpells
import Derived.WalkLawsBesides
import Derived.Lib.Hide
import Derived.WideLaws
import Derived.Deep.QuietTactic
import Derived.Laws.AppendOwnNone
import Derived.StillTailTactics
import Derived.BigQuiet
import Derived.Laws.Tables
namespace Go.Proofs.YtihapgangilncaaGreat
open Go.RowKit

@[go_sem] theorem run_store_float (P : Program) (w : World) (a : Addr) (m : Mode) (k : FloatKind) (n : Nat) : (store a (.float k n) m).run P w = stored P w a (.float k n) m := run_store P w a _ m rfl
theorem run_store_one (P : Program) (w : World) (a : Addr) (m : Mode) (v : Value) (h : v.oneCell' = true) : (store a v m).run P w = stored P w a v m := run_store P w a _ m h

instance : LawfulBEq ByteArray where
  eq_of_beq {a b} h := by
    have h' : (a.data == b.data) = true := h
    exact ByteArray.ext (by simpa using h')
  rfl {a} := by
    have h' : (a.data == a.data) = true := by simp
    exact h'

/-- w' is w with more blocks: nothing that w held has turned. -/
def Ext (w w' : World) : Prop := Below w.heap.size w w'
theorem Ext.refl (w : World) : Ext w w := Below.refl _ _
theorem Ext.below {w w' : World} (h : Ext w w') : Below w.heap.size w w' := h
theorem Ext.size {w w' : World} (h : Ext w w') : w.heap.size ≤ w'.heap.size := Below.size h
theorem Ext.trans {a b c : World} (h : Ext a b) (k : Ext b c) : Ext a c := Below.trans h (Below.mono k h.size)
theorem Ext.alloc (w : World) (o : Obj) : Ext w (w.alloc o) := (Below.refl _ _).alloc (Nat.le_refl _) o
theorem Ext.push {a b : World} (h : Ext a b) (o : Obj) : Ext a (b.alloc o) := h.trans (.alloc b o)
theorem Ext.drew {a b : World} (h : Ext a b) : Ext a b.drew := Below.drew h
theorem Ext.drewN {a b : World} (h : Ext a b) (n : Nat) : Ext a (b.drewN n) := h.trans ⟨rfl, rfl, rfl, Nat.le_refl _, fun _ _ => rfl⟩
theorem Ext.setCell {a b : World} (h : Ext a b) {p : Addr} (hp : a.heap.size ≤ p.block) (u : Value) : Ext a (b.setCell p u) := Below.setCell h hp u
theorem Ext.grown {a b c : World} {row : Option Nat} (h : Ext a b) (hg : b.grownBy c row) (hr : ∀ k, row = some k → a.heap.size ≤ k) : Ext a c := Below.grown h hg h.size hr
theorem Ext.cells {W w1 : World} (hb : Ext W w1) : (∀ b o, b < W.heap.size → w1.cell? ⟨b, o, none⟩ = W.cell? ⟨b, o, none⟩) ∧ (∀ b o, b < W.heap.size → w1.frozen? ⟨b, o, none⟩ = W.frozen? ⟨b, o, none⟩) ∧ W.heap.size ≤ w1.heap.size :=
  ⟨fun b o h => hb.below.cell (p := ⟨b, o, none⟩) h, fun b o h => hb.below.frozen (p := ⟨b, o, none⟩) h, hb.size⟩

/-- What a held outside X is held by b, too, and lies outside Y. -/
structure Mv (a : World) (X : List Nat) (b : World) (Y : List Nat) : Prop where
  size : a.heap.size ≤ b.heap.size
  block : ∀ k, k < a.heap.size → k ∉ X → b.heap[k]? = a.heap[k]? ∧ k ∉ Y

theorem Mv.refl (w : World) (X : List Nat) : Mv w X w X := ⟨Nat.le_refl _, fun _ _ h => ⟨rfl, h⟩⟩
theorem Mv.trans {a b c : World} {X Y Z : List Nat} (h : Mv a X b Y) (k : Mv b Y c Z) : Mv a X c Z :=
  ⟨Nat.le_trans h.size k.size, fun i hi hx => ⟨(k.block i (Nat.lt_of_lt_of_le hi h.size) (h.block i hi hx).2).1.trans (h.block i hi hx).1, (k.block i (Nat.lt_of_lt_of_le hi h.size) (h.block i hi hx).2).2⟩⟩
theorem Ext.keep {a b : World} (h : Ext a b) {p : Addr} {v : Value} (hc : a.cell? p = some v) : b.cell? p = some v := by
  have hp : p.block < a.heap.size := by
    by_cases hlt : p.block < a.heap.size
    · exact hlt
    · rw [World.cell?, Array.getElem?_eq_none (by omega)] at hc
      simp at hc
  rw [World.cell?, h.below.block _ hp]
  exact hc
theorem Ext.mv {a b : World} (h : Ext a b) (X : List Nat) : Mv a X b X := ⟨h.size, fun k hk hx => ⟨h.below.block k hk, hx⟩⟩
theorem Mv.ext {a b c : World} {X Y : List Nat} (h : Mv a X b Y) (e : Ext b c) : Mv a X c Y := h.trans (e.mv Y)
/-- one more block to be kept clear of, which is newer than all that a held -/
theorem Mv.more {a b : World} {X Y : List Nat} (h : Mv a X b Y) {n : Nat} (hn : a.heap.size ≤ n) : Mv a X b (n :: Y) :=
  ⟨h.size, fun k hk hx => ⟨(h.block k hk hx).1, by have := (h.block k hk hx).2; simp only [List.mem_cons, not_or]; exact ⟨by omega, this⟩⟩⟩
theorem Mv.less {a b : World} {X Y Z : List Nat} (h : Mv a X b Y) (hz : ∀ k ∈ Z, k ∈ Y) : Mv a X b Z :=
  ⟨h.size, fun k hk hx => ⟨(h.block k hk hx).1, fun hk' => (h.block k hk hx).2 (hz k hk')⟩⟩
theorem Mv.grown {a b c : World} {X Y : List Nat} {row : Option Nat} (h : Mv a X b Y) (hg : b.grownBy c row) (hr : ∀ k, row = some k → k ∈ Y) : Mv a X c Y :=
  ⟨Nat.le_trans h.size hg.size, fun k hk hx => ⟨(hg.block k (Nat.lt_of_lt_of_le hk h.size) (fun e => (h.block k hk hx).2 (hr k e.symm))).trans (h.block k hk hx).1, (h.block k hk hx).2⟩⟩

theorem Mv.cell {a b : World} {X Y : List Nat} (h : Mv a X b Y) {k off : Nat} {v : Value} (hx : k ∉ X) (hc : a.cell? ⟨k, off, none⟩ = some v) : b.cell? ⟨k, off, none⟩ = some v ∧ k ∉ Y := by
  have hb : k < a.heap.size := by
    by_cases hlt : k < a.heap.size
    · exact hlt
    · simp [World.cell?, Array.getElem?_eq_none (Nat.le_of_not_lt hlt)] at hc
  exact ⟨by rw [World.cell?_of_block (w := a) (h.block k hb hx).1]; exact hc, (h.block k hb hx).2⟩

theorem World.grownBy.ext {w w' : World} (h : w.grownBy w' none) : Ext w w' := ⟨h.os, h.tape, h.output, h.size, fun k hk => h.block k hk (by simp)⟩
theorem World.grownBy.ext_trans {a b c : World} {row : Option Nat} (e : Ext a b) (h : b.grownBy c row) : a.grownBy c row :=
  ⟨h.os.trans e.below.os, h.tape.trans e.below.tape, h.output.trans e.below.output, Nat.le_trans e.size h.size, fun k hk hr => (h.block k (Nat.lt_of_lt_of_le hk e.size) hr).trans (e.below.block k hk)⟩

theorem cells_of {w : World} {b : Nat} {c : Array Value} {T : TypeId} {fr : Nat × Nat} (h : w.heap[b]? = some (.cells c T fr)) : ∀ j, w.cell? ⟨b, j, none⟩ = c[j]? := fun j => by simp [World.cell?, h]

/-- new blocks, with the world behind them under a name of its own -/
theorem push_get (h : Array Obj) (o : Obj) (k : Nat) : (h.push o)[k]? = if k = h.size then some o else h[k]? := Array.getElem?_push
theorem abs1 {w : World} {o1 : Obj} {G : World → Prop} (h : ∀ w1, Ext w w1 → w1.heap[w.heap.size]? = some o1 → w1.heap.size = w.heap.size + 1 → G w1) : G (w.alloc o1) :=
  h _ (.alloc _ _) (by show (w.heap.push _)[_]? = _; rw [push_get, if_pos rfl]) (by simp)
theorem abs2 {w : World} {o1 o2 : Obj} {G : World → Prop} (h : ∀ w1, Ext w w1 → w1.heap[w.heap.size]? = some o1 → w1.heap[w.heap.size + 1]? = some o2 → w1.heap.size = w.heap.size + 2 → G w1) : G ((w.alloc o1).alloc o2) :=
  h _ ((Ext.alloc _ _).push _) (by show ((w.heap.push _).push _)[_]? = _; rw [push_get, if_neg (by simp), push_get, if_pos rfl]) (by show ((w.heap.push _).push _)[_]? = _; rw [push_get, if_pos (by simp)]) (by simp)
theorem abs3 {w : World} {o1 o2 o3 : Obj} {G : World → Prop} (h : ∀ w1, Ext w w1 → w1.heap[w.heap.size]? = some o1 → w1.heap[w.heap.size + 1]? = some o2 → w1.heap[w.heap.size + 2]? = some o3 → w1.heap.size = w.heap.size + 3 → G w1) : G (((w.alloc o1).alloc o2).alloc o3) :=
  h _ (((Ext.alloc _ _).push _).push _) (by show (((w.heap.push _).push _).push _)[_]? = _; rw [push_get, if_neg (by simp; omega), push_get, if_neg (by simp), push_get, if_pos rfl])
    (by show (((w.heap.push _).push _).push _)[_]? = _; rw [push_get, if_neg (by simp), push_get, if_pos (by simp)]) (by show (((w.heap.push _).push _).push _)[_]? = _; rw [push_get, if_pos (by simp)]) (by simp)

/-- the blocks of X are there -/
def Old (X : List Nat) (w : World) : Prop := ∀ b ∈ X, b < w.heap.size
theorem Old.le {X : List Nat} {w w' : World} (h : Old X w) (hs : w.heap.size ≤ w'.heap.size) : Old X w' := fun b hb => Nat.lt_of_lt_of_le (h b hb) hs
theorem Old.cons {X : List Nat} {w : World} {n : Nat} (hn : n < w.heap.size) (h : Old X w) : Old (n :: X) w := fun b hb => by
  simp only [List.mem_cons] at hb
  rcases hb with rfl | hb
  · exact hn
  · exact h b hb
theorem Old.nil (w : World) : Old [] w := fun b hb => by simp at hb

theorem maxLen_eq : maxLen = 9223372036854775807 := by decide

theorem bd88 {n k : Nat} (h0 : n ≤ k) (h : (k + 1) * 88 ≤ 140737488351232) : (0 + n + 1) * 88 ≤ 140737488355328 :=
  Nat.le_trans (Nat.mul_le_mul_right 88 (by omega : 0 + n + 1 ≤ k + 1)) (Nat.le_trans h (by decide))
theorem bd16 {n k : Nat} (h0 : n ≤ k) (h : (k + 1) * 88 ≤ 140737488351232) : (0 + n + 1) * 16 ≤ 140737488355328 :=
  Nat.le_trans (Nat.mul_le_mul_left _ (by decide : 16 ≤ 88)) (bd88 h0 h)
theorem bd63 {n k : Nat} (h0 : n ≤ k) (h : (k + 1) * 88 ≤ 140737488351232) : 0 + n + 1 ≤ maxLen := by
  rw [maxLen_eq]
  exact Nat.le_trans (by omega) (Nat.le_trans (Nat.le_trans (Nat.le_mul_of_pos_right (k + 1) (by decide : 0 < 88)) h) (by decide))

/-- a row that the function itself appends to -/
abbrev Own (w : World) (e size : Nat) (v : Value) (n : Nat) (xs : List Value) : Prop := w.ownsRow 0 e size v n xs

theorem Own.lt {w : World} {e size : Nat} {v : Value} {n : Nat} {xs : List Value} (h : Own w e size v n xs) {g : Nat} (hg : v.ownBlock = some g) : g < w.heap.size := by
  obtain ⟨_, h | ⟨g', cap, cur, rfl, _, hh, _⟩⟩ := h
  · obtain ⟨rfl, _⟩ := h; simp [Value.ownBlock] at hg
  · simp only [Value.ownBlock, Option.some.injEq] at hg
    subst hg
    exact (Array.getElem?_eq_some_iff.1 hh).1

theorem Own.keep {w w' : World} {e size : Nat} {v : Value} {n : Nat} {xs : List Value} (h : Own w e size v n xs) (hb : ∀ g, v.ownBlock = some g → w'.heap[g]? = w.heap[g]?) : Own w' e size v n xs := by
  obtain ⟨h1, h2 | ⟨g', cap, cur, rfl, h3, hh, r⟩⟩ := h
  · exact ⟨h1, .inl h2⟩
  · exact ⟨h1, .inr ⟨g', cap, cur, rfl, h3, (hb g' rfl).trans hh, r⟩⟩
theorem Own.ext {w w' : World} {e size : Nat} {v : Value} {n : Nat} {xs : List Value} (h : Own w e size v n xs) (hb : Ext w w') : Own w' e size v n xs :=
  h.keep fun _ hg => hb.below.block _ (h.lt hg)
theorem Own.one {w : World} {e size : Nat} {v : Value} {n : Nat} {xs : List Value} (h : Own w e size v n xs) : v.oneCell' = true := by
  obtain ⟨_, h | ⟨g', cap, cur, rfl, _, hh, _⟩⟩ := h
  · obtain ⟨rfl, _⟩ := h; rfl
  · rfl
theorem Own.nil (w : World) (e size : Nat) : Own w e size (.slice none 0 0) 0 [] := World.ownsRow_nil w 0 e size

section
variable {P : Program}
/-- append of m elements that lie in memory to a row of the function's own -/
theorem run_append_mine (w : World) (t ty e : TypeId) (i : TypeInfo) (z : Value) (size bytes : Nat) (ht : P.underlying t = some (.slice e)) (hi : P.info? e = some i) (hz : i.zero = some z)
    (hsize : i.size = size) (hby : i.bytes = bytes) (hzs : z.cells.size = size) (hsz : 0 < size)
    (v : Value) (n : Nat) (xs : List Value) (hown : Own w e size v n xs)
    (a : Addr) (m c : Nat) (news : List Value) (hl : news.length = m * size) (hnews : ∀ j u, news[j]? = some u → w.cell? (a.add j) = some u) (h1 : ∀ u ∈ news, u.oneCell' = true)
    (h63 : n + m ≤ maxLen) (hbytes : (n + m) * bytes ≤ 140737488355328) :
    ∃ v' w', (Builtin.append_ #[t, t] ty #[v, .slice (some a) m c]).run P w = .ok v' w' ∧ Own w' e size v' (n + m) (xs ++ news) ∧ w.grownBy w' v.ownBlock ∧
      (v' = .slice none 0 0 ↔ v = .slice none 0 0 ∧ m = 0) ∧ ∀ g, v'.ownBlock = some g → v.ownBlock = some g ∨ g = w.heap.size := by
  obtain ⟨v', w', hr, h2, h3, h4⟩ := run_append_own (P := P) w 0 t ty e i z size bytes ht hi hz hsize hby hzs hsz v n xs hown a m c news hl hnews h1 h63 hbytes (Nat.zero_le _)
  refine ⟨v', w', hr, h2, h3, h4, fun g hg => ?_⟩
  subst hsize
  subst hby
  have hsmall : n + m ≤ 9223372036854775807 := by simp only [maxLen] at h63; omega
  obtain ⟨ho1, ho2⟩ := hown
  rcases ho2 with ⟨rfl, rfl⟩ | ⟨g0, cap, cur, rfl, hbg, hg0, hnc, hcm, hcs, htake⟩
  · by_cases hm : m = 0
    · have := h4.2 ⟨rfl, hm⟩
      subst this
      simp [Value.ownBlock] at hg
    · have hr' := run_append_nil (P := P) w t ty e i z ht hi hz a m c news hl hnews (by omega) (by omega) (by have hb := hbytes; simp only [Nat.zero_add] at hb; omega)
      rw [hr'] at hr
      cases hr
      simp only [Value.ownBlock, Option.some.injEq] at hg
      exact .inr hg.symm
  · by_cases hroom : n + m ≤ cap
    · have hfit : n * i.size + news.length ≤ cur.size := by rw [hl, hcs, ← Nat.add_mul]; exact Nat.mul_le_mul_right _ hroom
      have hr' := run_append_room (P := P) w t ty e i ht hi g0 n cap cur hg0 a m c news hl hnews h1 hroom hfit
      rw [hr'] at hr
      cases hr
      exact .inl hg
    · have holds : ∀ j u, xs[j]? = some u → w.cell? ((⟨g0, 0, none⟩ : Addr).add j) = some u := World.ownsRow.cells (g := g0) ⟨ho1, .inr ⟨g0, cap, cur, rfl, hbg, hg0, hnc, hcm, hcs, htake⟩⟩ rfl
      have hr' := run_append_grow (P := P) w t ty e i z ht hi hz ⟨g0, 0, none⟩ n cap xs ho1 holds a m c news hl hnews (by omega) (by omega) (growslice_fits (by omega) hbytes)
      rw [hr'] at hr
      cases hr
      simp only [Value.ownBlock, Option.some.injEq] at hg
      exact .inr hg.symm

theorem wpL_append {w : World} {ops : Array Oper} {rest : List Oper} {o : Oper} {a : Act} {Q : Exit → Act → World → Prop} (hgd : o.guard = none) (s x : Operand) (t : TypeId)
    (ho : o.op = .call { callee := .builtin .append, args := #[s, x], argTypes := #[t, t] })
    (e : TypeId) (i : TypeInfo) (z : Value) (size bytes : Nat) (ht : P.underlying t = some (.slice e)) (hi : P.info? e = some i) (hz : i.zero = some z)
    (hsize : i.size = size) (hby : i.bytes = bytes) (hzs : z.cells.size = size) (hsz : 0 < size)
    (v : Value) (n : Nat) (xs : List Value) (hs : a.eval s = v) (hown : Own w e size v n xs)
    (ad : Addr) (m c : Nat) (news : List Value) (hx : a.eval x = .slice (some ad) m c) (hl : news.length = m * size) (hnews : ∀ j u, news[j]? = some u → w.cell? (ad.add j) = some u) (h1 : ∀ u ∈ news, u.oneCell' = true)
    (h63 : n + m ≤ maxLen) (hbytes : (n + m) * bytes ≤ 140737488355328)
    (h : ∀ v' w', Own w' e size v' (n + m) (xs ++ news) → w.grownBy w' v.ownBlock → (v' = .slice none 0 0 ↔ v = .slice none 0 0 ∧ m = 0) → (∀ g, v'.ownBlock = some g → v.ownBlock = some g ∨ g = w.heap.size) → wpList P ops Q rest (a.put o.dst v') w') : wpList P ops Q (o :: rest) a w := by
  refine wpList_plain hgd fun _ hK => ?_
  obtain ⟨v', w', hr, h2, h3, h4, h5⟩ := run_append_mine (P := P) w t o.type e i z size bytes ht hi hz hsize hby hzs hsz v n xs hown ad m c news hl hnews h1 h63 hbytes
  unfold Oper.wp execOp
  simp only [ho, resolve, invoke, builtin, Sem.run_bind, Sem.run_pure, Result.andThen_ok, List.map_toArray, List.map_cons, List.map_nil, hs, hx, hr]
  exact hK _ _ (h v' w' h2 h3 h4 h5)

theorem cells_new (w : World) (c : Array Value) (t : TypeId) : ∀ j u, c.toList[j]? = some u → (w.alloc (.cells c t)).cell? ((⟨w.heap.size, 0, none⟩ : Addr).add j) = some u := by
  intro j u hj
  have h : ((⟨w.heap.size, 0, none⟩ : Addr).add j) = ⟨w.heap.size, j, none⟩ := by
    unfold Addr.add
    split
    · simp_all
    · simp
  rw [h, World.cell?_alloc_at _ _ _ _ rfl]
  simpa using hj

/-- append of one element, which has just been laid into a block of its own -/
theorem wpL_app1 {w : World} {c : Array Value} {et : TypeId} {ops : Array Oper} {rest : List Oper} {o : Oper} {a : Act} {Q : Exit → Act → World → Prop} (hgd : o.guard = none) (s x : Operand) (t : TypeId)
    (ho : o.op = .call { callee := .builtin .append, args := #[s, x], argTypes := #[t, t] })
    (e : TypeId) {z : Value} {size bytes : Nat} (ht : P.underlying t = some (.slice e)) (hi : (P.info? e).map (fun i => (i.zero, i.size, i.bytes)) = some (some z, size, bytes))
    (hzs : z.cells.size = size) (hsz : 0 < size)
    {v : Value} {n : Nat} {xs : List Value} (hown : Own w e size v n xs) (hs : a.eval s = v) (hx : a.eval x = .slice (some ⟨w.heap.size, 0, none⟩) 1 1) (hc : c.size = size) (h1 : ∀ u ∈ c.toList, u.oneCell' = true)
    (hbytes : (n + 1) * bytes ≤ 140737488355328) (h63 : n + 1 ≤ maxLen)
    (h : ∀ v' w', Own w' e size v' (n + 1) (xs ++ c.toList) → w.grownBy w' v.ownBlock → v' ≠ .slice none 0 0 → (∀ g, v'.ownBlock = some g → v.ownBlock = some g ∨ w.heap.size ≤ g) → wpList P ops Q rest (a.put o.dst v') w') : wpList P ops Q (o :: rest) a (w.alloc (.cells c et)) := by
  obtain ⟨i, hi1, hz, hsize, hby⟩ := info_parts hi
  refine wpL_append hgd s x t ho e i z size bytes ht hi1 hz hsize hby hzs hsz v n xs hs (hown.ext (.alloc _ _)) ⟨w.heap.size, 0, none⟩ 1 1 c.toList hx (by simpa using hc) (cells_new w c et) h1 h63 hbytes ?_
  intro v' w' h2 h3 h4 h5
  refine h v' w' h2 (World.grownBy.ext_trans (.alloc _ _) h3) (fun e => by simpa using (h4.1 e).2) (fun g hg => ?_)
  rcases h5 g hg with h | h
  · exact .inl h
  · exact .inr (by rw [h]; simp)

theorem cells_one {v : Value} (h : v.oneCell' = true) : v.cells = #[v] := by cases v <;> first | rfl | simp [Value.oneCell'] at h

theorem run_storeAt_one {w : World} {t : TypeId} {i : TypeInfo} (hi : P.info? t = some i) (hsize : i.size = 1) {p : Addr} {v : Value} (hv : v.oneCell' = true) (hc : (w.cell? p).isSome = true) (hf : w.frozen? p = false) :
    (Instr.storeAt t (.pointer (some p)) v).run P w = .ok () (w.setCell p v) := by
  obtain ⟨u, hu⟩ := Option.isSome_iff_exists.1 hc
  have ha : p.add 0 = p := by simp [Addr.add]
  simp [Instr.storeAt, Instr.sureAddr, storeVar, sizeOf, typeInfo, hi, hsize, cells_one hv, storeCells, run_store_one P w _ _ v hv, stored, ha, hu, hf]

/-- *p = v, v of one cell -/
theorem wpL_store1 {w : World} {ops : Array Oper} {rest : List Oper} {o : Oper} {a : Act} {Q : Exit → Act → World → Prop} (hgd : o.guard = none) (t : TypeId) (ad x : Operand) (ho : o.op = .store t ad x)
    {z : Value} {bytes : Nat} (hi : (P.info? t).map (fun i => (i.zero, i.size, i.bytes)) = some (some z, 1, bytes)) {p : Addr} {v : Value} (hp : a.eval ad = .pointer (some p)) (hx : a.eval x = v) (hv : v.oneCell' = true)
    (hc : (w.cell? p).isSome = true) (hf : w.frozen? p = false) (h : wpList P ops Q rest (a.put o.dst undef) (w.setCell p v)) : wpList P ops Q (o :: rest) a w := by
  obtain ⟨i, hi1, hz, hsize, hby⟩ := info_parts hi
  refine wpList_plain hgd fun _ hK => ?_
  unfold Oper.wp execOp
  simp only [ho, hp, hx, Sem.run_bind, Sem.run_pure, Result.andThen_ok, run_storeAt_one hi1 hsize hv hc hf]
  exact hK _ _ h

theorem wp_store1 {w : World} {o : Oper} {a : Act} {K : Act → World → Prop} {Q : Exit → Act → World → Prop} (t : TypeId) (ad x : Operand) (ho : o.op = .store t ad x)
    {z : Value} {bytes : Nat} (hi : (P.info? t).map (fun i => (i.zero, i.size, i.bytes)) = some (some z, 1, bytes)) {p : Addr} {v : Value} (hp : a.eval ad = .pointer (some p)) (hx : a.eval x = v) (hv : v.oneCell' = true)
    (hc : (w.cell? p).isSome = true) (hf : w.frozen? p = false) (h : K (a.put o.dst undef) (w.setCell p v)) : o.wp P a w K Q := by
  obtain ⟨i, hi1, hz, hsize, hby⟩ := info_parts hi
  unfold Oper.wp execOp
  simp only [ho, hp, hx, Sem.run_bind, Sem.run_pure, Result.andThen_ok, run_storeAt_one hi1 hsize hv hc hf]
  exact h

/-- .. into a block that has just been made -/
theorem wpL_init1 {w : World} {c c' : Array Value} {et : TypeId} {ops : Array Oper} {rest : List Oper} {o : Oper} {a : Act} {Q : Exit → Act → World → Prop} (hgd : o.guard = none) (t : TypeId) (ad x : Operand) (ho : o.op = .store t ad x)
    {z : Value} {bytes : Nat} (hi : (P.info? t).map (fun i => (i.zero, i.size, i.bytes)) = some (some z, 1, bytes)) {n off : Nat} {v : Value} (hp : a.eval ad = .pointer (some ⟨n, off, none⟩)) (hn : n = w.heap.size) (hx : a.eval x = v) (hv : v.oneCell' = true)
    (ho1 : off < c.size) (hc' : c.setIfInBounds off v = c') (h : wpList P ops Q rest (a.put o.dst undef) (w.alloc (.cells c' et))) : wpList P ops Q (o :: rest) a (w.alloc (.cells c et)) := by
  subst hn
  refine wpL_store1 hgd t ad x ho hi hp hx hv (by rw [World.cell?_alloc_at _ _ _ _ rfl]; simp [ho1]) (World.frozen?_alloc_at _ _ _ _ rfl) ?_
  have e : (w.alloc (.cells c et)).setCell ⟨w.heap.size, off, none⟩ v = w.alloc (.cells c' et) := by
    subst hc'
    rw [World.setCell_alloc_at _ _ _ _ _ rfl]
  rw [e]
  exact h

theorem wp_storeRow {w : World} {o : Oper} {a : Act} {K : Act → World → Prop} {Q : Exit → Act → World → Prop} (t : TypeId) (ad x : Operand) (ho : o.op = .store t ad x)
    {b : Nat} {old cells : Array Value} {T : TypeId} (hi : (P.info? t).map (·.size) = some cells.size) (hp : a.eval ad = .pointer (some ⟨b, 0, none⟩)) (hx : a.eval x = .agg cells) (hb : w.heap[b]? = some (.cells old T (0, 0))) (hs : old.size = cells.size)
    (h1 : cells.all (·.oneCell') = true) (h : ∀ w', w'.heap[b]? = some (.cells cells T (0, 0)) → w.grownBy w' (some b) → K (a.put o.dst undef) w') : o.wp P a w K Q := by
  have hr := run_storeVar_row (P := P) w b T t old cells hb hi hs h1
  unfold Oper.wp execOp
  simp only [ho, hp, hx, Sem.run_bind, Sem.run_pure, Result.andThen_ok, Instr.storeAt, Instr.sureAddr, hr]
  refine h _ ?_ ⟨rfl, rfl, rfl, ?_, fun k _ hk => ?_⟩
  · simp [World.setRow, Array.getElem?_modify, hb]
  · simp [World.setRow]
  · simp only [World.setRow, Array.getElem?_modify]
    rw [if_neg (fun e => hk (by simp [e]))]

/-- *p = v, v of several cells, into a block of the function's own -/
theorem wpL_storeRow {w : World} {ops : Array Oper} {rest : List Oper} {o : Oper} {a : Act} {Q : Exit → Act → World → Prop} (hgd : o.guard = none) (t : TypeId) (ad x : Operand) (ho : o.op = .store t ad x)
    {b : Nat} {old cells : Array Value} {T : TypeId} (hi : (P.info? t).map (·.size) = some cells.size) (hp : a.eval ad = .pointer (some ⟨b, 0, none⟩)) (hx : a.eval x = .agg cells) (hb : w.heap[b]? = some (.cells old T (0, 0))) (hs : old.size = cells.size)
    (h1 : cells.all (·.oneCell') = true) (h : ∀ w', w'.heap[b]? = some (.cells cells T (0, 0)) → w.grownBy w' (some b) → wpList P ops Q rest (a.put o.dst undef) w') : wpList P ops Q (o :: rest) a w := by
  refine wpList_plain hgd fun _ hK => ?_
  have hr := run_storeVar_row (P := P) w b T t old cells hb hi hs h1
  unfold Oper.wp execOp
  simp only [ho, hp, hx, Sem.run_bind, Sem.run_pure, Result.andThen_ok, Instr.storeAt, Instr.sureAddr, hr]
  refine hK _ _ (h _ ?_ ⟨rfl, rfl, rfl, ?_, fun k _ hk => ?_⟩)
  · simp [World.setRow, Array.getElem?_modify, hb]
  · simp [World.setRow]
  · simp only [World.setRow, Array.getElem?_modify]
    rw [if_neg (fun e => hk (by simp [e]))]

/-- []T{x}, x of one cell -/
theorem wpL_lit1 {w : World} {ops : Array Oper} {rest : List Oper} {o : Oper} {a : Act} {Q : Exit → Act → World → Prop} (hgd : o.guard = none) (t : TypeId) (x : Operand) (ho : o.op = .buildSlice t 1 #[(0, x)])
    (e : TypeId) {z : Value} {bytes : Nat} (ht : P.underlying t = some (.slice e)) (hi : (P.info? e).map (fun i => (i.zero, i.size, i.bytes)) = some (some z, 1, bytes)) (hz1 : z.oneCell' = true)
    {v : Value} (hx : a.eval x = v) (hv : v.oneCell' = true) (h : wpList P ops Q rest (a.put o.dst (.slice (some ⟨w.heap.size, 0, none⟩) 1 1)) (w.alloc (.cells #[v] e))) : wpList P ops Q (o :: rest) a w := by
  obtain ⟨i, hi1, hz, hsize, hby⟩ := info_parts hi
  refine wpList_plain hgd fun _ hK => ?_
  have hr : (Instr.buildSlice t 1 #[(0, v)]).run P w = .ok (.slice (some ⟨w.heap.size, 0, none⟩) 1 1) (w.alloc (.cells #[v] e)) := by
    simp [Instr.buildSlice, run_underlying ht, sizeOf, typeInfo, zeroValue, hi1, hsize, hz, cells_one hz1, cells_one hv, Instr.fill, newRow]
    have e1 : ∀ f : Nat → Value, ((Array.map f (Array.range 1)).setIfInBounds 0 v) = #[v] := fun f => by
      apply Array.ext
      · simp
      · intro j h1 h2
        have : j = 0 := by simpa using h2
        subst this
        simp
    rw [e1]
  unfold Oper.wp execOp
  simp only [ho, List.map_toArray, List.map_cons, List.map_nil, hx, Sem.run_bind, Sem.run_pure, Result.andThen_ok, hr]
  exact hK _ _ h

/-- append of m elements of a slice that may be nil or empty -/
theorem run_append_gen (w : World) (t ty e : TypeId) {z : Value} {size bytes : Nat} (ht : P.underlying t = some (.slice e)) (hi : (P.info? e).map (fun i => (i.zero, i.size, i.bytes)) = some (some z, size, bytes))
    (hzs : z.cells.size = size) (hsz : 0 < size) {v : Value} {n : Nat} {xs : List Value} (hown : Own w e size v n xs)
    (so : Option Addr) (m c : Nat) (news : List Value) (hl : news.length = m * size) (hnil : so = none → m = 0) (hnews : ∀ ad, so = some ad → ∀ j u, news[j]? = some u → w.cell? (ad.add j) = some u) (h1 : ∀ u ∈ news, u.oneCell' = true)
    (h63 : n + m ≤ maxLen) (hbytes : (n + m) * bytes ≤ 140737488355328) :
    ∃ v' w', (Builtin.append_ #[t, t] ty #[v, .slice so m c]).run P w = .ok v' w' ∧ Own w' e size v' (n + m) (xs ++ news) ∧ w.grownBy w' v.ownBlock ∧
      (v' = .slice none 0 0 ↔ v = .slice none 0 0 ∧ m = 0) ∧ ∀ g, v'.ownBlock = some g → v.ownBlock = some g ∨ g = w.heap.size := by
  obtain ⟨i, hi1, hz, hsize, hby⟩ := info_parts hi
  cases so with
  | some ad => exact run_append_mine w t ty e i z size bytes ht hi1 hz hsize hby hzs hsz v n xs hown ad m c news hl (hnews ad rfl) h1 h63 hbytes
  | none =>
    obtain rfl := hnil rfl
    have hn : news = [] := List.eq_nil_of_length_eq_zero (by simpa using hl)
    subst hn
    have hrun : (Builtin.append_ #[t, t] ty #[v, .slice none 0 c]).run P w = .ok v w := by
      rcases hown.2 with ⟨rfl, rfl⟩ | ⟨g, cap, cur, rfl, _, _, hnc, _⟩
      · simp [Builtin.append_, run_underlying ht, sizeOf, typeInfo, hi1, Builtin.lenOf, Builtin.firstCells]
      · simp [Builtin.append_, run_underlying ht, sizeOf, typeInfo, hi1, Builtin.lenOf, Builtin.firstCells, hnc, storeCells]
    exact ⟨v, w, hrun, by simpa using hown, ⟨rfl, rfl, rfl, Nat.le_refl _, fun _ _ _ => rfl⟩, by simp, fun g hg => .inl hg⟩

theorem wpL_appendG {w : World} {ops : Array Oper} {rest : List Oper} {o : Oper} {a : Act} {Q : Exit → Act → World → Prop} (hgd : o.guard = none) (s x : Operand) (t : TypeId)
    (ho : o.op = .call { callee := .builtin .append, args := #[s, x], argTypes := #[t, t] })
    (e : TypeId) {z : Value} {size bytes : Nat} (ht : P.underlying t = some (.slice e)) (hi : (P.info? e).map (fun i => (i.zero, i.size, i.bytes)) = some (some z, size, bytes))
    (hzs : z.cells.size = size) (hsz : 0 < size)
    {v : Value} {n : Nat} {xs : List Value} (hown : Own w e size v n xs) (hs : a.eval s = v)
    (so : Option Addr) (m c : Nat) (news : List Value) (hx : a.eval x = .slice so m c) (hl : news.length = m * size) (hnil : so = none → m = 0) (hnews : ∀ ad, so = some ad → ∀ j u, news[j]? = some u → w.cell? (ad.add j) = some u) (h1 : ∀ u ∈ news, u.oneCell' = true)
    (h63 : n + m ≤ maxLen) (hbytes : (n + m) * bytes ≤ 140737488355328)
    (h : ∀ v' w', Own w' e size v' (n + m) (xs ++ news) → w.grownBy w' v.ownBlock → (v' = .slice none 0 0 ↔ v = .slice none 0 0 ∧ m = 0) → (∀ g, v'.ownBlock = some g → v.ownBlock = some g ∨ g = w.heap.size) → wpList P ops Q rest (a.put o.dst v') w') : wpList P ops Q (o :: rest) a w := by
  refine wpList_plain hgd fun _ hK => ?_
  obtain ⟨v', w', hr, h2, h3, h4, h5⟩ := run_append_gen (P := P) w t o.type e ht hi hzs hsz hown so m c news hl hnil hnews h1 h63 hbytes
  unfold Oper.wp execOp
  simp only [ho, resolve, invoke, builtin, Sem.run_bind, Sem.run_pure, Result.andThen_ok, List.map_toArray, List.map_cons, List.map_nil, hs, hx, hr]
  exact hK _ _ (h v' w' h2 h3 h4 h5)

/-- make([]T, 0, c) -/
theorem wpL_make {w : World} {ops : Array Oper} {rest : List Oper} {o : Oper} {a : Act} {Q : Exit → Act → World → Prop} (hgd : o.guard = none) (t : TypeId) (lo co : Operand) (ho : o.op = .makeSlice t lo co)
    (e : TypeId) {z : Value} {size bytes : Nat} (ht : P.underlying t = some (.slice e)) (hi : (P.info? e).map (fun i => (i.zero, i.size, i.bytes)) = some (some z, size, bytes))
    (c : Nat) (hl : a.eval lo = .int .i64 0) (hc : a.eval co = .int .i64 c) (hbytes : bytes * c ≤ 281474976710656) (h63 : c ≤ maxLen)
    (h : ∀ w', Own w' e size (.slice (some ⟨w.heap.size, 0, none⟩) 0 c) 0 [] → Ext w w' → wpList P ops Q rest (a.put o.dst (.slice (some ⟨w.heap.size, 0, none⟩) 0 c)) w') : wpList P ops Q (o :: rest) a w := by
  obtain ⟨i, hi1, hz, hsize, hby⟩ := info_parts hi
  subst hby
  obtain ⟨w', hr, h2, h3⟩ := run_make_own (P := P) w 0 t e i z size ht hi1 hz hsize .i64 .i64 c hbytes h63 (Nat.zero_le _)
  refine wpList_plain hgd fun _ hK => ?_
  unfold Oper.wp execOp
  simp only [ho, Sem.run_bind, Sem.run_pure, Result.andThen_ok, hl, hc, hr]
  exact hK _ _ (h w' h2 (World.grownBy.ext h3))
end

/-- two lists, related place by place -/
inductive All2 {α β : Type} (R : α → β → Prop) : List α → List β → Prop where
  | nil : All2 R [] []
  | cons {a : α} {b : β} {as : List α} {bs : List β} (h : R a b) (t : All2 R as bs) : All2 R (a :: as) (b :: bs)
theorem All2.snoc {α β : Type} {R : α → β → Prop} {as : List α} {bs : List β} (h : All2 R as bs) {a : α} {b : β} (hab : R a b) : All2 R (as ++ [a]) (bs ++ [b]) := by
  induction h with
  | nil => exact .cons hab .nil
  | cons h _ ih => exact .cons h ih
theorem All2.append {α β : Type} {R : α → β → Prop} {as as' : List α} {bs bs' : List β} (h : All2 R as bs) (h' : All2 R as' bs') : All2 R (as ++ as') (bs ++ bs') := by
  induction h with
  | nil => exact h'
  | cons h1 _ ih => exact .cons h1 ih
theorem All2.take {α β : Type} {R : α → β → Prop} {as : List α} {bs : List β} (h : All2 R as bs) : ∀ n, All2 R (as.take n) (bs.take n) := by
  induction h with
  | nil => intro n; simp; exact .nil
  | cons h1 _ ih => intro n; cases n with
    | zero => exact .nil
    | succ n => exact .cons h1 (ih n)
theorem All2.drop {α β : Type} {R : α → β → Prop} {as : List α} {bs : List β} (h : All2 R as bs) : ∀ n, All2 R (as.drop n) (bs.drop n) := by
  induction h with
  | nil => intro n; simp; exact .nil
  | cons h1 h2 ih => intro n; cases n with
    | zero => exact .cons h1 h2
    | succ n => exact ih n
theorem All2.length {α β : Type} {R : α → β → Prop} {as : List α} {bs : List β} (h : All2 R as bs) : as.length = bs.length := by
  induction h with
  | nil => rfl
  | cons h _ ih => simp [ih]
theorem All2.imp {α β : Type} {R R' : α → β → Prop} (hr : ∀ a b, R a b → R' a b) {as : List α} {bs : List β} (h : All2 R as bs) : All2 R' as bs := by
  induction h with
  | nil => exact .nil
  | cons h _ ih => exact .cons (hr _ _ h) ih
theorem All2.get {α β : Type} {R : α → β → Prop} {as : List α} {bs : List β} (h : All2 R as bs) : ∀ i (hi : i < as.length) (hi' : i < bs.length), R (as[i]) (bs[i]) := by
  induction h with
  | nil => intro i hi; simp at hi
  | cons h hs ih =>
    intro i hi hi'
    cases i with
    | zero => exact h
    | succ i => exact ih i (by simpa using hi) (by simpa using hi')

theorem Own.cell {w : World} {e : Nat} {g cap n : Nat} {xs : List Value} (h : Own w e 1 (.slice (some ⟨g, 0, none⟩) n cap) n xs) (i : Nat) (hi : i < xs.length) : w.cell? ⟨g, 0 + i, none⟩ = some (xs[i]) := by
  have := World.ownsRow.cells (g := g) h rfl i (xs[i]) (by simp)
  have e1 : ((⟨g, 0, none⟩ : Addr).add i) = ⟨g, 0 + i, none⟩ := by
    unfold Addr.add
    split
    · simp_all
    · simp
  rw [e1] at this
  exact this
theorem Own.shape {w : World} {e size : Nat} {v : Value} {n : Nat} {xs : List Value} (h : Own w e size v n xs) (hv : v ≠ .slice none 0 0) : ∃ g cap, v = .slice (some ⟨g, 0, none⟩) n cap ∧ n ≤ cap := by
  obtain ⟨_, h2 | ⟨g, cap, cur, h3, _, _, h4, _⟩⟩ := h
  · exact absurd h2.1 hv
  · exact ⟨g, cap, h3, h4⟩

/-- behind an append: what was clear of the old row is clear of the new one -/
theorem Mv.row {a b c : World} {X : List Nat} {g g' : Nat} (h : Mv a (g :: X) b (g :: X)) (hg : b.grownBy c (some g)) (hd : g = g' ∨ b.heap.size ≤ g') : Mv a (g :: X) c (g' :: X) := by
  have h1 := h.grown hg (by simp)
  refine ⟨h1.size, fun k hk hx => ⟨(h1.block k hk hx).1, ?_⟩⟩
  have h2 := (h1.block k hk hx).2
  simp only [List.mem_cons, not_or] at h2 ⊢
  refine ⟨?_, h2.2⟩
  rcases hd with rfl | hd
  · exact h2.1
  · have := h.size; omega
/-- a store into a block of the function's own, with the world behind it under a name of its own -/
theorem abs_set {w : World} {b off : Nat} {cs : Array Value} {T : TypeId} {fr : Nat × Nat} {v : Value} {G : World → Prop} (hh : w.heap[b]? = some (.cells cs T fr))
    (h : ∀ w1, w1.heap[b]? = some (.cells (cs.setIfInBounds off v) T fr) → w.grownBy w1 (some b) → w1.heap.size = w.heap.size → G w1) : G (w.setCell ⟨b, off, none⟩ v) :=
  h _ (by simp [World.setCell, Array.getElem?_modify, hh]) ⟨rfl, rfl, rfl, by simp [World.setCell], fun k _ hk => Below.heap_setCell _ _ _ _ (fun e => hk (by simp [e]))⟩ (by simp [World.setCell])

theorem addr_add (b off j : Nat) : ((⟨b, off, none⟩ : Addr).add j) = ⟨b, off + j, none⟩ := by
  unfold Addr.add
  split
  · simp_all
  · rfl

end Go.Proofs.YtihapgangilncaaGreat
