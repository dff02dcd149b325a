/- Rows of a function's own, whose elements read as data of whatever kind; operations of regions at Oper.wp. -/
import Derived.Test.YtihapgangilncaaGreatKGRep
import Derived.Test.YtihapgangilncaaGreatKGPar
import Derived.Laws.OwnMore
namespace Go.Proofs.YtihapgangilncaaGreat
open Go.RowKit

/-- the block of a slice, if it has one -/
def vb (v : Value) : List Nat := v.ownBlock.toList

/-- more blocks to be kept clear of, which are newer than all that a held -/
theorem Mv.moreL {a b : World} {X Y Z : List Nat} (h : Mv a X b Y) (hZ : ∀ z ∈ Z, a.heap.size ≤ z) : Mv a X b (Z ++ Y) :=
  ⟨h.size, fun k hk hx => ⟨(h.block k hk hx).1, by
    simp only [List.mem_append, not_or]
    exact ⟨fun hz => by have := hZ k hz; omega, (h.block k hk hx).2⟩⟩⟩

/-- what a store into a block of the function's own leaves -/
theorem set_facts {w : World} {b off : Nat} {cs : Array Value} {T : TypeId} {fr : Nat × Nat} (v : Value) (hh : w.heap[b]? = some (.cells cs T fr)) :
    (w.setCell ⟨b, off, none⟩ v).heap[b]? = some (.cells (cs.setIfInBounds off v) T fr) ∧ w.grownBy (w.setCell ⟨b, off, none⟩ v) (some b) ∧ (w.setCell ⟨b, off, none⟩ v).heap.size = w.heap.size :=
  abs_set (G := fun w1 => w1.heap[b]? = some (.cells (cs.setIfInBounds off v) T fr) ∧ w.grownBy w1 (some b) ∧ w1.heap.size = w.heap.size) hh (fun _ h1 h2 h3 => ⟨h1, h2, h3⟩)

section
variable {P : Program}
theorem wp_append {w : World} {o : Oper} {a : Act} {K : Act → World → Prop} {Q : Exit → Act → World → Prop} (s x : Operand) (t : TypeId)
    (ho : o.op = .call { callee := .builtin .append, args := #[s, x], argTypes := #[t, t] })
    (e : TypeId) (i : TypeInfo) (z : Value) (size bytes : Nat) (ht : P.underlying t = some (.slice e)) (hi : P.info? e = some i) (hz : i.zero = some z)
    (hsize : i.size = size) (hby : i.bytes = bytes) (hzs : z.cells.size = size) (hsz : 0 < size)
    (v : Value) (n : Nat) (xs : List Value) (hs : a.eval s = v) (hown : Own w e size v n xs)
    (ad : Addr) (m c : Nat) (news : List Value) (hx : a.eval x = .slice (some ad) m c) (hl : news.length = m * size) (hnews : ∀ j u, news[j]? = some u → w.cell? (ad.add j) = some u) (h1 : ∀ u ∈ news, u.oneCell' = true)
    (h63 : n + m ≤ maxLen) (hbytes : (n + m) * bytes ≤ 140737488355328)
    (h : ∀ v' w', Own w' e size v' (n + m) (xs ++ news) → w.grownBy w' v.ownBlock → (v' = .slice none 0 0 ↔ v = .slice none 0 0 ∧ m = 0) → (∀ g, v'.ownBlock = some g → v.ownBlock = some g ∨ g = w.heap.size) → K (a.put o.dst v') w') : o.wp P a w K Q := by
  obtain ⟨v', w', hr, h2, h3, h4, h5⟩ := run_append_mine (P := P) w t o.type e i z size bytes ht hi hz hsize hby hzs hsz v n xs hown ad m c news hl hnews h1 h63 hbytes
  unfold Oper.wp execOp
  simp only [ho, resolve, invoke, builtin, Sem.run_bind, Sem.run_pure, Result.andThen_ok, List.map_toArray, List.map_cons, List.map_nil, hs, hx, hr]
  exact h v' w' h2 h3 h4 h5

/-- append of one element, which has just been laid into a block of its own -/
theorem wp_app1 {w : World} {c : Array Value} {et : TypeId} {o : Oper} {a : Act} {K : Act → World → Prop} {Q : Exit → Act → World → Prop} (s x : Operand) (t : TypeId)
    (ho : o.op = .call { callee := .builtin .append, args := #[s, x], argTypes := #[t, t] })
    (e : TypeId) {z : Value} {size bytes : Nat} (ht : P.underlying t = some (.slice e)) (hi : (P.info? e).map (fun i => (i.zero, i.size, i.bytes)) = some (some z, size, bytes))
    (hzs : z.cells.size = size) (hsz : 0 < size)
    {v : Value} {n : Nat} {xs : List Value} (hown : Own w e size v n xs) (hs : a.eval s = v) (hx : a.eval x = .slice (some ⟨w.heap.size, 0, none⟩) 1 1) (hc : c.size = size) (h1 : ∀ u ∈ c.toList, u.oneCell' = true)
    (hbytes : (n + 1) * bytes ≤ 140737488355328) (h63 : n + 1 ≤ maxLen)
    (h : ∀ v' w', Own w' e size v' (n + 1) (xs ++ c.toList) → w.grownBy w' v.ownBlock → v' ≠ .slice none 0 0 → (∀ g, v'.ownBlock = some g → v.ownBlock = some g ∨ w.heap.size ≤ g) → K (a.put o.dst v') w') : o.wp P a (w.alloc (.cells c et)) K Q := by
  obtain ⟨i, hi1, hz, hsize, hby⟩ := info_parts hi
  refine wp_append s x t ho e i z size bytes ht hi1 hz hsize hby hzs hsz v n xs hs (hown.ext (.alloc _ _)) ⟨w.heap.size, 0, none⟩ 1 1 c.toList hx (by simpa using hc) (cells_new w c et) h1 h63 hbytes ?_
  intro v' w' h2 h3 h4 h5
  refine h v' w' h2 (World.grownBy.ext_trans (.alloc _ _) h3) (fun e => by simpa using (h4.1 e).2) (fun g hg => ?_)
  rcases h5 g hg with h | h
  · exact .inl h
  · exact .inr (by rw [h]; simp)
end

/-- a kind of data that lies in a given number of cells -/
structure Kind (α : Type) where
  size : Nat
  is : World → List Nat → List Value → α → Prop
  mv : ∀ {w w' : World} {X Y : List Nat} {cs : List Value} {a : α}, is w X cs a → Mv w X w' Y → is w' Y cs a
  len : ∀ {w : World} {X : List Nat} {cs : List Value} {a : α}, is w X cs a → cs.length = size
  one : ∀ {w : World} {X : List Nat} {cs : List Value} {a : α}, is w X cs a → ∀ u ∈ cs, u.oneCell' = true

/-- v is a row of the function's own with the data us, outside X -/
structure Row {α : Type} (k : Kind α) (e : TypeId) (w : World) (X : List Nat) (v : Value) (us : List α) : Prop where
  ex : ∃ rows : List (List Value), Own w e k.size v us.length rows.flatten ∧ All2 (k.is w (vb v ++ X)) rows us ∧ ∀ g, v.ownBlock = some g → g ∉ X

theorem Row.nil {α : Type} (k : Kind α) (e : TypeId) (w : World) (X : List Nat) : Row k e w X (.slice none 0 0) [] := ⟨[], Own.nil _ _ _, .nil, fun g h => by simp [Value.ownBlock] at h⟩
theorem Row.notin {α : Type} {k : Kind α} {e : TypeId} {w : World} {X : List Nat} {v : Value} {us : List α} (h : Row k e w X v us) {b : Nat} (hb : b ∈ X) : ¬ some b = v.ownBlock := fun e => by
  obtain ⟨rows, _, _, h3⟩ := h.ex
  exact h3 b e.symm hb
theorem Row.one {α : Type} {k : Kind α} {e : TypeId} {w : World} {X : List Nat} {v : Value} {us : List α} (h : Row k e w X v us) : v.oneCell' = true := by
  obtain ⟨rows, h1, _⟩ := h.ex
  exact h1.one
theorem Row.lt {α : Type} {k : Kind α} {e : TypeId} {w : World} {X : List Nat} {v : Value} {us : List α} (h : Row k e w X v us) {g : Nat} (hg : v.ownBlock = some g) : g < w.heap.size := by
  obtain ⟨rows, h1, _⟩ := h.ex
  exact h1.lt hg
theorem Row.old {α : Type} {k : Kind α} {e : TypeId} {w : World} {X : List Nat} {v : Value} {us : List α} (h : Row k e w X v us) (hX : Old X w) : Old (vb v ++ X) w := by
  intro b hb
  rcases List.mem_append.1 hb with hb | hb
  · exact h.lt (by simpa [vb] using hb)
  · exact hX b hb
theorem Row.ext {α : Type} {k : Kind α} {e : TypeId} {w w' : World} {X : List Nat} {v : Value} {us : List α} (h : Row k e w X v us) (hE : Ext w w') : Row k e w' X v us := by
  obtain ⟨rows, h1, h2, h3⟩ := h.ex
  exact ⟨rows, h1.ext hE, h2.imp fun _ _ h => k.mv h (hE.mv _), h3⟩
/-- a store into a block of X leaves the row alone -/
theorem Row.keep {α : Type} {k : Kind α} {e : TypeId} {w w' : World} {X : List Nat} {v : Value} {us : List α} (h : Row k e w X v us) {b : Nat} (hg : w.grownBy w' (some b)) (hb : b ∈ X) : Row k e w' X v us := by
  obtain ⟨rows, h1, h2, h3⟩ := h.ex
  exact ⟨rows, h1.keep fun g hgg => hg.block g (h1.lt hgg) (fun e => h3 g hgg (by cases e; exact hb)), h2.imp fun _ _ h => k.mv h ((Mv.refl _ _).grown hg (fun j hj => by cases hj; simp [hb])), h3⟩
theorem Row.less {α : Type} {k : Kind α} {e : TypeId} {w : World} {X Y : List Nat} {v : Value} {us : List α} (h : Row k e w X v us) (hY : ∀ b ∈ Y, b ∈ X) : Row k e w Y v us := by
  obtain ⟨rows, h1, h2, h3⟩ := h.ex
  refine ⟨rows, h1, h2.imp fun _ _ h => k.mv h ((Mv.refl _ _).less fun b hb => ?_), fun g hg hx => h3 g hg (hY g hx)⟩
  rcases List.mem_append.1 hb with hb | hb
  · exact List.mem_append_left _ hb
  · exact List.mem_append_right _ (hY b hb)
theorem Row.flat {α : Type} {k : Kind α} {w : World} {X : List Nat} {rows : List (List Value)} {us : List α} (h : All2 (k.is w X) rows us) : ∀ u ∈ rows.flatten, u.oneCell' = true := by
  intro u hu
  induction h with
  | nil => simp at hu
  | cons h _ ih =>
    rw [List.flatten_cons, List.mem_append] at hu
    rcases hu with hu | hu
    · exact k.one h u hu
    · exact ih hu

/-- what is clear of a row is clear of what an append makes of it -/
theorem Mv.app {w2 w4 : World} {v v' : Value} {Z : List Nat} (hg : w2.grownBy w4 v.ownBlock) (hd : ∀ g, v'.ownBlock = some g → v.ownBlock = some g ∨ w2.heap.size ≤ g) : Mv w2 (vb v ++ Z) w4 (vb v' ++ Z) := by
  refine ⟨hg.size, fun b hb hx => ?_⟩
  simp only [List.mem_append, not_or] at hx
  refine ⟨hg.block b hb (fun e => hx.1 (by simp [vb, ← e])), ?_⟩
  simp only [List.mem_append, not_or]
  refine ⟨fun hb' => ?_, hx.2⟩
  have hb2 : v'.ownBlock = some b := by simpa [vb] using hb'
  rcases hd b hb2 with h | h
  · exact hx.1 (by simp [vb, h])
  · omega
/-- behind an append of one element -/
theorem Row.snoc {α : Type} {k : Kind α} {e : TypeId} {w w2 w4 : World} {X : List Nat} {v v' : Value} {us : List α} {u : α} {cs : List Value} {rows : List (List Value)} (h2 : All2 (k.is w (vb v ++ X)) rows us) (hE : Ext w w2) (hX : Old X w2)
    (h3 : ∀ g, v.ownBlock = some g → g ∉ X) (hu : k.is w2 (vb v ++ X) cs u)
    (ho : Own w4 e k.size v' (us.length + 1) (rows.flatten ++ cs)) (hg : w2.grownBy w4 v.ownBlock) (hd : ∀ g, v'.ownBlock = some g → v.ownBlock = some g ∨ w2.heap.size ≤ g) : Row k e w4 X v' (us ++ [u]) := by
  have hmv : Mv w2 (vb v ++ X) w4 (vb v' ++ X) := Mv.app hg hd
  refine ⟨rows ++ [cs], ?_, ?_, ?_⟩
  · simpa using ho
  · exact (h2.imp fun _ _ h => k.mv (k.mv h (hE.mv _)) hmv).snoc (k.mv hu hmv)
  · intro g hg' hx
    rcases hd g hg' with h | h
    · exact h3 g h hx
    · have := hX g hx; omega

section
variable {P : Program}
/-- v = append(v, x), x laid into a block of its own just before; Oper.wp's form -/
theorem wp_rowApp {α : Type} {k : Kind α} {w w2 : World} {X : List Nat} {v : Value} {us : List α} {u : α} {c : Array Value} {et e : TypeId} {o : Oper} {a : Act} {K : Act → World → Prop} {Q : Exit → Act → World → Prop}
    (hrow : Row k e w X v us) (hE : Ext w w2) (hX : Old X w2) (hu : k.is w2 (vb v ++ X) c.toList u) (s x : Operand) (t : TypeId)
    (ho : o.op = .call { callee := .builtin .append, args := #[s, x], argTypes := #[t, t] })
    {z : Value} {bytes : Nat} (ht : P.underlying t = some (.slice e)) (hi : (P.info? e).map (fun i => (i.zero, i.size, i.bytes)) = some (some z, k.size, bytes))
    (hzs : z.cells.size = k.size) (hsz : 0 < k.size) (hs : a.eval s = v) (hx : a.eval x = .slice (some ⟨w2.heap.size, 0, none⟩) 1 1)
    (hbytes : (us.length + 1) * bytes ≤ 140737488355328) (h63 : us.length + 1 ≤ maxLen)
    (h : ∀ v' w', Row k e w' X v' (us ++ [u]) → w2.grownBy w' v.ownBlock → v' ≠ .slice none 0 0 → (∀ g, v'.ownBlock = some g → v.ownBlock = some g ∨ w2.heap.size ≤ g) → K (a.put o.dst v') w') : o.wp P a (w2.alloc (.cells c et)) K Q := by
  obtain ⟨rows, h1, h2, h3⟩ := hrow.ex
  refine wp_app1 s x t ho e ht hi hzs hsz (h1.ext hE) hs hx (by simpa using k.len hu) (k.one hu) hbytes h63 ?_
  intro v' w' ho' hg hne hd
  exact h v' w' (Row.snoc h2 hE hX h3 hu ho' hg hd) hg hne hd
theorem wpL_rowApp {α : Type} {k : Kind α} {w w2 : World} {X : List Nat} {v : Value} {us : List α} {u : α} {c : Array Value} {et e : TypeId} {ops : Array Oper} {rest : List Oper} {o : Oper} {a : Act} {Q : Exit → Act → World → Prop} (hgd : o.guard = none)
    (hrow : Row k e w X v us) (hE : Ext w w2) (hX : Old X w2) (hu : k.is w2 (vb v ++ X) c.toList u) (s x : Operand) (t : TypeId)
    (ho : o.op = .call { callee := .builtin .append, args := #[s, x], argTypes := #[t, t] })
    {z : Value} {bytes : Nat} (ht : P.underlying t = some (.slice e)) (hi : (P.info? e).map (fun i => (i.zero, i.size, i.bytes)) = some (some z, k.size, bytes))
    (hzs : z.cells.size = k.size) (hsz : 0 < k.size) (hs : a.eval s = v) (hx : a.eval x = .slice (some ⟨w2.heap.size, 0, none⟩) 1 1)
    (hbytes : (us.length + 1) * bytes ≤ 140737488355328) (h63 : us.length + 1 ≤ maxLen)
    (h : ∀ v' w', Row k e w' X v' (us ++ [u]) → w2.grownBy w' v.ownBlock → v' ≠ .slice none 0 0 → (∀ g, v'.ownBlock = some g → v.ownBlock = some g ∨ w2.heap.size ≤ g) → wpList P ops Q rest (a.put o.dst v') w') : wpList P ops Q (o :: rest) a (w2.alloc (.cells c et)) :=
  wpList_plain hgd fun _ hK => wp_rowApp hrow hE hX hu s x t ho ht hi hzs hsz hs hx hbytes h63 (fun v' w' h1 h2 h3 h4 => hK _ _ (h v' w' h1 h2 h3 h4))
end

/-- values as a kind -/
def kV : Kind V where
  size := 6
  is := IsV
  mv := fun h m => h.mv m
  len := fun h => by obtain ⟨x, rfl⟩ := h.shape; rfl
  one := fun h u hu => by
    obtain ⟨x, rfl⟩ := h.shape
    simp only [Cells6.list, List.mem_cons, List.not_mem_nil, or_false] at hu
    rcases hu with rfl | rfl | rfl | rfl | rfl | rfl <;> rfl

theorem Row.isVs {w : World} {X : List Nat} {v : Value} {us : List V} (h : Row kV 45 w X v us) (h3 : us.length * 88 ≤ 140737488351232) : IsVs w X v us := by
  obtain ⟨rows, h1, h2, h4⟩ := h.ex
  have key : ∀ {Z : List Nat} {rows : List (List Value)} {us : List V}, All2 (kV.is w Z) rows us → ∃ rs : List Cells6, rows.flatten = flat6 rs ∧ All2 (fun x u => IsV w Z (Cells6.list x) u) rs us := by
    intro Z rows us h
    induction h with
    | nil => exact ⟨[], rfl, .nil⟩
    | cons h _ ih =>
      obtain ⟨x, rfl⟩ := IsV.shape h
      obtain ⟨rs, e, hr⟩ := ih
      exact ⟨x :: rs, by rw [List.flatten_cons, e]; rfl, .cons h hr⟩
  obtain ⟨rs, e, hr⟩ := key h2
  have h1' : Own w 45 6 v us.length (flat6 rs) := e ▸ h1
  exact IsVs.of_own h1' (hr.imp fun _ _ h => h.mv ((Mv.refl _ _).less fun b hb => List.mem_append_right _ hb)) h4 h3

/-- strings as a kind -/
def kS : Kind ByteArray where
  size := 1
  is := fun _ _ cs s => cs = [.string s] ∧ s.size ≤ 140737488351232
  mv := fun h _ => h
  len := fun h => by rw [h.1]; rfl
  one := fun h u hu => by rw [h.1] at hu; simp only [List.mem_singleton] at hu; rw [hu]; rfl

end Go.Proofs.YtihapgangilncaaGreat
