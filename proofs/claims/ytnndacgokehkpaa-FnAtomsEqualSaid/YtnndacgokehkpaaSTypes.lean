/- The package's own types (schema.Atom, TypeRef, List, Map, StructField) as data, and how they lie in memory; what a type becomes there and back. -/
import Derived.Test.YtnndacgokehkpaaTypes
import Derived.Test.YtnndacgokehkpaaBack
import Derived.Laws.CopyRow
namespace Go.Proofs.Ytnndacgokehkpaa
open Go.RowKit

structure SRf (α : Type) where
  (named : Option ByteArray) (inl : α) (rel : Option ByteArray)
structure SLt (α : Type) where
  (elem : SRf α) (rel : ByteArray) (keys : List ByteArray)
structure SFt (α : Type) where
  (name : ByteArray) (type : SRf α) (dflt : T)
structure SMt (α : Type) where
  (fields : List (SFt α)) (elem : SRf α) (rel : ByteArray)
/-- schema.Atom -/
inductive SA where
  | mk (scalar : Option ByteArray) (list : Option (SLt SA)) (map : Option (SMt SA))

/-- v is a pointer to data of the kind k, or nil -/
def IsP {α : Type} (k : Kind α) (w : World) (X : List Nat) (v : Value) : Option α → Prop
  | none => v = .pointer none
  | some a => ∃ b off cs, v = .pointer (some ⟨b, off, none⟩) ∧ b ∉ X ∧ b < w.heap.size ∧ (∀ j, j < k.size → w.cell? ⟨b, off + j, none⟩ = cs[j]?) ∧ k.is w X cs a
theorem IsP.mv {α : Type} {k : Kind α} {w w' : World} {X Y : List Nat} {v : Value} {o : Option α} (h : IsP k w X v o) (m : Mv w X w' Y) : IsP k w' Y v o := by
  cases o with
  | none => exact h
  | some a =>
    obtain ⟨b, off, cs, h1, h2, h3, h4, h5⟩ := h
    have hb := m.block b h3 h2
    exact ⟨b, off, cs, h1, hb.2, Nat.lt_of_lt_of_le h3 m.size, fun j hj => by rw [World.cell?_of_block (w := w) hb.1]; exact h4 j hj, k.mv h5 m⟩
theorem IsP.one {α : Type} {k : Kind α} {w : World} {X : List Nat} {v : Value} {o : Option α} (h : IsP k w X v o) : v.oneCell' = true := by
  cases o with
  | none => rw [show v = .pointer none from h]; rfl
  | some a => obtain ⟨b, off, cs, rfl, _⟩ := h; rfl
/-- a pointer to a block of the function's own -/
theorem IsP.of_block {α : Type} {k : Kind α} {w : World} {X : List Nat} {b : Nat} {cs : List Value} {T : TypeId} {fr : Nat × Nat} {a : α} (hb : w.heap[b]? = some (.cells cs.toArray T fr)) (hX : b ∉ X) (h : k.is w X cs a) : IsP k w X (.pointer (some ⟨b, 0, none⟩)) (some a) :=
  ⟨b, 0, cs, rfl, hX, (Array.getElem?_eq_some_iff.1 hb).1, fun j _ => by rw [cells_of hb, Nat.zero_add]; simp, h⟩

/-- schema.TypeRef -/
def ksRf {α : Type} (k : Kind α) : Kind (SRf α) where
  size := k.size + 3
  is := fun w X cs r => ∃ pn ac pr, cs = pn :: (ac ++ [pr, .bool false]) ∧ IsP kS w X pn r.named ∧ k.is w X ac r.inl ∧ IsP kS w X pr r.rel
  mv := fun h m => by
    obtain ⟨pn, ac, pr, h1, h2, h3, h4⟩ := h
    exact ⟨pn, ac, pr, h1, h2.mv m, k.mv h3 m, h4.mv m⟩
  len := fun ⟨pn, ac, pr, h1, h2, h3, h4⟩ => by have := k.len h3; rw [h1]; simp [this]
  one := fun ⟨pn, ac, pr, h1, h2, h3, h4⟩ u hu => by
    rw [h1] at hu
    simp only [List.mem_cons, List.mem_append, List.not_mem_nil, or_false] at hu
    rcases hu with rfl | hu | rfl | rfl
    · exact h2.one
    · exact k.one h3 u hu
    · exact h4.one
    · rfl
/-- schema.List -/
def ksLt {α : Type} (k : Kind α) : Kind (SLt α) where
  size := k.size + 5
  is := fun w X cs l => ∃ rs vk, cs = rs ++ [.string l.rel, vk] ∧ (ksRf k).is w X rs l.elem ∧ IsStrs w X vk l.keys ∧ l.rel.size ≤ 140737488351232
  mv := fun h m => by
    obtain ⟨rs, vk, h1, h2, h3, h4⟩ := h
    exact ⟨rs, vk, h1, (ksRf k).mv h2 m, h3.mv m, h4⟩
  len := fun ⟨rs, vk, h1, h2, _⟩ => by have := (ksRf k).len h2; rw [h1]; simp [this, ksRf]
  one := fun ⟨rs, vk, h1, h2, h3, _⟩ u hu => by
    rw [h1] at hu
    simp only [List.mem_cons, List.mem_append, List.not_mem_nil, or_false] at hu
    rcases hu with hu | rfl | rfl
    · exact (ksRf k).one h2 u hu
    · rfl
    · exact h3.one
/-- schema.StructField -/
def ksFt {α : Type} (k : Kind α) : Kind (SFt α) where
  size := k.size + 5
  is := fun w X cs f => ∃ rs x, cs = .string f.name :: (rs ++ [x]) ∧ (ksRf k).is w X rs f.type ∧ IsT w X x f.dflt ∧ f.name.size ≤ 140737488351232
  mv := fun h m => by
    obtain ⟨rs, x, h1, h2, h3, h4⟩ := h
    exact ⟨rs, x, h1, (ksRf k).mv h2 m, h3.mv m, h4⟩
  len := fun ⟨rs, x, h1, h2, _⟩ => by have := (ksRf k).len h2; rw [h1]; simp [this, ksRf]
  one := fun ⟨rs, x, h1, h2, h3, _⟩ u hu => by
    rw [h1] at hu
    simp only [List.mem_cons, List.mem_append, List.not_mem_nil, or_false] at hu
    rcases hu with rfl | hu | rfl
    · rfl
    · exact (ksRf k).one h2 u hu
    · exact h3.one
/-- schema.Map -/
def ksMt {α : Type} (k : Kind α) : Kind (SMt α) where
  size := k.size + 6
  is := fun w X cs m => ∃ vf rs, cs = vf :: .slice none 0 0 :: (rs ++ [.string m.rel]) ∧ IsSl (ksFt k) 144 w X vf m.fields ∧ (ksRf k).is w X rs m.elem ∧ m.rel.size ≤ 140737488351232
  mv := fun h m => by
    obtain ⟨vf, rs, h1, h2, h3, h4⟩ := h
    exact ⟨vf, rs, h1, h2.mv m (by simp [ksFt]), (ksRf k).mv h3 m, h4⟩
  len := fun ⟨vf, rs, h1, h2, h3, _⟩ => by have := (ksRf k).len h3; rw [h1]; simp [this, ksRf]
  one := fun ⟨vf, rs, h1, h2, h3, _⟩ u hu => by
    rw [h1] at hu
    simp only [List.mem_cons, List.mem_append, List.not_mem_nil, or_false] at hu
    rcases hu with rfl | rfl | hu | rfl
    · exact h2.one
    · rfl
    · exact (ksRf k).one h3 u hu
    · rfl
/-- schema.Atom over types as k says -/
def ksAt (k : Kind SA) : Kind SA where
  size := 3
  is := fun w X cs a => match a with
    | .mk s l m => ∃ ps pl pm, cs = [ps, pl, pm] ∧ IsP kS w X ps s ∧ IsP (ksLt k) w X pl l ∧ IsP (ksMt k) w X pm m
  mv := fun {_ _ _ _ _ a} h m => by
    obtain ⟨s, l, mm⟩ := a
    obtain ⟨ps, pl, pm, h1, h2, h3, h4⟩ := h
    exact ⟨ps, pl, pm, h1, h2.mv m, h3.mv m, h4.mv m⟩
  len := fun {_ _ _ a} h => by
    obtain ⟨s, l, mm⟩ := a
    obtain ⟨ps, pl, pm, h1, _⟩ := h
    rw [h1]; rfl
  one := fun {_ _ _ a} h u hu => by
    obtain ⟨s, l, mm⟩ := a
    obtain ⟨ps, pl, pm, h1, h2, h3, h4⟩ := h
    rw [h1] at hu
    simp only [List.mem_cons, List.not_mem_nil, or_false] at hu
    rcases hu with rfl | rfl | rfl
    · exact h2.one
    · exact h3.one
    · exact h4.one
def ksNo : Kind SA where
  size := 3
  is := fun _ _ _ _ => False
  mv := fun h _ => h
  len := fun h => h.elim
  one := fun h => h.elim
def ksA : Nat → Kind SA
  | 0 => ksNo
  | d + 1 => ksAt (ksA d)
theorem ksA_size (d : Nat) : (ksA d).size = 3 := by cases d <;> rfl

/-- what a type becomes in the package -/
def toRf (f : A → SA) (r : RfOf A) : SRf SA := ⟨if r.named then some r.name else none, if r.named then .mk none none none else f r.atom, if r.rel = ⟨#[]⟩ then none else some r.rel⟩
def toLt (f : A → SA) (l : LtOf A) : SLt SA := ⟨toRf f l.elem, l.rel, l.keys⟩
def toFt (f : A → SA) (l : FtOf A) : SFt SA := ⟨l.name, toRf f l.type, match l.dflt with | [] => .null | v :: _ => v.plain⟩
def toMt (f : A → SA) (m : MtOf A) : SMt SA := ⟨m.fields.map (toFt f), toRf f m.elem, m.rel⟩
def toAt (f : A → SA) : A → SA
  | .mk s ls ms => .mk (if s = ⟨#[]⟩ then none else some s) (ls.head?.map (toLt f)) (ms.head?.map (toMt f))
def toA : Nat → A → SA
  | 0 => fun _ => .mk none none none
  | d + 1 => toAt (toA d)
/-- .. and back -/
def frRf (f : SA → A) (r : SRf SA) : RfOf A := ⟨r.named.isSome, r.named.getD ⟨#[]⟩, f r.inl, r.rel.getD ⟨#[]⟩⟩
def frLt (f : SA → A) (l : SLt SA) : LtOf A := ⟨frRf f l.elem, l.rel, l.keys⟩
def frFt (f : SA → A) (l : SFt SA) : FtOf A := ⟨l.name, frRf f l.type, match l.dflt with | .null => [] | t => [t.back]⟩
def frMt (f : SA → A) (m : SMt SA) : MtOf A := ⟨m.fields.map (frFt f), frRf f m.elem, m.rel⟩
def frAt (f : SA → A) : SA → A
  | .mk s l m => .mk (s.getD ⟨#[]⟩) (l.map (frLt f)).toList (m.map (frMt f)).toList
def frA : Nat → SA → A
  | 0 => fun _ => .mk ⟨#[]⟩ [] []
  | d + 1 => frAt (frA d)

section
variable {P : Program}
/-- a store of some cells into the middle of a block of the function's own -/
theorem wp_storeSeg {w : World} {o : Oper} {a : Act} {K : Act → World → Prop} {Q : Exit → Act → World → Prop} (t : TypeId) (ad x : Operand) (ho : o.op = .store t ad x)
    {b off : Nat} {old cells new : Array Value} {T : TypeId} (hi : (P.info? t).map (·.size) = some cells.size) (hp : a.eval ad = .pointer (some ⟨b, off, none⟩)) (hx : a.eval x = .agg cells) (hb : w.heap[b]? = some (.cells old T (0, 0))) (hs : off + cells.size ≤ old.size)
    (h1 : ∀ v ∈ cells.toList, v.oneCell' = true) (hnew : (old.toList.take off ++ cells.toList ++ old.toList.drop (off + cells.size)).toArray = new) (h : ∀ w', w'.heap[b]? = some (.cells new T (0, 0)) → w.grownBy w' (some b) → K (a.put o.dst undef) w') : o.wp P a w K Q := by
  have hr := run_storeCells_at (P := P) b off T cells.toList 0 old w hb (by simpa using hs) h1
  have hst : (storeVar t ⟨b, off, none⟩ (.agg cells)).run P w = .ok () (w.setRow b new) := by
    cases hq : P.info? t with
    | none => simp [hq] at hi
    | some i =>
      simp only [hq, Option.map_some, Option.some.injEq] at hi
      simp only [Nat.add_zero, Array.length_toList] at hr
      rw [hnew] at hr
      simp [storeVar, sizeOf, typeInfo, hq, hi, Value.cells, hr]
  unfold Oper.wp execOp
  simp only [ho, hp, hx, Sem.run_bind, Sem.run_pure, Result.andThen_ok, Instr.storeAt, Instr.sureAddr, hst]
  refine h _ ?_ ⟨rfl, rfl, rfl, ?_, fun k _ hk => ?_⟩
  · simp [World.setRow, Array.getElem?_modify, hb]
  · simp [World.setRow]
  · simp only [World.setRow, Array.getElem?_modify]
    rw [if_neg (fun e => hk (by simp [e]))]
theorem wpL_storeSeg {w : World} {ops : Array Oper} {rest : List Oper} {o : Oper} {a : Act} {Q : Exit → Act → World → Prop} (hgd : o.guard = none) (t : TypeId) (ad x : Operand) (ho : o.op = .store t ad x)
    {b off : Nat} {old cells new : Array Value} {T : TypeId} (hi : (P.info? t).map (·.size) = some cells.size) (hp : a.eval ad = .pointer (some ⟨b, off, none⟩)) (hx : a.eval x = .agg cells) (hb : w.heap[b]? = some (.cells old T (0, 0))) (hs : off + cells.size ≤ old.size)
    (h1 : ∀ v ∈ cells.toList, v.oneCell' = true) (hnew : (old.toList.take off ++ cells.toList ++ old.toList.drop (off + cells.size)).toArray = new) (h : ∀ w', w'.heap[b]? = some (.cells new T (0, 0)) → w.grownBy w' (some b) → wpList P ops Q rest (a.put o.dst undef) w') : wpList P ops Q (o :: rest) a w :=
  wpList_plain hgd fun _ hK => wp_storeSeg t ad x ho hi hp hx hb hs h1 hnew (fun w' h2 h3 => hK _ _ (h w' h2 h3))
end

end Go.Proofs.Ytnndacgokehkpaa
