/- The package's own types (schema.Atom, TypeRef, List, Map, StructField) as data, and how they lie in memory; what a type becomes there and back. impl.toAtom and its kin: types handed to the package. -/
import Derived.Test.YtihapgangilncaaGreatKETypes
import Derived.Test.YtihapgangilncaaGreatKEBack
import Derived.Laws.CopyRow
import Derived.Test.YtihapgangilncaaGreatKEOrderly
namespace Go.Proofs.YtihapgangilncaaGreat
open Go.RowKit

/-- v is a pointer to data of the kind k, or nil -/
def IsP {α : Type} (k : Kind α) (w : World) (X : List Nat) (v : Value) : Option α → Prop
  | none => v = .pointer none
  | some a => ∃ b off cs, v = .pointer (some ⟨b, off, none⟩) ∧ b ∉ X ∧ b < w.heap.size ∧ (∀ j, j < k.size → w.cell? ⟨b, off + j, none⟩ = cs[j]?) ∧ k.is w X cs a
theorem IsP.mv {α : Type} {k : Kind α} {w w' : World} {X Y : List Nat} {v : Value} {o : Option α} (h : IsP k w X v o) (m : Mv w X w' Y) : IsP k w' Y v o := by
  cases o with
  | none => exact h
  | some a =>
    obtain ⟨b, off, cs, h1, h2, h3, h4, h5⟩ := h
    have hb := m.block b h3 h2
    exact ⟨b, off, cs, h1, hb.2, Nat.lt_of_lt_of_le h3 m.size, fun j hj => by rw [World.cell?_of_block (w := w) hb.1]; exact h4 j hj, k.mv h5 m⟩
theorem IsP.one {α : Type} {k : Kind α} {w : World} {X : List Nat} {v : Value} {o : Option α} (h : IsP k w X v o) : v.oneCell' = true := by
  cases o with
  | none => rw [show v = .pointer none from h]; rfl
  | some a => obtain ⟨b, off, cs, rfl, _⟩ := h; rfl
/-- a pointer to a block of the function's own -/
theorem IsP.of_block {α : Type} {k : Kind α} {w : World} {X : List Nat} {b : Nat} {cs : List Value} {T : TypeId} {fr : Nat × Nat} {a : α} (hb : w.heap[b]? = some (.cells cs.toArray T fr)) (hX : b ∉ X) (h : k.is w X cs a) : IsP k w X (.pointer (some ⟨b, 0, none⟩)) (some a) :=
  ⟨b, 0, cs, rfl, hX, (Array.getElem?_eq_some_iff.1 hb).1, fun j _ => by rw [cells_of hb, Nat.zero_add]; simp, h⟩

section
variable {P : Program}
/-- a store of some cells into the middle of a block of the function's own -/
theorem wp_storeSeg {w : World} {o : Oper} {a : Act} {K : Act → World → Prop} {Q : Exit → Act → World → Prop} (t : TypeId) (ad x : Operand) (ho : o.op = .store t ad x)
    {b off : Nat} {old cells new : Array Value} {T : TypeId} (hi : (P.info? t).map (·.size) = some cells.size) (hp : a.eval ad = .pointer (some ⟨b, off, none⟩)) (hx : a.eval x = .agg cells) (hb : w.heap[b]? = some (.cells old T (0, 0))) (hs : off + cells.size ≤ old.size)
    (h1 : ∀ v ∈ cells.toList, v.oneCell' = true) (hnew : (old.toList.take off ++ cells.toList ++ old.toList.drop (off + cells.size)).toArray = new) (h : ∀ w', w'.heap[b]? = some (.cells new T (0, 0)) → w.grownBy w' (some b) → K (a.put o.dst undef) w') : o.wp P a w K Q := by
  have hr := run_storeCells_at (P := P) b off T cells.toList 0 old w hb (by simpa using hs) h1
  have hst : (storeVar t ⟨b, off, none⟩ (.agg cells)).run P w = .ok () (w.setRow b new) := by
    cases hq : P.info? t with
    | none => simp [hq] at hi
    | some i =>
      simp only [hq, Option.map_some, Option.some.injEq] at hi
      simp only [Nat.add_zero, Array.length_toList] at hr
      rw [hnew] at hr
      simp [storeVar, sizeOf, typeInfo, hq, hi, Value.cells, hr]
  unfold Oper.wp execOp
  simp only [ho, hp, hx, Sem.run_bind, Sem.run_pure, Result.andThen_ok, Instr.storeAt, Instr.sureAddr, hst]
  refine h _ ?_ ⟨rfl, rfl, rfl, ?_, fun k _ hk => ?_⟩
  · simp [World.setRow, Array.getElem?_modify, hb]
  · simp [World.setRow]
  · simp only [World.setRow, Array.getElem?_modify]
    rw [if_neg (fun e => hk (by simp [e]))]
end

end Go.Proofs.YtihapgangilncaaGreat
namespace Go.Proofs.YtihapgangilncaaGreat
open Go.RowKit

theorem alloc_new (w : World) (o : Obj) {k : Nat} (h : k = w.heap.size) : (w.alloc o).heap[k]? = some o := by show (w.heap.push _)[_]? = _; rw [push_get, if_pos h]
theorem ptr_one (a : Option Addr) : (Value.pointer a).oneCell' = true := rfl
section
variable {P : Program}
end

end Go.Proofs.YtihapgangilncaaGreat
