/- The package's own types (schema.Atom, TypeRef, List, Map, StructField) as data, and how they lie in memory; what a type becomes there and back. impl.toAtom and its kin: types handed to the package. -/
import Derived.Test.YtihapgangilncaaGreatKGTypes
import Derived.Test.YtihapgangilncaaGreatKGBack
import Derived.Laws.CopyRow
import Derived.Test.YtihapgangilncaaGreatKGPlain
namespace Go.Proofs.YtihapgangilncaaGreat
open Go.RowKit

/-- v is a pointer to data of the kind k, or nil -/
def IsP {α : Type} (k : Kind α) (w : World) (X : List Nat) (v : Value) : Option α → Prop
  | none => v = .pointer none
  | some a => ∃ b off cs, v = .pointer (some ⟨b, off, none⟩) ∧ b ∉ X ∧ b < w.heap.size ∧ (∀ j, j < k.size → w.cell? ⟨b, off + j, none⟩ = cs[j]?) ∧ k.is w X cs a
theorem IsP.mv {α : Type} {k : Kind α} {w w' : World} {X Y : List Nat} {v : Value} {o : Option α} (h : IsP k w X v o) (m : Mv w X w' Y) : IsP k w' Y v o := by
  cases o with
  | none => exact h
  | some a =>
    obtain ⟨b, off, cs, h1, h2, h3, h4, h5⟩ := h
    have hb := m.block b h3 h2
    exact ⟨b, off, cs, h1, hb.2, Nat.lt_of_lt_of_le h3 m.size, fun j hj => by rw [World.cell?_of_block (w := w) hb.1]; exact h4 j hj, k.mv h5 m⟩
theorem IsP.one {α : Type} {k : Kind α} {w : World} {X : List Nat} {v : Value} {o : Option α} (h : IsP k w X v o) : v.oneCell' = true := by
  cases o with
  | none => rw [show v = .pointer none from h]; rfl
  | some a => obtain ⟨b, off, cs, rfl, _⟩ := h; rfl
/-- a pointer to a block of the function's own -/
theorem IsP.of_block {α : Type} {k : Kind α} {w : World} {X : List Nat} {b : Nat} {cs : List Value} {T : TypeId} {fr : Nat × Nat} {a : α} (hb : w.heap[b]? = some (.cells cs.toArray T fr)) (hX : b ∉ X) (h : k.is w X cs a) : IsP k w X (.pointer (some ⟨b, 0, none⟩)) (some a) :=
  ⟨b, 0, cs, rfl, hX, (Array.getElem?_eq_some_iff.1 hb).1, fun j _ => by rw [cells_of hb, Nat.zero_add]; simp, h⟩

section
variable {P : Program}
end

end Go.Proofs.YtihapgangilncaaGreat
namespace Go.Proofs.YtihapgangilncaaGreat
open Go.RowKit

theorem alloc_new (w : World) (o : Obj) {k : Nat} (h : k = w.heap.size) : (w.alloc o).heap[k]? = some o := by show (w.heap.push _)[_]? = _; rw [push_get, if_pos h]
theorem ptr_one (a : Option Addr) : (Value.pointer a).oneCell' = true := rfl
section
variable {P : Program}
end

end Go.Proofs.YtihapgangilncaaGreat
