/- impl.fromAtom and its kin: types taken back from the package. impl.fromField. impl.fromMapType. impl.fromAtom: all types, of however many levels. -/
import Derived.Test.YtnndacgokehkpaaConv4
import Derived.Test.YtnndacgokehkpaaRange
namespace Go.Proofs.Ytnndacgokehkpaa
open Go.RowKit

theorem IsP.str {w : World} {X : List Nat} {v : Value} {s : ByteArray} (h : IsP kS w X v (some s)) : ∃ b off, v = .pointer (some ⟨b, off, none⟩) ∧ b ∉ X ∧ b < w.heap.size ∧ w.cell? ⟨b, off, none⟩ = some (.string s) ∧ s.size ≤ 140737488351232 := by
  obtain ⟨b, off, cs, h1, h2, h3, h4, h5, h6⟩ := h
  subst h5
  exact ⟨b, off, h1, h2, h3, h4 0 (by decide), h6⟩

theorem empty_sz : (⟨#[]⟩ : ByteArray).size ≤ 140737488351232 := by decide

theorem Try.size59 : (Try.prog.info? 59).map (·.size) = some 6 := by kernel_rfl
theorem Try.info4 : (Try.prog.info? 4).map (fun i => (i.zero, i.size, i.bytes)) = some (some (.bool false), 1, 1) := by kernel_rfl

end Go.Proofs.Ytnndacgokehkpaa

namespace Go.Proofs.Ytnndacgokehkpaa
open Go.RowKit

theorem IsT.head {w : World} {X : List Nat} {x : Value} {t : T} (h : IsT w X x t) : (x = .nilIface ∧ t = .null) ∨ ∃ u v, x = .iface u v ∧ t ≠ .null := by
  cases h
  case null => exact .inl ⟨rfl, rfl⟩
  all_goals exact .inr ⟨_, _, rfl, fun e => by cases e⟩
theorem frFt_dflt {f : SA → A} {name : ByteArray} {type : SRf SA} {t : T} (h : t ≠ .null) : (frFt f ⟨name, type, t⟩).dflt = [t.back] := by
  cases t <;> first | rfl | exact absurd rfl h
theorem IsVs.single {w : World} {X : List Nat} {b : Nat} {y : Cells6} {v : V} (hb : w.heap[b]? = some (.cells #[.int .i64 y.kind, .int .i64 y.n, .float .f64 y.f, .string y.s, .slice y.ko y.kn y.kc, .slice y.o y.m y.c] 26 (0, 0))) (hX : b ∉ X) (h : IsV w X y.list v) :
    IsVs w X (.slice (some ⟨b, 0, none⟩) 1 1) [v] := by
  refine ⟨some ⟨b, 0, none⟩, 1, b, 0, rfl, Nat.le_refl _, by simp, fun _ => ⟨rfl, hX⟩, fun i hi => ?_⟩
  obtain rfl : i = 0 := by simpa using hi
  exact ⟨y, cells_of hb 0, cells_of hb 1, cells_of hb 2, cells_of hb 3, cells_of hb 4, cells_of hb 5, h⟩

end Go.Proofs.Ytnndacgokehkpaa

namespace Go.Proofs.Ytnndacgokehkpaa
open Go.RowKit

theorem Try.size65 : (Try.prog.info? 65).map (·.size) = some 8 := by kernel_rfl
theorem Try.size'123 : (Try.prog.info? 123).map (·.size) = some 8 := by kernel_rfl
theorem Try.info63 : (Try.prog.info? 63).map (fun i => (i.zero, i.size, i.bytes)) = some (some (.slice none 0 0), 1, 24) := by kernel_rfl
theorem Try.info67 : (Try.prog.info? 67).map (fun i => (i.zero, i.size, i.bytes)) = some (some (.agg #[.string ⟨#[]⟩, .bool false, .string ⟨#[]⟩, .string ⟨#[]⟩, .slice none 0 0, .slice none 0 0, .string ⟨#[]⟩, .slice none 0 0]), 8, 144) := by kernel_rfl

end Go.Proofs.Ytnndacgokehkpaa

namespace Go.Proofs.Ytnndacgokehkpaa
open Go.RowKit

theorem Try.size37 : (Try.prog.info? 37).map (·.size) = some 3 := by kernel_rfl
theorem Try.info34 : (Try.prog.info? 34).map (fun i => (i.zero, i.size, i.bytes)) = some (some (.slice none 0 0), 1, 24) := by kernel_rfl
theorem Try.info35 : (Try.prog.info? 35).map (fun i => (i.zero, i.size, i.bytes)) = some (some (.slice none 0 0), 1, 24) := by kernel_rfl

theorem IsSl.single {α : Type} {k : Kind α} {bytes : Nat} {w : World} {X : List Nat} {b : Nat} {cs : List Value} {T : TypeId} {fr : Nat × Nat} {a : α} (hb : w.heap[b]? = some (.cells cs.toArray T fr)) (hX : b ∉ X) (h : k.is w X cs a) (hby : bytes ≤ 140737488351232) :
    IsSl k bytes w X (.slice (some ⟨b, 0, none⟩) 1 1) [a] := by
  refine ⟨some ⟨b, 0, none⟩, 1, b, 0, rfl, Nat.le_refl _, by simpa using hby, fun _ => ⟨rfl, hX⟩, fun i hi => ?_⟩
  obtain rfl : i = 0 := by simpa using hi
  exact ⟨cs, fun j _ => by rw [cells_of hb]; simp, h⟩

theorem ptr_neq {α : Type} {k : Kind α} {w : World} {X : List Nat} {v : Value} {o : Option α} {t e : TypeId} (h : IsP k w X v o) (hT : Try.prog.underlying t = some (.pointer e)) (w' : World) : (binOp .neq t v (.pointer none)).run Try.prog w' = .ok (.bool o.isSome) w' := by
  cases o with
  | none =>
    obtain rfl : v = .pointer none := h
    simp [go_sem, hT]
  | some a =>
    obtain ⟨b, off, cs, rfl, _⟩ := h
    simp [go_sem, hT]

theorem ptr_guard {α : Type} {k : Kind α} {w : World} {X : List Nat} {v : Value} {o : Option α} {t : TypeId} (h : IsP k w X v o) (x y : Operand) (w' : World) : (eqGuard .neq t x y v (.pointer none)).run Try.prog w' = .ok () w' := by
  cases o with
  | none =>
    obtain rfl : v = .pointer none := h
    simp [eqGuard, go_sem]
  | some a =>
    obtain ⟨b, off, cs, rfl, _⟩ := h
    simp [eqGuard, go_sem]

end Go.Proofs.Ytnndacgokehkpaa
