/- Path elements, on both sides (impl.Elem, fieldpath.PathElement); impl.toKeys. impl.toElem, impl.toPath. impl.toPath. value.Equals, FieldList.Equals, PathElement.Equals, Path.Equals. Path.Equals, impl.EqualPaths. -/
import Derived.Test.YtnndacgokehkpaaEqE
import Derived.Test.YtnndacgokehkpaaSTypes
import Derived.Test.YtnndacgokehkpaaConv
import Derived.Deep.Cut
namespace Go.Proofs.Ytnndacgokehkpaa
open Go.RowKit

/-- impl.Elem -/
structure EL where
  kind : Int
  s : ByteArray
  keys : List ByteArray
  l : List V
  v : V
  n : Int

def kEl : Kind EL where
  size := 11
  is := fun w X cs e => ∃ vk vl vs, cs = .int .i64 e.kind :: .string e.s :: vk :: vl :: (vs ++ [.int .i64 e.n]) ∧ (Lit.int .i64 e.kind).wf = true ∧ (Lit.int .i64 e.n).wf = true ∧ e.s.size ≤ 140737488351232 ∧ IsStrs w X vk e.keys ∧ IsVs w X vl e.l ∧ IsV w X vs e.v
  mv := fun h m => by
    obtain ⟨vk, vl, vs, h1, h2, h3, h4, h5, h6, h7⟩ := h
    exact ⟨vk, vl, vs, h1, h2, h3, h4, h5.mv m, h6.mv m, h7.mv m⟩
  len := fun h => by
    obtain ⟨vk, vl, vs, h1, h2, h3, h4, h5, h6, h7⟩ := h
    obtain ⟨x, rfl⟩ := h7.shape
    rw [h1]; rfl
  one := fun h u hu => by
    obtain ⟨vk, vl, vs, h1, h2, h3, h4, h5, h6, h7⟩ := h
    obtain ⟨_, _, _, _, e5, _⟩ := h5.ex
    obtain ⟨_, _, _, _, e6, _⟩ := h6.ex
    obtain ⟨x, rfl⟩ := h7.shape
    rw [h1] at hu
    simp only [List.mem_cons, List.mem_append, List.not_mem_nil, or_false, Cells6.list] at hu
    rcases hu with rfl | rfl | rfl | rfl | (rfl | rfl | rfl | rfl | rfl | rfl) | rfl
    · rfl
    · rfl
    · rw [e5]; rfl
    · rw [e6]; rfl
    all_goals rfl

/-- value.Value over a tree -/
def kVal : Kind T where
  size := 1
  is := fun w X cs t => ∃ v, cs = [v] ∧ IsVal w X v t
  mv := fun ⟨v, h1, h2⟩ m => ⟨v, h1, h2.mv m⟩
  len := fun ⟨v, h1, h2⟩ => by rw [h1]; rfl
  one := fun ⟨v, h1, h2⟩ u hu => by
    obtain ⟨b, x, rfl, _⟩ := h2.ex
    rw [h1, List.mem_singleton] at hu
    subst hu; rfl
/-- value.Field -/
def kFd : Kind (ByteArray × T) where
  size := 2
  is := fun w X cs p => ∃ v, cs = [.string p.1, v] ∧ p.1.size ≤ 140737488351232 ∧ IsVal w X v p.2
  mv := fun ⟨v, h1, h2, h3⟩ m => ⟨v, h1, h2, h3.mv m⟩
  len := fun ⟨v, h1, _⟩ => by rw [h1]; rfl
  one := fun ⟨v, h1, _, h2⟩ u hu => by
    obtain ⟨b, x, rfl, _⟩ := h2.ex
    rw [h1] at hu
    simp only [List.mem_cons, List.not_mem_nil, or_false] at hu
    rcases hu with rfl | rfl <;> rfl
/-- value.FieldList -/
def kFl : Kind (EntsOfT T) where
  size := 1
  is := fun w X cs fs => ∃ v, cs = [v] ∧ IsSl kFd 32 w X v fs
  mv := fun ⟨v, h1, h2⟩ m => ⟨v, h1, h2.mv m (by simp [kFd])⟩
  len := fun ⟨v, h1, _⟩ => by rw [h1]; rfl
  one := fun ⟨v, h1, h2⟩ u hu => by
    rw [h1, List.mem_singleton] at hu
    subst hu; exact h2.one
/-- int -/
def kInt : Kind Int where
  size := 1
  is := fun _ _ cs n => cs = [.int .i64 n] ∧ (Lit.int .i64 n).wf = true
  mv := fun h _ => h
  len := fun h => by rw [h.1]; rfl
  one := fun h u hu => by rw [h.1, List.mem_singleton] at hu; subst hu; rfl

/-- fieldpath.PathElement -/
inductive PEl where
  | field (s : ByteArray)
  | key (fs : EntsOfT T)
  | value (t : T)
  | index (n : Int)

def kPe : Kind PEl where
  size := 4
  is := fun w X cs e => match e with
    | .field s => ∃ p, cs = [p, .pointer none, .pointer none, .pointer none] ∧ IsP kS w X p (some s)
    | .key fs => ∃ p, cs = [.pointer none, p, .pointer none, .pointer none] ∧ IsP kFl w X p (some fs)
    | .value t => ∃ p, cs = [.pointer none, .pointer none, p, .pointer none] ∧ IsP kVal w X p (some t)
    | .index n => ∃ p, cs = [.pointer none, .pointer none, .pointer none, p] ∧ IsP kInt w X p (some n)
  mv := fun {_ _ _ _ _ e} h m => by
    cases e <;> (obtain ⟨p, h1, h2⟩ := h; exact ⟨p, h1, h2.mv m⟩)
  len := fun {_ _ _ e} h => by
    cases e <;> (obtain ⟨p, h1, h2⟩ := h; rw [h1]; rfl)
  one := fun {_ _ _ e} h u hu => by
    cases e <;> (
      obtain ⟨p, h1, h2⟩ := h
      have := h2.one
      rw [h1] at hu
      simp only [List.mem_cons, List.not_mem_nil, or_false] at hu
      rcases hu with rfl | rfl | rfl | rfl <;> first | rfl | exact this)

def toE (e : EL) : PEl := if e.kind = 1 then .key (e.keys.zip (V.plainL e.l)) else if e.kind = 2 then .value e.v.plain else if e.kind = 3 then .index e.n else .field e.s

theorem Row.made {α : Type} {k : Kind α} {e : TypeId} {w : World} {X : List Nat} {b : Nat} (hb : w.heap[b]? = some (.cells #[] e (0, 0))) (hX : b ∉ X) : Row k e w X (.slice (some ⟨b, 0, none⟩) 0 0) [] :=
  ⟨[], ⟨by simp, .inr ⟨b, 0, #[], rfl, Nat.zero_le _, hb, Nat.le_refl _, Nat.zero_le _, by simp, by simp⟩⟩, .nil, fun g h => by simp [Value.ownBlock] at h; subst h; exact hX⟩

end Go.Proofs.Ytnndacgokehkpaa

namespace Go.Proofs.Ytnndacgokehkpaa
open Go.RowKit

end Go.Proofs.Ytnndacgokehkpaa

namespace Go.Proofs.Ytnndacgokehkpaa
open Go.RowKit

theorem kEl_eleven {w : World} {X : List Nat} {cs : List Value} {e : EL} (h : kEl.is w X cs e) : ∃ c0 c1 c2 c3 c4 c5 c6 c7 c8 c9 c10, cs = [c0, c1, c2, c3, c4, c5, c6, c7, c8, c9, c10] := by
  have := kEl.len h
  match cs, this with
  | [c0, c1, c2, c3, c4, c5, c6, c7, c8, c9, c10], _ => exact ⟨_, _, _, _, _, _, _, _, _, _, _, rfl⟩
theorem kPe_four {w : World} {X : List Nat} {cs : List Value} {e : PEl} (h : kPe.is w X cs e) : ∃ c0 c1 c2 c3, cs = [c0, c1, c2, c3] := by
  have := kPe.len h
  match cs, this with
  | [c0, c1, c2, c3], _ => exact ⟨_, _, _, _, rfl⟩

end Go.Proofs.Ytnndacgokehkpaa

namespace Go.Proofs.Ytnndacgokehkpaa
open Go.RowKit

def pairB {α : Type} (f : α → α → Bool) : List α → List α → Bool
  | x :: l, y :: m => f x y && pairB f l m
  | _, _ => true
theorem pairB_iff {α : Type} {f : α → α → Bool} : ∀ {m l : List α}, m.length = l.length → (pairB f m l = true ↔ ∀ i (h : i < m.length) (h2 : i < l.length), f m[i] l[i] = true)
  | [], [], _ => by simp [pairB]
  | [], _ :: _, h => by simp at h
  | _ :: _, [], h => by simp at h
  | x :: m, y :: l, h => by
    simp only [pairB, Bool.and_eq_true, pairB_iff (m := m) (l := l) (by simpa using h)]
    constructor
    · rintro ⟨h1, h2⟩ i hi hi2
      cases i with
      | zero => exact h1
      | succ i => exact h2 i (by simpa using hi) (by simpa using hi2)
    · intro h
      exact ⟨h 0 (by simp) (by simp), fun i hi hi2 => h (i + 1) (by simpa using hi) (by simpa using hi2)⟩
def listB {α : Type} (f : α → α → Bool) (l m : List α) : Bool := decide (l.length = m.length) && pairB f l m

def eqFd (p q : ByteArray × T) : Bool := p.1 == q.1 && eqT p.2 q.2
def eqE : PEl → PEl → Bool
  | .field s, .field t => s == t
  | .key fs, .key gs => listB eqFd fs gs
  | .value t, .value u => eqT t u
  | .index n, .index m => n == m
  | _, _ => false

end Go.Proofs.Ytnndacgokehkpaa

namespace Go.Proofs.Ytnndacgokehkpaa
open Go.RowKit

end Go.Proofs.Ytnndacgokehkpaa
