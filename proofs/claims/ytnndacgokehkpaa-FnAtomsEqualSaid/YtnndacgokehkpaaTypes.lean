/- Types (impl.Atom, Ref, ListType, MapType, FieldType) as data, and how they lie in memory. -/
import Derived.Test.YtnndacgokehkpaaSlice
namespace Go.Proofs.Ytnndacgokehkpaa
open Go.RowKit Go.Deep Go.ChangeShapes Go.WideShapes

structure RfOf (α : Type) where
  (named : Bool) (name : ByteArray) (atom : α) (rel : ByteArray)
structure LtOf (α : Type) where
  (elem : RfOf α) (rel : ByteArray) (keys : List ByteArray)
structure FtOf (α : Type) where
  (name : ByteArray) (type : RfOf α) (dflt : List V)
structure MtOf (α : Type) where
  (fields : List (FtOf α)) (elem : RfOf α) (rel : ByteArray)
/-- impl.Atom -/
inductive A where
  | mk (scalar : ByteArray) (lists : List (LtOf A)) (maps : List (MtOf A))

theorem listOne {P : Value → Prop} {a : Value} {l : List Value} : (∀ u ∈ a :: l, P u) ↔ P a ∧ ∀ u ∈ l, P u := by simp

/-- impl.Ref, over types as k says -/
def kRf {α : Type} (k : Kind α) : Kind (RfOf α) where
  size := k.size + 3
  is := fun w X cs r => ∃ ac, cs = .bool r.named :: .string r.name :: (ac ++ [.string r.rel]) ∧ k.is w X ac r.atom ∧ r.name.size ≤ 140737488351232 ∧ r.rel.size ≤ 140737488351232
  mv := fun ⟨ac, h1, h2, h3⟩ m => ⟨ac, h1, k.mv h2 m, h3⟩
  len := fun ⟨ac, h1, h2, _⟩ => by have := k.len h2; rw [h1]; simp [this]
  one := fun ⟨ac, h1, h2, _⟩ u hu => by
    rw [h1] at hu
    simp only [List.mem_cons, List.mem_append, List.not_mem_nil, or_false] at hu
    rcases hu with rfl | rfl | hu | rfl
    · rfl
    · rfl
    · exact k.one h2 u hu
    · rfl
theorem IsStrs.one {w : World} {X : List Nat} {v : Value} {ss : List ByteArray} (h : IsStrs w X v ss) : v.oneCell' = true := by
  obtain ⟨o, c, b, off, rfl, _⟩ := h.ex
  rfl
/-- impl.ListType -/
def kLt {α : Type} (k : Kind α) : Kind (LtOf α) where
  size := k.size + 5
  is := fun w X cs l => ∃ rs vk, cs = rs ++ [.string l.rel, vk] ∧ (kRf k).is w X rs l.elem ∧ IsStrs w X vk l.keys ∧ l.rel.size ≤ 140737488351232
  mv := fun h m => by
    obtain ⟨rs, vk, h1, h2, h3, h4⟩ := h
    exact ⟨rs, vk, h1, (kRf k).mv h2 m, h3.mv m, h4⟩
  len := fun ⟨rs, vk, h1, h2, _⟩ => by have := (kRf k).len h2; rw [h1]; simp [this, kRf]
  one := fun ⟨rs, vk, h1, h2, h3, _⟩ u hu => by
    rw [h1] at hu
    simp only [List.mem_cons, List.mem_append, List.not_mem_nil, or_false] at hu
    rcases hu with hu | rfl | rfl
    · exact (kRf k).one h2 u hu
    · rfl
    · exact h3.one
/-- impl.FieldType -/
def kFt {α : Type} (k : Kind α) : Kind (FtOf α) where
  size := k.size + 5
  is := fun w X cs f => ∃ rs vd, cs = .string f.name :: (rs ++ [vd]) ∧ (kRf k).is w X rs f.type ∧ IsVs w X vd f.dflt ∧ f.name.size ≤ 140737488351232
  mv := fun ⟨rs, vd, h1, h2, h3, h4⟩ m => ⟨rs, vd, h1, (kRf k).mv h2 m, h3.mv m, h4⟩
  len := fun ⟨rs, vd, h1, h2, _⟩ => by have := (kRf k).len h2; rw [h1]; simp [this, kRf]
  one := fun ⟨rs, vd, h1, h2, h3, _⟩ u hu => by
    rw [h1] at hu
    simp only [List.mem_cons, List.mem_append, List.not_mem_nil, or_false] at hu
    rcases hu with rfl | hu | rfl
    · rfl
    · exact (kRf k).one h2 u hu
    · exact h3.isSl.one
/-- impl.MapType -/
def kMt {α : Type} (k : Kind α) : Kind (MtOf α) where
  size := k.size + 5
  is := fun w X cs m => ∃ vf rs, cs = vf :: (rs ++ [.string m.rel]) ∧ IsSl (kFt k) 144 w X vf m.fields ∧ (kRf k).is w X rs m.elem ∧ m.rel.size ≤ 140737488351232
  mv := fun ⟨vf, rs, h1, h2, h3, h4⟩ m => ⟨vf, rs, h1, h2.mv m (by simp [kFt]), (kRf k).mv h3 m, h4⟩
  len := fun ⟨vf, rs, h1, h2, h3, _⟩ => by have := (kRf k).len h3; rw [h1]; simp [this, kRf]
  one := fun ⟨vf, rs, h1, h2, h3, _⟩ u hu => by
    rw [h1] at hu
    simp only [List.mem_cons, List.mem_append, List.not_mem_nil, or_false] at hu
    rcases hu with rfl | hu | rfl
    · exact h2.one
    · exact (kRf k).one h3 u hu
    · rfl
/-- impl.Atom over types as k says -/
def kAt (k : Kind A) : Kind A where
  size := 3
  is := fun w X cs a => match a with
    | .mk s ls ms => ∃ vl vm, cs = [.string s, vl, vm] ∧ s.size ≤ 140737488351232 ∧ IsSl (kLt k) 144 w X vl ls ∧ IsSl (kMt k) 144 w X vm ms
  mv := fun {_ _ _ _ _ a} h m => by
    obtain ⟨s, ls, ms⟩ := a
    obtain ⟨vl, vm, h1, h2, h3, h4⟩ := h
    exact ⟨vl, vm, h1, h2, h3.mv m (by simp [kLt]), h4.mv m (by simp [kMt])⟩
  len := fun {_ _ _ a} h => by
    obtain ⟨s, ls, ms⟩ := a
    obtain ⟨vl, vm, h1, _⟩ := h
    rw [h1]; rfl
  one := fun {_ _ _ a} h u hu => by
    obtain ⟨s, ls, ms⟩ := a
    obtain ⟨vl, vm, h1, h2, h3, h4⟩ := h
    rw [h1] at hu
    simp only [List.mem_cons, List.not_mem_nil, or_false] at hu
    rcases hu with rfl | rfl | rfl
    · rfl
    · exact h3.one
    · exact h4.one
def kNo : Kind A where
  size := 3
  is := fun _ _ _ _ => False
  mv := fun h _ => h
  len := fun h => h.elim
  one := fun h => h.elim
/-- impl.Atom, of at most so many levels -/
def kA : Nat → Kind A
  | 0 => kNo
  | d + 1 => kAt (kA d)
theorem kA_size (d : Nat) : (kA d).size = 3 := by cases d <;> rfl

/-- whatever k takes, k' takes -/
def Kind.le {α : Type} (k k' : Kind α) : Prop := k.size = k'.size ∧ ∀ {w : World} {X : List Nat} {cs : List Value} {a : α}, k.is w X cs a → k'.is w X cs a
theorem Kind.le_refl {α : Type} (k : Kind α) : k.le k := ⟨rfl, fun h => h⟩
theorem Kind.le_trans {α : Type} {a b c : Kind α} (h : a.le b) (k : b.le c) : a.le c := ⟨h.1.trans k.1, fun x => k.2 (h.2 x)⟩
theorem IsSl.le {α : Type} {k k' : Kind α} {bytes : Nat} {w : World} {X : List Nat} {v : Value} {us : List α} (h : IsSl k bytes w X v us) (hk : k.le k') : IsSl k' bytes w X v us := by
  obtain ⟨o, c, b, off, h1, h2, h3, h4, h5⟩ := h.ex
  refine ⟨o, c, b, off, h1, h2, h3, h4, fun i hi => ?_⟩
  obtain ⟨cs, hc, hcs⟩ := h5 i hi
  exact ⟨cs, by rw [← hk.1]; exact hc, hk.2 hcs⟩
theorem kRf_le {α : Type} {k k' : Kind α} (h : k.le k') : (kRf k).le (kRf k') := ⟨by simp [kRf, h.1], fun ⟨ac, h1, h2, h3⟩ => ⟨ac, h1, h.2 h2, h3⟩⟩
theorem kLt_le {α : Type} {k k' : Kind α} (h : k.le k') : (kLt k).le (kLt k') := ⟨by simp [kLt, h.1], fun ⟨rs, vk, h1, h2, h3⟩ => ⟨rs, vk, h1, (kRf_le h).2 h2, h3⟩⟩
theorem kFt_le {α : Type} {k k' : Kind α} (h : k.le k') : (kFt k).le (kFt k') := ⟨by simp [kFt, h.1], fun ⟨rs, vk, h1, h2, h3⟩ => ⟨rs, vk, h1, (kRf_le h).2 h2, h3⟩⟩
theorem kMt_le {α : Type} {k k' : Kind α} (h : k.le k') : (kMt k).le (kMt k') := ⟨by simp [kMt, h.1], fun ⟨vf, rs, h1, h2, h3, h4⟩ => ⟨vf, rs, h1, h2.le (kFt_le h), (kRf_le h).2 h3, h4⟩⟩
theorem kAt_le {k k' : Kind A} (h : k.le k') : (kAt k).le (kAt k') := ⟨rfl, fun {_ _ _ a} hx => by
  obtain ⟨s, ls, ms⟩ := a
  obtain ⟨vl, vm, h1, h2, h3, h4⟩ := hx
  exact ⟨vl, vm, h1, h2, h3.le (kLt_le h), h4.le (kMt_le h)⟩⟩
theorem kA_step (d : Nat) : (kA d).le (kA (d + 1)) := by
  induction d with
  | zero => exact ⟨rfl, fun h => h.elim⟩
  | succ d ih => exact kAt_le ih
theorem kA_le {d e : Nat} (h : d ≤ e) : (kA d).le (kA e) := by
  induction e with
  | zero =>
    have : d = 0 := by omega
    subst this
    exact Kind.le_refl _
  | succ e ih =>
    by_cases hd : d = e + 1
    · subst hd; exact Kind.le_refl _
    · exact Kind.le_trans (ih (by omega)) (kA_step e)

/-- impl.Atom, of however many levels -/
def kAny : Kind A where
  size := 3
  is := fun w X cs a => ∃ d, (kA d).is w X cs a
  mv := fun ⟨d, h⟩ m => ⟨d, (kA d).mv h m⟩
  len := fun ⟨d, h⟩ => by rw [(kA d).len h, kA_size]
  one := fun ⟨d, h⟩ => (kA d).one h

theorem all_depth {n : Nat} {P : Nat → Nat → Prop} (hm : ∀ i d e, d ≤ e → P i d → P i e) (h : ∀ i, i < n → ∃ d, P i d) : ∃ d, ∀ i, i < n → P i d := by
  induction n with
  | zero => exact ⟨0, fun i hi => by omega⟩
  | succ n ih =>
    obtain ⟨d, hd⟩ := ih (fun i hi => h i (by omega))
    obtain ⟨e, he⟩ := h n (by omega)
    refine ⟨max d e, fun i hi => ?_⟩
    by_cases e1 : i = n
    · subst e1; exact hm _ _ _ (Nat.le_max_right _ _) he
    · exact hm _ _ _ (Nat.le_max_left _ _) (hd i (by omega))

theorem sl_depth {α : Type} {F : Kind A → Kind α} (hsz : ∀ d, (F kAny).size = (F (kA d)).size) (hF : ∀ {d e : Nat}, d ≤ e → (F (kA d)).le (F (kA e))) (hd : ∀ {w : World} {X : List Nat} {cs : List Value} {a : α}, (F kAny).is w X cs a → ∃ d, (F (kA d)).is w X cs a)
    {bytes : Nat} {w : World} {X : List Nat} {v : Value} {us : List α} (h : IsSl (F kAny) bytes w X v us) : ∃ d, IsSl (F (kA d)) bytes w X v us := by
  obtain ⟨o, c, b, off, h1, h2, h3, h4, h5⟩ := h.ex
  obtain ⟨d, hd⟩ := all_depth (n := us.length) (P := fun i d => ∀ hi : i < us.length, ∃ cs : List Value, (∀ j, j < (F kAny).size → w.cell? ⟨b, off + i * (F kAny).size + j, none⟩ = cs[j]?) ∧ (F (kA d)).is w X cs (us[i]))
    (fun i d e hde hp hi => by
      obtain ⟨cs, hc, hcs⟩ := hp hi
      exact ⟨cs, hc, (hF hde).2 hcs⟩)
    (fun i hi => by
      obtain ⟨cs, hc, hcs⟩ := h5 i hi
      obtain ⟨d, hd⟩ := hd hcs
      exact ⟨d, fun _ => ⟨cs, hc, hd⟩⟩)
  refine ⟨d, o, c, b, off, h1, h2, h3, h4, fun i hi => ?_⟩
  obtain ⟨cs, hc, hcs⟩ := hd i hi hi
  exact ⟨cs, by rw [← hsz d]; exact hc, hcs⟩
theorem rf_depth {w : World} {X : List Nat} {cs : List Value} {r : RfOf A} (h : (kRf kAny).is w X cs r) : ∃ d, (kRf (kA d)).is w X cs r := by
  obtain ⟨ac, h1, ⟨d, h2⟩, h3⟩ := h
  exact ⟨d, ac, h1, h2, h3⟩
theorem lt_depth {w : World} {X : List Nat} {cs : List Value} {l : LtOf A} (h : (kLt kAny).is w X cs l) : ∃ d, (kLt (kA d)).is w X cs l := by
  obtain ⟨rs, vk, h1, h2, h3⟩ := h
  obtain ⟨d, h2⟩ := rf_depth h2
  exact ⟨d, rs, vk, h1, h2, h3⟩
theorem ft_depth {w : World} {X : List Nat} {cs : List Value} {l : FtOf A} (h : (kFt kAny).is w X cs l) : ∃ d, (kFt (kA d)).is w X cs l := by
  obtain ⟨rs, vk, h1, h2, h3⟩ := h
  obtain ⟨d, h2⟩ := rf_depth h2
  exact ⟨d, rs, vk, h1, h2, h3⟩
theorem size_any (d : Nat) : kAny.size = (kA d).size := by rw [kA_size]; rfl
theorem mt_depth {w : World} {X : List Nat} {cs : List Value} {m : MtOf A} (h : (kMt kAny).is w X cs m) : ∃ d, (kMt (kA d)).is w X cs m := by
  obtain ⟨vf, rs, h1, h2, h3, h4⟩ := h
  obtain ⟨d, h3⟩ := rf_depth h3
  obtain ⟨e, h2⟩ := sl_depth (F := kFt) (fun d => by simp [kFt, size_any d]) (fun h => kFt_le (kA_le h)) ft_depth h2
  exact ⟨max d e, vf, rs, h1, h2.le (kFt_le (kA_le (Nat.le_max_right _ _))), (kRf_le (kA_le (Nat.le_max_left _ _))).2 h3, h4⟩
theorem at_depth {w : World} {X : List Nat} {cs : List Value} {a : A} (h : (kAt kAny).is w X cs a) : ∃ d, (kA d).is w X cs a := by
  obtain ⟨s, ls, ms⟩ := a
  obtain ⟨vl, vm, h1, h2, h3, h4⟩ := h
  obtain ⟨d, h3⟩ := sl_depth (F := kLt) (fun d => by simp [kLt, size_any d]) (fun h => kLt_le (kA_le h)) lt_depth h3
  obtain ⟨e, h4⟩ := sl_depth (F := kMt) (fun d => by simp [kMt, size_any d]) (fun h => kMt_le (kA_le h)) mt_depth h4
  exact ⟨max d e + 1, vl, vm, h1, h2, h3.le (kLt_le (kA_le (Nat.le_max_left _ _))), h4.le (kMt_le (kA_le (Nat.le_max_right _ _)))⟩

section
variable {H : Type} {enc : TypeId × Value → H} {w : World} {base : Nat} {spare : Nat → Bool} {held : Bool}

theorem read_str {fuel : Nat} {cs : List Value} {x : DataW H × List MemPlace} (h : DataW.trod enc Try.prog w base spare held fuel 9 cs = some x) (hw : (x.1.weights Try.prog 9).all (· ≤ reachBytes) = true) :
    ∃ s : ByteArray, cs = [.string s] ∧ s.size ≤ 140737488351232 := by
  obtain ⟨s, rfl, rfl, -⟩ := DataW.trod_string Try.underlying9 h
  rw [DataW.weights, reach_eq] at hw
  have h2 : s.data.toList.length ≤ 140737488351232 := by simpa using hw
  exact ⟨s, rfl, h2⟩

/-- a struct's fields, each trod on its own cells -/
theorem read_fields {fuel : Nat} {cs : List Value} {x : DataW H × List MemPlace} {t : TypeId} {fs : Array Field} (hT : Try.prog.underlying t = some (.struct fs)) (h : DataW.trod enc Try.prog w base spare held fuel t cs = some x) (hw : (x.1.weights Try.prog t).all (· ≤ reachBytes) = true) :
    cs.length = Try.prog.cellsOf t ∧ ∃ n, n < fuel ∧ ∀ (i : Nat) (f : Field), fs[i]? = some f → ∃ y : DataW H × List MemPlace, DataW.trod enc Try.prog w base spare held n f.type ((cs.drop f.offset).take (Try.prog.cellsOf f.type)) = some y ∧ (y.1.weights Try.prog f.type).all (· ≤ reachBytes) = true := by
  obtain ⟨xs, n, rfl, rfl, hlen, hxl, hel⟩ := DataW.trod_struct hT h
  refine ⟨hlen, n, by omega, fun i f hf => ?_⟩
  have hi : i < fs.size := (Array.getElem?_eq_some_iff.1 hf).1
  have h1 := hel i f hf
  rw [List.getElem?_eq_getElem (by omega)] at h1
  refine ⟨_, h1, ?_⟩
  rw [DataW.weights, hT] at hw
  have key : ∀ (ts : List TypeId) (ds : List (DataW H)), (DataW.weightsEach Try.prog ts ds).all (· ≤ reachBytes) = true → ∀ (i : Nat) (t : TypeId) (d : DataW H), ts[i]? = some t → ds[i]? = some d → (d.weights Try.prog t).all (· ≤ reachBytes) = true := by
    intro ts
    induction ts with
    | nil => intro ds _ i t d hi; simp at hi
    | cons t0 ts ih =>
      intro ds hds i t d hi hd
      cases ds with
      | nil => simp at hd
      | cons d0 ds =>
        simp only [DataW.weightsEach, List.all_append, Bool.and_eq_true] at hds
        cases i with
        | zero =>
          simp only [List.getElem?_cons_zero, Option.some.injEq] at hi hd
          subst hi hd
          exact hds.1
        | succ i => exact ih ds hds.2 i t d (by simpa using hi) (by simpa using hd)
  refine key _ _ hw i _ _ ?_ ?_
  · have := congrArg (Option.map (·.type)) hf
    simpa using this
  · simp [List.getElem?_eq_getElem (show i < xs.length by omega)]
def AtomIH (enc : TypeId × Value → H) (w : World) (base : Nat) (spare : Nat → Bool) (held : Bool) (fuel : Nat) : Prop :=
  ∀ fuel', fuel' < fuel → ∀ (cs : List Value) (x : DataW H × List MemPlace), DataW.trod enc Try.prog w base spare held fuel' 37 cs = some x → (x.1.weights Try.prog 37).all (· ≤ reachBytes) = true → ∃ a, kAny.is w [] cs a
theorem AtomIH.le {fuel n : Nat} (h : AtomIH enc w base spare held fuel) (hn : n ≤ fuel) : AtomIH enc w base spare held n := fun f hf => h f (by omega)
theorem six_of {cs : List Value} (h : cs.length = 6) : ∃ c0 c1 c2 c3 c4 c5, cs = [c0, c1, c2, c3, c4, c5] := by
  match cs, h with
  | [c0, c1, c2, c3, c4, c5], _ => exact ⟨_, _, _, _, _, _, rfl⟩
theorem eight_of {cs : List Value} (h : cs.length = 8) : ∃ c0 c1 c2 c3 c4 c5 c6 c7, cs = [c0, c1, c2, c3, c4, c5, c6, c7] := by
  match cs, h with
  | [c0, c1, c2, c3, c4, c5, c6, c7], _ => exact ⟨_, _, _, _, _, _, _, _, rfl⟩
theorem three_of {cs : List Value} (h : cs.length = 3) : ∃ c0 c1 c2, cs = [c0, c1, c2] := by
  match cs, h with
  | [c0, c1, c2], _ => exact ⟨_, _, _, rfl⟩

set_option maxRecDepth 100000 in
theorem read_rf {fuel : Nat} (IH : AtomIH enc w base spare held fuel)
    {cs : List Value} {x : DataW H × List MemPlace} (h : DataW.trod enc Try.prog w base spare held fuel 59 cs = some x) (hw : (x.1.weights Try.prog 59).all (· ≤ reachBytes) = true) : ∃ r, (kRf kAny).is w [] cs r := by
  obtain ⟨hlen, n, hn, hf⟩ := read_fields Try.underlying59 h hw
  have q : Try.prog.cellsOf 59 = 6 := by kernel_rfl
  have q0 : Try.prog.cellsOf 4 = 1 := by kernel_rfl
  have q1 : Try.prog.cellsOf 9 = 1 := by kernel_rfl
  have q2 : Try.prog.cellsOf 37 = 3 := by kernel_rfl
  rw [q] at hlen
  obtain ⟨c0, c1, c2, c3, c4, c5, rfl⟩ := six_of hlen
  have e0 := hf 0
  have e1 := hf 1
  have e2 := hf 2
  have e3 := hf 3
  simp only [List.getElem?_toArray, List.getElem?_cons_zero, List.getElem?_cons_succ, Option.some.injEq, forall_eq', q0, q1, q2, List.drop_zero, List.drop_succ_cons, List.take_succ_cons, List.take_zero] at e0 e1 e2 e3
  obtain ⟨y0, t0, w0⟩ := e0
  obtain ⟨y1, t1, w1⟩ := e1
  obtain ⟨y2, t2, w2⟩ := e2
  obtain ⟨y3, t3, w3⟩ := e3
  obtain ⟨b, h0, -⟩ := DataW.trod_bool Try.underlying4 t0
  obtain ⟨s1, h1, hs1⟩ := read_str t1 w1
  obtain ⟨s3, h3, hs3⟩ := read_str t3 w3
  obtain ⟨a, ha⟩ := IH n hn _ _ t2 w2
  simp only [List.cons.injEq, and_true] at h0 h1 h3
  subst h0 h1 h3
  exact ⟨⟨b, s1, a, s3⟩, _, rfl, ha, hs1, hs3⟩
set_option maxRecDepth 100000 in
theorem read_lt {fuel : Nat} (IH : AtomIH enc w base spare held fuel) {cs : List Value} {x : DataW H × List MemPlace} (h : DataW.trod enc Try.prog w base spare held fuel 61 cs = some x)
    (hw : (x.1.weights Try.prog 61).all (· ≤ reachBytes) = true) : ∃ l, (kLt kAny).is w [] cs l := by
  obtain ⟨hlen, n, hn, hf⟩ := read_fields Try.underlying61 h hw
  have q : Try.prog.cellsOf 61 = 8 := by kernel_rfl
  have q0 : Try.prog.cellsOf 59 = 6 := by kernel_rfl
  have q1 : Try.prog.cellsOf 9 = 1 := by kernel_rfl
  have q2 : Try.prog.cellsOf 23 = 1 := by kernel_rfl
  rw [q] at hlen
  obtain ⟨c0, c1, c2, c3, c4, c5, c6, c7, rfl⟩ := eight_of hlen
  have e0 := hf 0
  have e1 := hf 1
  have e2 := hf 2
  simp only [List.getElem?_toArray, List.getElem?_cons_zero, List.getElem?_cons_succ, Option.some.injEq, forall_eq', q0, q1, q2, List.drop_zero, List.drop_succ_cons, List.take_succ_cons, List.take_zero] at e0 e1 e2
  obtain ⟨y0, t0, w0⟩ := e0
  obtain ⟨y1, t1, w1⟩ := e1
  obtain ⟨y2, t2, w2⟩ := e2
  obtain ⟨r, hr⟩ := read_rf (IH.le (by omega)) t0 w0
  obtain ⟨s1, h1, hs1⟩ := read_str t1 w1
  obtain ⟨v2, ss, h2, hss⟩ := read_strs t2 w2
  simp only [List.cons.injEq, and_true] at h1 h2
  subst h1 h2
  exact ⟨⟨r, s1, ss⟩, [c0, c1, c2, c3, c4, c5], c7, rfl, hr, hss, hs1⟩

set_option maxRecDepth 100000 in
theorem read_ft {fuel : Nat} (IH : AtomIH enc w base spare held fuel) {cs : List Value} {x : DataW H × List MemPlace} (h : DataW.trod enc Try.prog w base spare held fuel 67 cs = some x)
    (hw : (x.1.weights Try.prog 67).all (· ≤ reachBytes) = true) : ∃ l, (kFt kAny).is w [] cs l := by
  obtain ⟨hlen, n, hn, hf⟩ := read_fields Try.underlying67 h hw
  have q : Try.prog.cellsOf 67 = 8 := by kernel_rfl
  have q0 : Try.prog.cellsOf 59 = 6 := by kernel_rfl
  have q1 : Try.prog.cellsOf 9 = 1 := by kernel_rfl
  have q2 : Try.prog.cellsOf 24 = 1 := by kernel_rfl
  rw [q] at hlen
  obtain ⟨c0, c1, c2, c3, c4, c5, c6, c7, rfl⟩ := eight_of hlen
  have e0 := hf 0
  have e1 := hf 1
  have e2 := hf 2
  simp only [List.getElem?_toArray, List.getElem?_cons_zero, List.getElem?_cons_succ, Option.some.injEq, forall_eq', q0, q1, q2, List.drop_zero, List.drop_succ_cons, List.take_succ_cons, List.take_zero] at e0 e1 e2
  obtain ⟨y0, t0, w0⟩ := e0
  obtain ⟨y1, t1, w1⟩ := e1
  obtain ⟨y2, t2, w2⟩ := e2
  obtain ⟨r, hr⟩ := read_rf (IH.le (by omega)) t1 w1
  obtain ⟨s1, h1, hs1⟩ := read_str t0 w0
  obtain ⟨v2, vs, h2, hvs⟩ := read_vs t2 w2
  simp only [List.cons.injEq, and_true] at h1 h2
  subst h1 h2
  exact ⟨⟨s1, r, vs⟩, [c1, c2, c3, c4, c5, c6], c7, rfl, hr, hvs, hs1⟩

set_option maxRecDepth 100000 in
theorem read_mt {fuel : Nat} (IH : AtomIH enc w base spare held fuel) {cs : List Value} {x : DataW H × List MemPlace} (h : DataW.trod enc Try.prog w base spare held fuel 65 cs = some x)
    (hw : (x.1.weights Try.prog 65).all (· ≤ reachBytes) = true) : ∃ l, (kMt kAny).is w [] cs l := by
  obtain ⟨hlen, n, hn, hf⟩ := read_fields Try.underlying65 h hw
  have q : Try.prog.cellsOf 65 = 8 := by kernel_rfl
  have q0 : Try.prog.cellsOf 59 = 6 := by kernel_rfl
  have q1 : Try.prog.cellsOf 9 = 1 := by kernel_rfl
  have q2 : Try.prog.cellsOf 63 = 1 := by kernel_rfl
  rw [q] at hlen
  obtain ⟨c0, c1, c2, c3, c4, c5, c6, c7, rfl⟩ := eight_of hlen
  have e0 := hf 0
  have e1 := hf 1
  have e2 := hf 2
  simp only [List.getElem?_toArray, List.getElem?_cons_zero, List.getElem?_cons_succ, Option.some.injEq, forall_eq', q0, q1, q2, List.drop_zero, List.drop_succ_cons, List.take_succ_cons, List.take_zero] at e0 e1 e2
  obtain ⟨y0, t0, w0⟩ := e0
  obtain ⟨y1, t1, w1⟩ := e1
  obtain ⟨y2, t2, w2⟩ := e2
  obtain ⟨r, hr⟩ := read_rf (IH.le (by omega)) t1 w1
  obtain ⟨s2, h2, hs2⟩ := read_str t2 w2
  obtain ⟨v0, fs, h0, hfs⟩ := read_sl (k := kFt kAny) (bytes := 144) (by simp [kFt]) Try.underlying63 (by kernel_rfl) (by kernel_rfl) (fun f hf cs x h hw => read_ft (IH.le (by omega)) h hw) t0 w0
  simp only [List.cons.injEq, and_true] at h0 h2
  subst h0 h2
  exact ⟨⟨fs, r, s2⟩, c0, [c1, c2, c3, c4, c5, c6], rfl, hfs, hr, hs2⟩

set_option maxRecDepth 100000 in
theorem read_a : ∀ (fuel : Nat) (cs : List Value) (x : DataW H × List MemPlace), DataW.trod enc Try.prog w base spare held fuel 37 cs = some x → (x.1.weights Try.prog 37).all (· ≤ reachBytes) = true → ∃ a, kAny.is w [] cs a := by
  intro fuel
  induction fuel using Nat.strongRecOn with
  | ind fuel IH0 =>
  have IH : AtomIH enc w base spare held fuel := IH0
  intro cs x h hw
  obtain ⟨hlen, n, hn, hf⟩ := read_fields Try.underlying37 h hw
  have q : Try.prog.cellsOf 37 = 3 := by kernel_rfl
  have q0 : Try.prog.cellsOf 9 = 1 := by kernel_rfl
  have q1 : Try.prog.cellsOf 34 = 1 := by kernel_rfl
  have q2 : Try.prog.cellsOf 35 = 1 := by kernel_rfl
  rw [q] at hlen
  obtain ⟨c0, c1, c2, rfl⟩ := three_of hlen
  have e0 := hf 0
  have e1 := hf 1
  have e2 := hf 2
  simp only [List.getElem?_toArray, List.getElem?_cons_zero, List.getElem?_cons_succ, Option.some.injEq, forall_eq', q0, q1, q2, List.drop_zero, List.drop_succ_cons, List.take_succ_cons, List.take_zero] at e0 e1 e2
  obtain ⟨y0, t0, w0⟩ := e0
  obtain ⟨y1, t1, w1⟩ := e1
  obtain ⟨y2, t2, w2⟩ := e2
  obtain ⟨s0, h0, hs0⟩ := read_str t0 w0
  obtain ⟨v1, ls, h1, hls⟩ := read_sl (k := kLt kAny) (bytes := 144) (by simp [kLt]) Try.underlying34 (by kernel_rfl) (by kernel_rfl) (fun f hf cs x h hw => read_lt (IH.le (by omega)) h hw) t1 w1
  obtain ⟨v2, ms, h2, hms⟩ := read_sl (k := kMt kAny) (bytes := 144) (by simp [kMt]) Try.underlying35 (by kernel_rfl) (by kernel_rfl) (fun f hf cs x h hw => read_mt (IH.le (by omega)) h hw) t2 w2
  simp only [List.cons.injEq, and_true] at h0 h1 h2
  subst h0 h1 h2
  exact ⟨.mk s0 ls ms, at_depth (a := .mk s0 ls ms) ⟨c1, c2, rfl, hs0, hls, hms⟩⟩
theorem atomIH (fuel : Nat) : AtomIH enc w base spare held fuel := fun f _ cs x h hw => read_a f cs x h hw
end

end Go.Proofs.Ytnndacgokehkpaa
