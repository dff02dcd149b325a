/- Slices whose elements read as data of whatever kind; how an argument is read as one. Types (impl.Atom, Ref, ListType, MapType, FieldType) as data, and how they lie in memory. -/
import Derived.Test.YtihapgangilncaaGreatKGRead
import Derived.Test.YtihapgangilncaaGreatKGRow
namespace Go.Proofs.YtihapgangilncaaGreat
open Go.RowKit Go.Deep Go.ChangeShapes Go.WideShapes

/-- v is a slice of the data us, of so many bytes each, outside X -/
structure IsSl {α : Type} (k : Kind α) (bytes : Nat) (w : World) (X : List Nat) (v : Value) (us : List α) : Prop where
  ex : ∃ o c b off, v = .slice o us.length c ∧ us.length ≤ c ∧ us.length * bytes ≤ 140737488351232 ∧ (0 < us.length → o = some ⟨b, off, none⟩ ∧ b ∉ X) ∧
    ∀ i (h : i < us.length), ∃ cs : List Value, (∀ j, j < k.size → w.cell? ⟨b, off + i * k.size + j, none⟩ = cs[j]?) ∧ k.is w X cs (us[i])

theorem IsSl.nil {α : Type} (k : Kind α) (bytes : Nat) (w : World) (X : List Nat) : IsSl k bytes w X (.slice none 0 0) [] := ⟨none, 0, 0, 0, rfl, by simp, by simp, fun h => by simp at h, fun i hi => by simp at hi⟩
theorem IsSl.one {α : Type} {k : Kind α} {bytes : Nat} {w : World} {X : List Nat} {v : Value} {us : List α} (h : IsSl k bytes w X v us) : v.oneCell' = true := by
  obtain ⟨o, c, b, off, rfl, _⟩ := h.ex
  rfl
theorem IsSl.mv {α : Type} {k : Kind α} {bytes : Nat} {w w' : World} {X Y : List Nat} {v : Value} {us : List α} (h : IsSl k bytes w X v us) (hm : Mv w X w' Y) (hk : 0 < k.size) : IsSl k bytes w' Y v us := by
  obtain ⟨o, c, b, off, h1, h2, h3, h4, h5⟩ := h.ex
  refine ⟨o, c, b, off, h1, h2, h3, fun hp => ?_, fun i hi => ?_⟩
  · obtain ⟨cs, hc, hcs⟩ := h5 0 hp
    have hl := k.len hcs
    have h0 := hc 0 hk
    rw [List.getElem?_eq_getElem (by omega)] at h0
    exact ⟨(h4 hp).1, (hm.cell (h4 hp).2 h0).2⟩
  · obtain ⟨cs, hc, hcs⟩ := h5 i hi
    refine ⟨cs, fun j hj => ?_, k.mv hcs hm⟩
    have hl := k.len hcs
    have h0 := hc j hj
    rw [List.getElem?_eq_getElem (by omega)] at h0 ⊢
    exact (hm.cell (h4 (by omega)).2 h0).1

theorem Row.isSl {α : Type} {k : Kind α} {e : TypeId} {bytes : Nat} {w : World} {X : List Nat} {v : Value} {us : List α} (h : Row k e w X v us) (h3 : us.length * bytes ≤ 140737488351232) : IsSl k bytes w X v us := by
  obtain ⟨rows, h1, h2, h4⟩ := h.ex
  have hflat : ∀ {Z : List Nat} {rows : List (List Value)} {us : List α}, All2 (k.is w Z) rows us → ∀ i (hi : i < rows.length) j, j < k.size → rows.flatten[i * k.size + j]? = (rows[i])[j]? := by
    intro Z rows us h
    induction h with
    | nil => intro i hi; simp at hi
    | cons h _ ih =>
      intro i hi j hj
      have hl := k.len h
      rw [List.flatten_cons]
      cases i with
      | zero => rw [Nat.zero_mul, Nat.zero_add, List.getElem?_append_left (by omega)]; rfl
      | succ i =>
        rw [List.getElem?_append_right (by rw [hl, Nat.succ_mul]; omega), show (i + 1) * k.size + j - _ = i * k.size + j from by rw [hl, Nat.succ_mul]; omega, ih i (by simpa using hi) j hj]
        rfl
  obtain ⟨_, h6 | ⟨g, cap, cur, rfl, _, _, h7, _⟩⟩ := id h1
  · obtain ⟨rfl, h0⟩ := h6
    have : us = [] := List.eq_nil_of_length_eq_zero h0
    subst this
    exact IsSl.nil _ _ _ _
  · refine ⟨some ⟨g, 0, none⟩, cap, g, 0, rfl, h7, h3, fun _ => ⟨rfl, h4 g rfl⟩, fun i hi => ?_⟩
    have hlen := h2.length
    refine ⟨rows[i]'(by omega), fun j hj => ?_, k.mv (h2.get i (by omega) hi) ((Mv.refl _ _).less fun b hb => List.mem_append_right _ hb)⟩
    have hl := k.len (h2.get i (by omega) hi)
    have h8 := hflat h2 i (by omega) j hj
    rw [← h8]
    have h9 : i * k.size + j < rows.flatten.length := by
      rw [h1.1]
      have : (i + 1) * k.size ≤ us.length * k.size := Nat.mul_le_mul_right _ (by omega)
      rw [Nat.succ_mul] at this
      omega
    have h10 := World.ownsRow.cells (g := g) h1 rfl (i * k.size + j) _ (List.getElem?_eq_getElem h9)
    rw [addr_add] at h10
    rw [List.getElem?_eq_getElem h9, ← h10, Nat.add_assoc]

theorem IsSl.isVs {w : World} {X : List Nat} {v : Value} {us : List V} (h : IsSl kV 88 w X v us) : IsVs w X v us := by
  obtain ⟨o, c, b, off, h1, h2, h3, h4, h5⟩ := h.ex
  refine ⟨o, c, b, off, h1, h2, h3, h4, fun i hi => ?_⟩
  obtain ⟨cs, hc, hcs⟩ := h5 i hi
  obtain ⟨x, rfl⟩ := IsV.shape hcs
  have e : kV.size = 6 := rfl
  rw [e] at hc
  exact ⟨x, hc 0 (by omega), hc 1 (by omega), hc 2 (by omega), hc 3 (by omega), hc 4 (by omega), hc 5 (by omega), hcs⟩
theorem IsVs.isSl {w : World} {X : List Nat} {v : Value} {us : List V} (h : IsVs w X v us) : IsSl kV 88 w X v us := by
  obtain ⟨o, c, b, off, h1, h2, h3, h4, h5⟩ := h.ex
  refine ⟨o, c, b, off, h1, h2, h3, h4, fun i hi => ?_⟩
  obtain ⟨x, c0, c1, c2, c3, c4, c5, hx⟩ := h5 i hi
  refine ⟨x.list, fun j hj => ?_, hx⟩
  have e : kV.size = 6 := rfl
  rw [e] at hj ⊢
  match j, hj with
  | 0, _ => exact c0
  | 1, _ => exact c1
  | 2, _ => exact c2
  | 3, _ => exact c3
  | 4, _ => exact c4
  | 5, _ => exact c5

section
variable {H : Type} {enc : TypeId × Value → H} {w : World} {base : Nat} {spare : Nat → Bool} {held : Bool}

/-- an argument that is trod as a slice IS one, if each element is data -/
theorem read_sl {α : Type} {k : Kind α} {bytes fuel : Nat} {ts te : TypeId} (hk : 0 < k.size) (hT : Tryz.prog.underlying ts = some (.slice te)) (hsz : Tryz.prog.cellsOf te = k.size) (hby : Tryz.prog.bytesOf te = bytes)
    (IH : ∀ fuel', fuel' < fuel → ∀ (cs : List Value) (x : DataW H × List MemPlace), DataW.trod enc Tryz.prog w base spare held fuel' te cs = some x → (x.1.weights Tryz.prog te).all (· ≤ reachBytes) = true → ∃ u, k.is w [] cs u)
    {cs : List Value} {x : DataW H × List MemPlace} (h : DataW.trod enc Tryz.prog w base spare held fuel ts cs = some x) (hw : (x.1.weights Tryz.prog ts).all (· ≤ reachBytes) = true) : ∃ v us, cs = [v] ∧ IsSl k bytes w [] v us := by
  rcases DataW.trod_slice hT h with ⟨rfl, -⟩ | ⟨a, len, cap, elems, rest, n', hfe, rfl, rfl, -, hl, hm, hen, hel, -, -⟩
  · exact ⟨_, [], rfl, IsSl.nil _ _ _ _⟩
  · rw [DataW.weights, hT] at hw
    simp only [List.all_cons, List.all_append, Bool.and_eq_true, decide_eq_true_eq, List.length_map] at hw
    rw [hby, reach_eq] at hw
    have hall : ∀ i, i < len → ∃ u : α, ∃ cs' : List Value, k.is w [] cs' u ∧ ∀ j, j < k.size → w.cell? ((a.add (i * k.size)).add j) = cs'[j]? := fun i hi => by
      have h6 := hel i hi
      rw [hsz, List.getElem?_eq_getElem (by omega)] at h6
      obtain ⟨cs', hc1, hc2⟩ := Option.bind_eq_some_iff.1 h6
      obtain ⟨-, -, hcc⟩ := World.cells?_some hc1
      have hwe := weightsAll_mem (P := Tryz.prog) (e := te) (p := fun x => decide (x ≤ reachBytes)) (d := (elems[i]'(by omega)).1) (l := elems.map (·.1)) (List.mem_map.2 ⟨_, List.getElem_mem _, rfl⟩) (by rw [reach_eq]; exact hw.2.1)
      obtain ⟨u, hu⟩ := IH n' (by omega) cs' _ hc2 hwe
      exact ⟨u, cs', hu, hcc⟩
    have hfirst : ∀ i, i < len → a = ⟨a.block, a.off, none⟩ := fun i hi => by
      obtain ⟨u, cs', hu, hc⟩ := hall 0 (by omega)
      have hlc := k.len hu
      have h0 := hc 0 hk
      have e : (a.add (0 * k.size)).add 0 = a := by simp [Addr.add]
      rw [e, List.getElem?_eq_getElem (by omega)] at h0
      exact spot_none h0
    rcases Nat.eq_zero_or_pos len with h0 | h0
    · subst h0
      exact ⟨_, [], rfl, some a, cap, a.block, a.off, rfl, hl, by simp, fun h => by simp at h, fun i hi => by simp at hi⟩
    have hne : Nonempty α := by obtain ⟨u, _⟩ := hall 0 h0; exact ⟨u⟩
    obtain ⟨f, hf⟩ : ∃ f : Nat → α, ∀ i, i < len → ∃ cs' : List Value, k.is w [] cs' (f i) ∧ ∀ j, j < k.size → w.cell? ((a.add (i * k.size)).add j) = cs'[j]? :=
      ⟨fun i => if h : i < len then Classical.choose (hall i h) else Classical.choice hne, fun i hi => by dsimp only; rw [dif_pos hi]; exact Classical.choose_spec (hall i hi)⟩
    refine ⟨_, (List.range len).map f, rfl, some a, cap, a.block, a.off, by simp, by simpa using hl, ?_, fun hp => ?_, fun i hi => ?_⟩
    · simp only [List.length_map, List.length_range]
      exact Nat.le_trans (Nat.mul_le_mul_right bytes (by omega)) hw.1
    · exact ⟨congrArg some (hfirst 0 (by simpa using hp)), by simp⟩
    · simp only [List.length_map, List.length_range] at hi
      obtain ⟨cs', hu, hc⟩ := hf i hi
      refine ⟨cs', fun j hj => ?_, by simpa using hu⟩
      have h1 := hc j hj
      rw [hfirst 0 (by omega), addr_add, addr_add] at h1
      exact h1

theorem read_vs {fuel : Nat} {cs : List Value} {x : DataW H × List MemPlace} (h : DataW.trod enc Tryz.prog w base spare held fuel 42 cs = some x) (hw : (x.1.weights Tryz.prog 42).all (· ≤ reachBytes) = true) :
    ∃ v us, cs = [v] ∧ IsVs w [] v us := by
  obtain ⟨v, us, h1, h2⟩ := read_sl (k := kV) (bytes := 88) (by decide) Tryz.underlying42 (by kernel_rfl) (by kernel_rfl) (fun f _ cs x h hw => read_v f cs x h hw) h hw
  exact ⟨v, us, h1, h2.isVs⟩
end

end Go.Proofs.YtihapgangilncaaGreat
namespace Go.Proofs.YtihapgangilncaaGreat
open Go.RowKit Go.Deep Go.ChangeShapes Go.WideShapes

structure RfOf (α : Type) where
  (named : Bool) (name : ByteArray) (atom : α) (rel : ByteArray)
structure LtOf (α : Type) where
  (elem : RfOf α) (rel : ByteArray) (keys : List ByteArray)
structure FtOf (α : Type) where
  (name : ByteArray) (type : RfOf α) (dflt : List V)
structure MtOf (α : Type) where
  (fields : List (FtOf α)) (elem : RfOf α) (rel : ByteArray)
/-- impl.Atom -/
inductive A where
  | mk (scalar : ByteArray) (lists : List (LtOf A)) (maps : List (MtOf A))

/-- impl.Ref, over types as k says -/
def kRf {α : Type} (k : Kind α) : Kind (RfOf α) where
  size := k.size + 3
  is := fun w X cs r => ∃ ac, cs = .bool r.named :: .string r.name :: (ac ++ [.string r.rel]) ∧ k.is w X ac r.atom ∧ r.name.size ≤ 140737488351232 ∧ r.rel.size ≤ 140737488351232
  mv := fun ⟨ac, h1, h2, h3⟩ m => ⟨ac, h1, k.mv h2 m, h3⟩
  len := fun ⟨ac, h1, h2, _⟩ => by have := k.len h2; rw [h1]; simp [this]
  one := fun ⟨ac, h1, h2, _⟩ u hu => by
    rw [h1] at hu
    simp only [List.mem_cons, List.mem_append, List.not_mem_nil, or_false] at hu
    rcases hu with rfl | rfl | hu | rfl
    · rfl
    · rfl
    · exact k.one h2 u hu
    · rfl
theorem IsStrs.one {w : World} {X : List Nat} {v : Value} {ss : List ByteArray} (h : IsStrs w X v ss) : v.oneCell' = true := by
  obtain ⟨o, c, b, off, rfl, _⟩ := h.ex
  rfl
/-- impl.ListType -/
def kLt {α : Type} (k : Kind α) : Kind (LtOf α) where
  size := k.size + 5
  is := fun w X cs l => ∃ rs vk, cs = rs ++ [.string l.rel, vk] ∧ (kRf k).is w X rs l.elem ∧ IsStrs w X vk l.keys ∧ l.rel.size ≤ 140737488351232
  mv := fun h m => by
    obtain ⟨rs, vk, h1, h2, h3, h4⟩ := h
    exact ⟨rs, vk, h1, (kRf k).mv h2 m, h3.mv m, h4⟩
  len := fun ⟨rs, vk, h1, h2, _⟩ => by have := (kRf k).len h2; rw [h1]; simp [this, kRf]
  one := fun ⟨rs, vk, h1, h2, h3, _⟩ u hu => by
    rw [h1] at hu
    simp only [List.mem_cons, List.mem_append, List.not_mem_nil, or_false] at hu
    rcases hu with hu | rfl | rfl
    · exact (kRf k).one h2 u hu
    · rfl
    · exact h3.one
/-- impl.FieldType -/
def kFt {α : Type} (k : Kind α) : Kind (FtOf α) where
  size := k.size + 5
  is := fun w X cs f => ∃ rs vd, cs = .string f.name :: (rs ++ [vd]) ∧ (kRf k).is w X rs f.type ∧ IsVs w X vd f.dflt ∧ f.name.size ≤ 140737488351232
  mv := fun ⟨rs, vd, h1, h2, h3, h4⟩ m => ⟨rs, vd, h1, (kRf k).mv h2 m, h3.mv m, h4⟩
  len := fun ⟨rs, vd, h1, h2, _⟩ => by have := (kRf k).len h2; rw [h1]; simp [this, kRf]
  one := fun ⟨rs, vd, h1, h2, h3, _⟩ u hu => by
    rw [h1] at hu
    simp only [List.mem_cons, List.mem_append, List.not_mem_nil, or_false] at hu
    rcases hu with rfl | hu | rfl
    · rfl
    · exact (kRf k).one h2 u hu
    · exact h3.isSl.one
/-- impl.MapType -/
def kMt {α : Type} (k : Kind α) : Kind (MtOf α) where
  size := k.size + 5
  is := fun w X cs m => ∃ vf rs, cs = vf :: (rs ++ [.string m.rel]) ∧ IsSl (kFt k) 144 w X vf m.fields ∧ (kRf k).is w X rs m.elem ∧ m.rel.size ≤ 140737488351232
  mv := fun ⟨vf, rs, h1, h2, h3, h4⟩ m => ⟨vf, rs, h1, h2.mv m (by simp [kFt]), (kRf k).mv h3 m, h4⟩
  len := fun ⟨vf, rs, h1, h2, h3, _⟩ => by have := (kRf k).len h3; rw [h1]; simp [this, kRf]
  one := fun ⟨vf, rs, h1, h2, h3, _⟩ u hu => by
    rw [h1] at hu
    simp only [List.mem_cons, List.mem_append, List.not_mem_nil, or_false] at hu
    rcases hu with rfl | hu | rfl
    · exact h2.one
    · exact (kRf k).one h3 u hu
    · rfl
/-- impl.Atom over types as k says -/
def kAt (k : Kind A) : Kind A where
  size := 3
  is := fun w X cs a => match a with
    | .mk s ls ms => ∃ vl vm, cs = [.string s, vl, vm] ∧ s.size ≤ 140737488351232 ∧ IsSl (kLt k) 144 w X vl ls ∧ IsSl (kMt k) 144 w X vm ms
  mv := fun {_ _ _ _ _ a} h m => by
    obtain ⟨s, ls, ms⟩ := a
    obtain ⟨vl, vm, h1, h2, h3, h4⟩ := h
    exact ⟨vl, vm, h1, h2, h3.mv m (by simp [kLt]), h4.mv m (by simp [kMt])⟩
  len := fun {_ _ _ a} h => by
    obtain ⟨s, ls, ms⟩ := a
    obtain ⟨vl, vm, h1, _⟩ := h
    rw [h1]; rfl
  one := fun {_ _ _ a} h u hu => by
    obtain ⟨s, ls, ms⟩ := a
    obtain ⟨vl, vm, h1, h2, h3, h4⟩ := h
    rw [h1] at hu
    simp only [List.mem_cons, List.not_mem_nil, or_false] at hu
    rcases hu with rfl | rfl | rfl
    · rfl
    · exact h3.one
    · exact h4.one
def kNo : Kind A where
  size := 3
  is := fun _ _ _ _ => False
  mv := fun h _ => h
  len := fun h => h.elim
  one := fun h => h.elim
/-- impl.Atom, of at most so many levels -/
def kA : Nat → Kind A
  | 0 => kNo
  | d + 1 => kAt (kA d)
theorem kA_size (d : Nat) : (kA d).size = 3 := by cases d <;> rfl

/-- whatever k takes, k' takes -/
def Kind.le {α : Type} (k k' : Kind α) : Prop := k.size = k'.size ∧ ∀ {w : World} {X : List Nat} {cs : List Value} {a : α}, k.is w X cs a → k'.is w X cs a
theorem Kind.le_refl {α : Type} (k : Kind α) : k.le k := ⟨rfl, fun h => h⟩
theorem Kind.le_trans {α : Type} {a b c : Kind α} (h : a.le b) (k : b.le c) : a.le c := ⟨h.1.trans k.1, fun x => k.2 (h.2 x)⟩
theorem IsSl.le {α : Type} {k k' : Kind α} {bytes : Nat} {w : World} {X : List Nat} {v : Value} {us : List α} (h : IsSl k bytes w X v us) (hk : k.le k') : IsSl k' bytes w X v us := by
  obtain ⟨o, c, b, off, h1, h2, h3, h4, h5⟩ := h.ex
  refine ⟨o, c, b, off, h1, h2, h3, h4, fun i hi => ?_⟩
  obtain ⟨cs, hc, hcs⟩ := h5 i hi
  exact ⟨cs, by rw [← hk.1]; exact hc, hk.2 hcs⟩
/-- impl.Atom, of however many levels -/
def kAny : Kind A where
  size := 3
  is := fun w X cs a => ∃ d, (kA d).is w X cs a
  mv := fun ⟨d, h⟩ m => ⟨d, (kA d).mv h m⟩
  len := fun ⟨d, h⟩ => by rw [(kA d).len h, kA_size]
  one := fun ⟨d, h⟩ => (kA d).one h

section
variable {H : Type} {enc : TypeId × Value → H} {w : World} {base : Nat} {spare : Nat → Bool} {held : Bool}

theorem read_str {fuel : Nat} {cs : List Value} {x : DataW H × List MemPlace} (h : DataW.trod enc Tryz.prog w base spare held fuel 9 cs = some x) (hw : (x.1.weights Tryz.prog 9).all (· ≤ reachBytes) = true) :
    ∃ s : ByteArray, cs = [.string s] ∧ s.size ≤ 140737488351232 := by
  obtain ⟨s, rfl, rfl, -⟩ := DataW.trod_string Tryz.underlying9 h
  rw [DataW.weights, reach_eq] at hw
  have h2 : s.data.toList.length ≤ 140737488351232 := by simpa using hw
  exact ⟨s, rfl, h2⟩

/-- a struct's fields, each trod on its own cells -/
theorem read_fields {fuel : Nat} {cs : List Value} {x : DataW H × List MemPlace} {t : TypeId} {fs : Array Field} (hT : Tryz.prog.underlying t = some (.struct fs)) (h : DataW.trod enc Tryz.prog w base spare held fuel t cs = some x) (hw : (x.1.weights Tryz.prog t).all (· ≤ reachBytes) = true) :
    cs.length = Tryz.prog.cellsOf t ∧ ∃ n, n < fuel ∧ ∀ (i : Nat) (f : Field), fs[i]? = some f → ∃ y : DataW H × List MemPlace, DataW.trod enc Tryz.prog w base spare held n f.type ((cs.drop f.offset).take (Tryz.prog.cellsOf f.type)) = some y ∧ (y.1.weights Tryz.prog f.type).all (· ≤ reachBytes) = true := by
  obtain ⟨xs, n, rfl, rfl, hlen, hxl, hel⟩ := DataW.trod_struct hT h
  refine ⟨hlen, n, by omega, fun i f hf => ?_⟩
  have hi : i < fs.size := (Array.getElem?_eq_some_iff.1 hf).1
  have h1 := hel i f hf
  rw [List.getElem?_eq_getElem (by omega)] at h1
  refine ⟨_, h1, ?_⟩
  rw [DataW.weights, hT] at hw
  have key : ∀ (ts : List TypeId) (ds : List (DataW H)), (DataW.weightsEach Tryz.prog ts ds).all (· ≤ reachBytes) = true → ∀ (i : Nat) (t : TypeId) (d : DataW H), ts[i]? = some t → ds[i]? = some d → (d.weights Tryz.prog t).all (· ≤ reachBytes) = true := by
    intro ts
    induction ts with
    | nil => intro ds _ i t d hi; simp at hi
    | cons t0 ts ih =>
      intro ds hds i t d hi hd
      cases ds with
      | nil => simp at hd
      | cons d0 ds =>
        simp only [DataW.weightsEach, List.all_append, Bool.and_eq_true] at hds
        cases i with
        | zero =>
          simp only [List.getElem?_cons_zero, Option.some.injEq] at hi hd
          subst hi hd
          exact hds.1
        | succ i => exact ih ds hds.2 i t d (by simpa using hi) (by simpa using hd)
  refine key _ _ hw i _ _ ?_ ?_
  · have := congrArg (Option.map (·.type)) hf
    simpa using this
  · simp [List.getElem?_eq_getElem (show i < xs.length by omega)]
def AtomIH (enc : TypeId × Value → H) (w : World) (base : Nat) (spare : Nat → Bool) (held : Bool) (fuel : Nat) : Prop :=
  ∀ fuel', fuel' < fuel → ∀ (cs : List Value) (x : DataW H × List MemPlace), DataW.trod enc Tryz.prog w base spare held fuel' 56 cs = some x → (x.1.weights Tryz.prog 56).all (· ≤ reachBytes) = true → ∃ a, kAny.is w [] cs a
theorem AtomIH.le {fuel n : Nat} (h : AtomIH enc w base spare held fuel) (hn : n ≤ fuel) : AtomIH enc w base spare held n := fun f hf => h f (by omega)
end

end Go.Proofs.YtihapgangilncaaGreat
