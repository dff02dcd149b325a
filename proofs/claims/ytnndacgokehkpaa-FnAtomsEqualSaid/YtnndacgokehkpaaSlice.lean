/- Slices whose elements read as data of whatever kind; how an argument is read as one. -/
import Derived.Test.YtnndacgokehkpaaRead
import Derived.Test.YtnndacgokehkpaaRow
namespace Go.Proofs.Ytnndacgokehkpaa
open Go.RowKit Go.Deep Go.ChangeShapes Go.WideShapes

/-- v is a slice of the data us, of so many bytes each, outside X -/
structure IsSl {α : Type} (k : Kind α) (bytes : Nat) (w : World) (X : List Nat) (v : Value) (us : List α) : Prop where
  ex : ∃ o c b off, v = .slice o us.length c ∧ us.length ≤ c ∧ us.length * bytes ≤ 140737488351232 ∧ (0 < us.length → o = some ⟨b, off, none⟩ ∧ b ∉ X) ∧
    ∀ i (h : i < us.length), ∃ cs : List Value, (∀ j, j < k.size → w.cell? ⟨b, off + i * k.size + j, none⟩ = cs[j]?) ∧ k.is w X cs (us[i])

theorem IsSl.nil {α : Type} (k : Kind α) (bytes : Nat) (w : World) (X : List Nat) : IsSl k bytes w X (.slice none 0 0) [] := ⟨none, 0, 0, 0, rfl, by simp, by simp, fun h => by simp at h, fun i hi => by simp at hi⟩
theorem IsSl.one {α : Type} {k : Kind α} {bytes : Nat} {w : World} {X : List Nat} {v : Value} {us : List α} (h : IsSl k bytes w X v us) : v.oneCell' = true := by
  obtain ⟨o, c, b, off, rfl, _⟩ := h.ex
  rfl
theorem IsSl.mv {α : Type} {k : Kind α} {bytes : Nat} {w w' : World} {X Y : List Nat} {v : Value} {us : List α} (h : IsSl k bytes w X v us) (hm : Mv w X w' Y) (hk : 0 < k.size) : IsSl k bytes w' Y v us := by
  obtain ⟨o, c, b, off, h1, h2, h3, h4, h5⟩ := h.ex
  refine ⟨o, c, b, off, h1, h2, h3, fun hp => ?_, fun i hi => ?_⟩
  · obtain ⟨cs, hc, hcs⟩ := h5 0 hp
    have hl := k.len hcs
    have h0 := hc 0 hk
    rw [List.getElem?_eq_getElem (by omega)] at h0
    exact ⟨(h4 hp).1, (hm.cell (h4 hp).2 h0).2⟩
  · obtain ⟨cs, hc, hcs⟩ := h5 i hi
    refine ⟨cs, fun j hj => ?_, k.mv hcs hm⟩
    have hl := k.len hcs
    have h0 := hc j hj
    rw [List.getElem?_eq_getElem (by omega)] at h0 ⊢
    exact (hm.cell (h4 (by omega)).2 h0).1

theorem Row.isSl {α : Type} {k : Kind α} {e : TypeId} {bytes : Nat} {w : World} {X : List Nat} {v : Value} {us : List α} (h : Row k e w X v us) (h3 : us.length * bytes ≤ 140737488351232) : IsSl k bytes w X v us := by
  obtain ⟨rows, h1, h2, h4⟩ := h.ex
  have hflat : ∀ {Z : List Nat} {rows : List (List Value)} {us : List α}, All2 (k.is w Z) rows us → ∀ i (hi : i < rows.length) j, j < k.size → rows.flatten[i * k.size + j]? = (rows[i])[j]? := by
    intro Z rows us h
    induction h with
    | nil => intro i hi; simp at hi
    | cons h _ ih =>
      intro i hi j hj
      have hl := k.len h
      rw [List.flatten_cons]
      cases i with
      | zero => rw [Nat.zero_mul, Nat.zero_add, List.getElem?_append_left (by omega)]; rfl
      | succ i =>
        rw [List.getElem?_append_right (by rw [hl, Nat.succ_mul]; omega), show (i + 1) * k.size + j - _ = i * k.size + j from by rw [hl, Nat.succ_mul]; omega, ih i (by simpa using hi) j hj]
        rfl
  obtain ⟨_, h6 | ⟨g, cap, cur, rfl, _, _, h7, _⟩⟩ := id h1
  · obtain ⟨rfl, h0⟩ := h6
    have : us = [] := List.eq_nil_of_length_eq_zero h0
    subst this
    exact IsSl.nil _ _ _ _
  · refine ⟨some ⟨g, 0, none⟩, cap, g, 0, rfl, h7, h3, fun _ => ⟨rfl, h4 g rfl⟩, fun i hi => ?_⟩
    have hlen := h2.length
    refine ⟨rows[i]'(by omega), fun j hj => ?_, k.mv (h2.get i (by omega) hi) ((Mv.refl _ _).less fun b hb => List.mem_append_right _ hb)⟩
    have hl := k.len (h2.get i (by omega) hi)
    have h8 := hflat h2 i (by omega) j hj
    rw [← h8]
    have h9 : i * k.size + j < rows.flatten.length := by
      rw [h1.1]
      have : (i + 1) * k.size ≤ us.length * k.size := Nat.mul_le_mul_right _ (by omega)
      rw [Nat.succ_mul] at this
      omega
    have h10 := World.ownsRow.cells (g := g) h1 rfl (i * k.size + j) _ (List.getElem?_eq_getElem h9)
    rw [addr_add] at h10
    rw [List.getElem?_eq_getElem h9, ← h10, Nat.add_assoc]

theorem IsSl.isVs {w : World} {X : List Nat} {v : Value} {us : List V} (h : IsSl kV 88 w X v us) : IsVs w X v us := by
  obtain ⟨o, c, b, off, h1, h2, h3, h4, h5⟩ := h.ex
  refine ⟨o, c, b, off, h1, h2, h3, h4, fun i hi => ?_⟩
  obtain ⟨cs, hc, hcs⟩ := h5 i hi
  obtain ⟨x, rfl⟩ := IsV.shape hcs
  have e : kV.size = 6 := rfl
  rw [e] at hc
  exact ⟨x, hc 0 (by omega), hc 1 (by omega), hc 2 (by omega), hc 3 (by omega), hc 4 (by omega), hc 5 (by omega), hcs⟩
theorem IsVs.isSl {w : World} {X : List Nat} {v : Value} {us : List V} (h : IsVs w X v us) : IsSl kV 88 w X v us := by
  obtain ⟨o, c, b, off, h1, h2, h3, h4, h5⟩ := h.ex
  refine ⟨o, c, b, off, h1, h2, h3, h4, fun i hi => ?_⟩
  obtain ⟨x, c0, c1, c2, c3, c4, c5, hx⟩ := h5 i hi
  refine ⟨x.list, fun j hj => ?_, hx⟩
  have e : kV.size = 6 := rfl
  rw [e] at hj ⊢
  match j, hj with
  | 0, _ => exact c0
  | 1, _ => exact c1
  | 2, _ => exact c2
  | 3, _ => exact c3
  | 4, _ => exact c4
  | 5, _ => exact c5

section
variable {H : Type} {enc : TypeId × Value → H} {w : World} {base : Nat} {spare : Nat → Bool} {held : Bool}

/-- an argument that is trod as a slice IS one, if each element is data -/
theorem read_sl {α : Type} {k : Kind α} {bytes fuel : Nat} {ts te : TypeId} (hk : 0 < k.size) (hT : Try.prog.underlying ts = some (.slice te)) (hsz : Try.prog.cellsOf te = k.size) (hby : Try.prog.bytesOf te = bytes)
    (IH : ∀ fuel', fuel' < fuel → ∀ (cs : List Value) (x : DataW H × List MemPlace), DataW.trod enc Try.prog w base spare held fuel' te cs = some x → (x.1.weights Try.prog te).all (· ≤ reachBytes) = true → ∃ u, k.is w [] cs u)
    {cs : List Value} {x : DataW H × List MemPlace} (h : DataW.trod enc Try.prog w base spare held fuel ts cs = some x) (hw : (x.1.weights Try.prog ts).all (· ≤ reachBytes) = true) : ∃ v us, cs = [v] ∧ IsSl k bytes w [] v us := by
  rcases DataW.trod_slice hT h with ⟨rfl, -⟩ | ⟨a, len, cap, elems, rest, n', hfe, rfl, rfl, -, hl, hm, hen, hel, -, -⟩
  · exact ⟨_, [], rfl, IsSl.nil _ _ _ _⟩
  · rw [DataW.weights, hT] at hw
    simp only [List.all_cons, List.all_append, Bool.and_eq_true, decide_eq_true_eq, List.length_map] at hw
    rw [hby, reach_eq] at hw
    have hall : ∀ i, i < len → ∃ u : α, ∃ cs' : List Value, k.is w [] cs' u ∧ ∀ j, j < k.size → w.cell? ((a.add (i * k.size)).add j) = cs'[j]? := fun i hi => by
      have h6 := hel i hi
      rw [hsz, List.getElem?_eq_getElem (by omega)] at h6
      obtain ⟨cs', hc1, hc2⟩ := Option.bind_eq_some_iff.1 h6
      obtain ⟨-, -, hcc⟩ := World.cells?_some hc1
      have hwe := weightsAll_mem (P := Try.prog) (e := te) (p := fun x => decide (x ≤ reachBytes)) (d := (elems[i]'(by omega)).1) (l := elems.map (·.1)) (List.mem_map.2 ⟨_, List.getElem_mem _, rfl⟩) (by rw [reach_eq]; exact hw.2.1)
      obtain ⟨u, hu⟩ := IH n' (by omega) cs' _ hc2 hwe
      exact ⟨u, cs', hu, hcc⟩
    have hfirst : ∀ i, i < len → a = ⟨a.block, a.off, none⟩ := fun i hi => by
      obtain ⟨u, cs', hu, hc⟩ := hall 0 (by omega)
      have hlc := k.len hu
      have h0 := hc 0 hk
      have e : (a.add (0 * k.size)).add 0 = a := by simp [Addr.add]
      rw [e, List.getElem?_eq_getElem (by omega)] at h0
      exact spot_none h0
    rcases Nat.eq_zero_or_pos len with h0 | h0
    · subst h0
      exact ⟨_, [], rfl, some a, cap, a.block, a.off, rfl, hl, by simp, fun h => by simp at h, fun i hi => by simp at hi⟩
    have hne : Nonempty α := by obtain ⟨u, _⟩ := hall 0 h0; exact ⟨u⟩
    obtain ⟨f, hf⟩ : ∃ f : Nat → α, ∀ i, i < len → ∃ cs' : List Value, k.is w [] cs' (f i) ∧ ∀ j, j < k.size → w.cell? ((a.add (i * k.size)).add j) = cs'[j]? :=
      ⟨fun i => if h : i < len then Classical.choose (hall i h) else Classical.choice hne, fun i hi => by dsimp only; rw [dif_pos hi]; exact Classical.choose_spec (hall i hi)⟩
    refine ⟨_, (List.range len).map f, rfl, some a, cap, a.block, a.off, by simp, by simpa using hl, ?_, fun hp => ?_, fun i hi => ?_⟩
    · simp only [List.length_map, List.length_range]
      exact Nat.le_trans (Nat.mul_le_mul_right bytes (by omega)) hw.1
    · exact ⟨congrArg some (hfirst 0 (by simpa using hp)), by simp⟩
    · simp only [List.length_map, List.length_range] at hi
      obtain ⟨cs', hu, hc⟩ := hf i hi
      refine ⟨cs', fun j hj => ?_, by simpa using hu⟩
      have h1 := hc j hj
      rw [hfirst 0 (by omega), addr_add, addr_add] at h1
      exact h1

theorem read_vs {fuel : Nat} {cs : List Value} {x : DataW H × List MemPlace} (h : DataW.trod enc Try.prog w base spare held fuel 24 cs = some x) (hw : (x.1.weights Try.prog 24).all (· ≤ reachBytes) = true) :
    ∃ v us, cs = [v] ∧ IsVs w [] v us := by
  obtain ⟨v, us, h1, h2⟩ := read_sl (k := kV) (bytes := 88) (by decide) Try.underlying24 (by kernel_rfl) (by kernel_rfl) (fun f _ cs x h hw => read_v f cs x h hw) h hw
  exact ⟨v, us, h1, h2.isVs⟩
end

end Go.Proofs.Ytnndacgokehkpaa
