/- Set.Iterate: a function value called with each path of a set. Sets that paths were put into, as sets to read; spec.Listed, spec.EqualSets, laws.lists. Lists of paths as arguments; what a set made of them lists (plain). append of a whole slice to a row; laws.both. -/
import Derived.Test.YtihapgangilncaaGreatKCSetM
import Derived.Test.YtihapgangilncaaGreatKCSetIns
import Derived.Test.YtihapgangilncaaGreatKCPeGood
import Derived.Test.YtihapgangilncaaGreatKCHole
import Derived.Test.YtihapgangilncaaGreatKCFlCopy
namespace Go.Proofs.YtihapgangilncaaGreat
open Go.RowKit
set_option linter.unusedSimpArgs false

section
variable {P : Program}
end

/-- going over paths with a function value; O are the blocks that it has made its own -/
structure PVisit (F : FuncId) (cap : Array Value) (Inv : Nat → List Nat → List Nat → World → Prop) (ps : List (List PEl)) : Prop where
  enter : ∀ (args : Array Value) (w : World), (callFunc F args).run Tryz.prog w = .ok (.enter F args) w
  old : ∀ {k O Z w}, Inv k O Z w → Old O w
  grow : ∀ {k O Z Z' w w' B}, Inv k O Z w → Mut w B w' → (∀ b ∈ B, b ∈ Z) → (∀ b ∈ Z', b ∈ Z ∨ w.heap.size ≤ b) → Inv k O Z' w'
  step : ∀ {k O Z w v p}, ps[k]? = some p → p.length * 32 ≤ 140737488351232 → Inv k O (vb v ++ Z) w → Old Z w → Row kPe 89 w (O ++ Z) v p → ∀ K : Ending → World → Prop,
    (∀ w' O', Mut w O w' → (∀ b ∈ O', b ∈ O ∨ w.heap.size ≤ b) → Inv (k + 1) O' (vb v ++ Z) w' → K (.returned (.tuple #[])) w') → Calls Tryz.prog F (#[v] ++ cap) w K
theorem PVisit.ext {F : FuncId} {cap : Array Value} {Inv : Nat → List Nat → List Nat → World → Prop} {ps : List (List PEl)} (h : PVisit F cap Inv ps) {k : Nat} {O Z : List Nat} {w w' : World} (hi : Inv k O Z w) (hE : Ext w w') : Inv k O Z w' := h.grow hi (hE.mut []) (by simp) (fun _ hb => .inl hb)
/-- L stands in ps from place k on -/
def Seg {α : Type} (ps : List α) (k : Nat) (L : List α) : Prop := ∃ A C, ps = A ++ (L ++ C) ∧ A.length = k
theorem Seg.left {α : Type} {ps : List α} {k : Nat} {L M : List α} (h : Seg ps k (L ++ M)) : Seg ps k L := by
  obtain ⟨A, C, h1, h2⟩ := h
  exact ⟨A, M ++ C, by rw [h1]; simp, h2⟩
theorem Seg.right {α : Type} {ps : List α} {k : Nat} {L M : List α} (h : Seg ps k (L ++ M)) : Seg ps (k + L.length) M := by
  obtain ⟨A, C, h1, h2⟩ := h
  exact ⟨A ++ L, C, by rw [h1]; simp, by simp [h2]⟩
theorem Seg.get {α : Type} {ps : List α} {k : Nat} {L : List α} (h : Seg ps k L) {i : Nat} (hi : i < L.length) : ps[k + i]? = some (L[i]) := by
  obtain ⟨A, C, rfl, rfl⟩ := h
  rw [List.getElem?_append_right (by omega), Nat.add_sub_cancel_left, List.getElem?_append_left hi, List.getElem?_eq_getElem hi]
theorem Seg.one {α : Type} {ps : List α} {k : Nat} {x : α} {L : List α} (h : Seg ps k (x :: L)) : ps[k]? = some x := by
  obtain ⟨A, C, rfl, rfl⟩ := h
  simp

section
variable {F : FuncId} {cap : Array Value} {Inv : Nat → List Nat → List Nat → World → Prop} {ps : List (List PEl)}
theorem Own.mutated {w w' : World} {e size : Nat} {v : Value} {n : Nat} {xs : List Value} {B : List Nat} (h : Own w e size v n xs) (hM : Mut w B w') (hB : ∀ b ∈ vb v, b ∉ B) : Own w' e size v n xs := h.keep fun g hg => hM.block g (h.lt hg) (hB g (by simp [vb, hg]))
end
end Go.Proofs.YtihapgangilncaaGreat
namespace Go.Proofs.YtihapgangilncaaGreat
open Go.RowKit
set_option linter.unusedSimpArgs false

mutual
def Tr.erase {β α : Type} : Tr β α → Tr Unit α
  | .mk _ ms cs => .mk () ms (Tr.eraseL cs)
def Tr.eraseL {β α : Type} : List (α × Tr β α) → List (α × Tr Unit α)
  | [] => []
  | p :: cs => Tr.eraseP p :: Tr.eraseL cs
def Tr.eraseP {β α : Type} : α × Tr β α → α × Tr Unit α
  | (e, s) => (e, Tr.erase s)
end
end Go.Proofs.YtihapgangilncaaGreat
namespace Go.Proofs.YtihapgangilncaaGreat
open Go.RowKit Go.Deep Go.ChangeShapes Go.WideShapes
set_option linter.unusedSimpArgs false

section
variable {H : Type} {enc : TypeId × Value → H} {w : World} {base : Nat} {spare : Nat → Bool} {held : Bool}
theorem eleven_ofP {cs : List Value} (h : cs.length = 11) : ∃ c0 c1 c2 c3 c4 c5 c6 c7 c8 c9 c10, cs = [c0, c1, c2, c3, c4, c5, c6, c7, c8, c9, c10] := by
  match cs, h with
  | [c0, c1, c2, c3, c4, c5, c6, c7, c8, c9, c10], _ => exact ⟨_, _, _, _, _, _, _, _, _, _, _, rfl⟩
theorem read_elP {fuel : Nat} {cs : List Value} {x : DataW H × List MemPlace} (h : DataW.trod enc Tryz.prog w base spare held fuel 47 cs = some x)
    (hw : (x.1.weights Tryz.prog 47).all (· ≤ reachBytes) = true) : ∃ e, kEl.is w [] cs e := by
  obtain ⟨hlen, n, hn, hf⟩ := read_fields Tryz.underlying47 h hw
  have q : Tryz.prog.cellsOf 47 = 11 := by kernel_rfl
  have q0 : Tryz.prog.cellsOf 3 = 1 := by kernel_rfl
  have q1 : Tryz.prog.cellsOf 9 = 1 := by kernel_rfl
  have q2 : Tryz.prog.cellsOf 41 = 1 := by kernel_rfl
  have q3 : Tryz.prog.cellsOf 42 = 1 := by kernel_rfl
  have q4 : Tryz.prog.cellsOf 45 = 6 := by kernel_rfl
  rw [q] at hlen
  obtain ⟨c0, c1, c2, c3, c4, c5, c6, c7, c8, c9, c10, rfl⟩ := eleven_ofP hlen
  have e0 := hf 0
  have e1 := hf 1
  have e2 := hf 2
  have e3 := hf 3
  have e4 := hf 4
  have e5 := hf 5
  simp only [List.getElem?_toArray, List.getElem?_cons_zero, List.getElem?_cons_succ, Option.some.injEq, forall_eq', q0, q1, q2, q3, q4, List.drop_zero, List.drop_succ_cons, List.take_succ_cons, List.take_zero] at e0 e1 e2 e3 e4 e5
  obtain ⟨y0, t0, w0⟩ := e0
  obtain ⟨y1, t1, w1⟩ := e1
  obtain ⟨y2, t2, w2⟩ := e2
  obtain ⟨y3, t3, w3⟩ := e3
  obtain ⟨y4, t4, w4⟩ := e4
  obtain ⟨y5, t5, w5⟩ := e5
  obtain ⟨k0, h0, -, wf0⟩ := DataW.trod_int Tryz.underlying3 t0
  obtain ⟨s1, h1, hs1⟩ := read_str t1 w1
  obtain ⟨v2, ss, h2, hss⟩ := read_strs t2 w2
  obtain ⟨v3, vs, h3, hvs⟩ := read_vs t3 w3
  obtain ⟨v, hv⟩ := read_v n _ _ t4 w4
  obtain ⟨k5, h5, -, wf5⟩ := DataW.trod_int Tryz.underlying3 t5
  simp only [List.cons.injEq, and_true] at h0 h1 h2 h3 h5
  subst h0 h1 h2 h3 h5
  exact ⟨⟨k0, s1, ss, vs, v, k5⟩, _, _, [c4, c5, c6, c7, c8, c9], rfl, wf0, wf5, hs1, hss, hvs, hv⟩
theorem read_path1 {fuel : Nat} {cs : List Value} {x : DataW H × List MemPlace} (h : DataW.trod enc Tryz.prog w base spare held fuel 22 cs = some x)
    (hw : (x.1.weights Tryz.prog 22).all (· ≤ reachBytes) = true) : ∃ v p, cs = [v] ∧ IsSl kEl 168 w [] v p :=
  read_sl (k := kEl) (bytes := 168) (by simp [kEl]) Tryz.underlying22 (by kernel_rfl) (by kernel_rfl) (fun f _ cs x h hw => read_elP h hw) h hw
end

theorem good_list {w : World} {X : List Nat} {va : Value} {l : List (List EL)} (ha : IsSl kPth 24 w X va l) (ht : ∀ p ∈ l, ∀ e ∈ p, tameEl e) : ∀ p ∈ l, GP GoodE (p.map toE) := by
  obtain ⟨o, c, b, off, -, -, -, -, l5⟩ := ha.ex
  intro p hp x hx
  obtain ⟨e, he, rfl⟩ := List.mem_map.1 hx
  refine ⟨e, ht p hp e he, ?_, rfl⟩
  obtain ⟨i, hi, rfl⟩ := List.getElem_of_mem hp
  obtain ⟨cs, -, v, -, hv⟩ := l5 i hi
  obtain ⟨o2, c2, b2, off2, -, -, -, -, m5⟩ := hv.ex
  obtain ⟨j, hj, rfl⟩ := List.getElem_of_mem he
  obtain ⟨ds, -, vk, vl, vs, -, -, -, -, -, hl, -⟩ := m5 j hj
  obtain ⟨_, _, _, _, -, -, hb, -⟩ := hl.ex
  exact hb
end Go.Proofs.YtihapgangilncaaGreat
namespace Go.Proofs.YtihapgangilncaaGreat
open Go.RowKit
set_option linter.unusedSimpArgs false

section
variable {P : Program}
/-- v = append(v, s...) -/
theorem wpL_rowAppS {α : Type} {k : Kind α} {bytes : Nat} {w w2 : World} {X : List Nat} {v sv : Value} {us ts : List α} {e : TypeId} {ops : Array Oper} {rest : List Oper} {o : Oper} {a : Act} {Q : Exit → Act → World → Prop} (hgd : o.guard = none)
    (hrow : Row k e w X v us) (hE : Ext w w2) (hX : Old X w2) (hs2 : IsSl k bytes w2 (vb v ++ X) sv ts) (s x : Operand) (t : TypeId)
    (ho : o.op = .call { callee := .builtin .append, args := #[s, x], argTypes := #[t, t] })
    {z : Value} (ht : P.underlying t = some (.slice e)) (hi : (P.info? e).map (fun i => (i.zero, i.size, i.bytes)) = some (some z, k.size, bytes))
    (hzs : z.cells.size = k.size) (hsz : 0 < k.size) (hs : a.eval s = v) (hx : a.eval x = sv)
    (hbytes : (us.length + ts.length) * bytes ≤ 140737488355328) (h63 : us.length + ts.length ≤ maxLen)
    (h : ∀ v' w', Row k e w' X v' (us ++ ts) → w2.grownBy w' v.ownBlock → (∀ g, v'.ownBlock = some g → v.ownBlock = some g ∨ w2.heap.size ≤ g) → wpList P ops Q rest (a.put o.dst v') w') : wpList P ops Q (o :: rest) a w2 := by
  obtain ⟨rows, h1, h2, h3⟩ := hrow.ex
  obtain ⟨so, c, b, off, rs, rfl, l2, l3, l4, r1, r2⟩ := hs2.rows
  have hml := All2.mem_len (s := k.size) (fun r a h => k.len h) r1
  have hrl : rs.flatten.length = ts.length * k.size := by rw [flat_len hml, r1.length]
  refine wpL_appendG hgd s x t ho e ht hi hzs hsz (h1.ext hE) hs so ts.length c rs.flatten hx hrl (fun hn => ?_) (fun ad had j u hj => ?_) (Row.flat r1) h63 hbytes ?_
  · rcases Nat.eq_zero_or_pos ts.length with h0 | h0
    · exact h0
    · have := (l4 h0).1; rw [hn] at this; cases this
  · have hp : 0 < ts.length := by
      rcases Nat.eq_zero_or_pos ts.length with h0 | h0
      · rw [h0, Nat.zero_mul] at hrl
        rw [List.eq_nil_of_length_eq_zero hrl] at hj
        simp at hj
      · exact h0
    have := (l4 hp).1
    rw [had] at this
    cases this
    rw [addr_add]
    exact r2 j u hj
  · intro v' w' k1 k2 _ k4
    have hd : ∀ g, v'.ownBlock = some g → v.ownBlock = some g ∨ w2.heap.size ≤ g := fun g hg => (k4 g hg).imp id (fun e => Nat.le_of_eq e.symm)
    have hmv : Mv w2 (vb v ++ X) w' (vb v' ++ X) := Mv.app k2 hd
    refine h v' w' ⟨rows ++ rs, by simpa using k1, (h2.imp fun _ _ h => k.mv (k.mv h (hE.mv _)) hmv).glue (r1.imp fun _ _ h => k.mv h hmv), fun g hg hx => ?_⟩ k2 hd
    rcases hd g hg with h | h
    · exact h3 g h hx
    · have := hX g hx; omega
end

end Go.Proofs.YtihapgangilncaaGreat
