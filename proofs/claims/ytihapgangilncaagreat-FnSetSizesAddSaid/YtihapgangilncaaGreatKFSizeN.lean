/- Lists of paths as arguments; what a set made of them lists (plain). append of a whole slice to a row; laws.both. Sets of paths made of lists: what is in them; impl.SetEqual. The leaves of a set as a tree (plain). impl.SetMembers, impl.SetWithPrefix, impl.SetSize, laws.at. laws.at: an element in front of each path of a list. SetNodeMap.Leaves, Set.Leaves. impl.SetSize and impl.SetEmpty as numbers; the sizes of a union and of an intersection (plain). -/
import Derived.Test.YtihapgangilncaaGreatKFSetR
import Derived.Test.YtihapgangilncaaGreatKFRowS
import Derived.Test.YtihapgangilncaaGreatKFSetSize
import Derived.Test.YtihapgangilncaaGreatKFDescend
namespace Go.Proofs.YtihapgangilncaaGreat
open Go.RowKit Go.Deep Go.ChangeShapes Go.WideShapes
set_option linter.unusedSimpArgs false

section
variable {H : Type} {enc : TypeId × Value → H} {w : World} {base : Nat} {spare : Nat → Bool} {held : Bool}
theorem eleven_ofP {cs : List Value} (h : cs.length = 11) : ∃ c0 c1 c2 c3 c4 c5 c6 c7 c8 c9 c10, cs = [c0, c1, c2, c3, c4, c5, c6, c7, c8, c9, c10] := by
  match cs, h with
  | [c0, c1, c2, c3, c4, c5, c6, c7, c8, c9, c10], _ => exact ⟨_, _, _, _, _, _, _, _, _, _, _, rfl⟩
theorem read_elP {fuel : Nat} {cs : List Value} {x : DataW H × List MemPlace} (h : DataW.trod enc Tryz.prog w base spare held fuel 47 cs = some x)
    (hw : (x.1.weights Tryz.prog 47).all (· ≤ reachBytes) = true) : ∃ e, kEl.is w [] cs e := by
  obtain ⟨hlen, n, hn, hf⟩ := read_fields Tryz.underlying47 h hw
  have q : Tryz.prog.cellsOf 47 = 11 := by kernel_rfl
  have q0 : Tryz.prog.cellsOf 3 = 1 := by kernel_rfl
  have q1 : Tryz.prog.cellsOf 9 = 1 := by kernel_rfl
  have q2 : Tryz.prog.cellsOf 41 = 1 := by kernel_rfl
  have q3 : Tryz.prog.cellsOf 42 = 1 := by kernel_rfl
  have q4 : Tryz.prog.cellsOf 45 = 6 := by kernel_rfl
  rw [q] at hlen
  obtain ⟨c0, c1, c2, c3, c4, c5, c6, c7, c8, c9, c10, rfl⟩ := eleven_ofP hlen
  have e0 := hf 0
  have e1 := hf 1
  have e2 := hf 2
  have e3 := hf 3
  have e4 := hf 4
  have e5 := hf 5
  simp only [List.getElem?_toArray, List.getElem?_cons_zero, List.getElem?_cons_succ, Option.some.injEq, forall_eq', q0, q1, q2, q3, q4, List.drop_zero, List.drop_succ_cons, List.take_succ_cons, List.take_zero] at e0 e1 e2 e3 e4 e5
  obtain ⟨y0, t0, w0⟩ := e0
  obtain ⟨y1, t1, w1⟩ := e1
  obtain ⟨y2, t2, w2⟩ := e2
  obtain ⟨y3, t3, w3⟩ := e3
  obtain ⟨y4, t4, w4⟩ := e4
  obtain ⟨y5, t5, w5⟩ := e5
  obtain ⟨k0, h0, -, wf0⟩ := DataW.trod_int Tryz.underlying3 t0
  obtain ⟨s1, h1, hs1⟩ := read_str t1 w1
  obtain ⟨v2, ss, h2, hss⟩ := read_strs t2 w2
  obtain ⟨v3, vs, h3, hvs⟩ := read_vs t3 w3
  obtain ⟨v, hv⟩ := read_v n _ _ t4 w4
  obtain ⟨k5, h5, -, wf5⟩ := DataW.trod_int Tryz.underlying3 t5
  simp only [List.cons.injEq, and_true] at h0 h1 h2 h3 h5
  subst h0 h1 h2 h3 h5
  exact ⟨⟨k0, s1, ss, vs, v, k5⟩, _, _, [c4, c5, c6, c7, c8, c9], rfl, wf0, wf5, hs1, hss, hvs, hv⟩
theorem read_path1 {fuel : Nat} {cs : List Value} {x : DataW H × List MemPlace} (h : DataW.trod enc Tryz.prog w base spare held fuel 22 cs = some x)
    (hw : (x.1.weights Tryz.prog 22).all (· ≤ reachBytes) = true) : ∃ v p, cs = [v] ∧ IsSl kEl 168 w [] v p :=
  read_sl (k := kEl) (bytes := 168) (by simp [kEl]) Tryz.underlying22 (by kernel_rfl) (by kernel_rfl) (fun f _ cs x h hw => read_elP h hw) h hw
theorem read_paths {fuel : Nat} {cs : List Value} {x : DataW H × List MemPlace} (h : DataW.trod enc Tryz.prog w base spare held fuel 24 cs = some x)
    (hw : (x.1.weights Tryz.prog 24).all (· ≤ reachBytes) = true) : ∃ v p, cs = [v] ∧ IsSl kPth 24 w [] v p :=
  read_sl (k := kPth) (bytes := 24) (by simp [kPth]) Tryz.underlying24 (by kernel_rfl) (by kernel_rfl) (fun f _ cs x h hw => by
    obtain ⟨v, p, h1, h2⟩ := read_path1 h hw
    exact ⟨p, v, h1, h2⟩) h hw
end

theorem good_list {w : World} {X : List Nat} {va : Value} {l : List (List EL)} (ha : IsSl kPth 24 w X va l) (ht : ∀ p ∈ l, ∀ e ∈ p, tameEl e) : ∀ p ∈ l, GP GoodE (p.map toE) := by
  obtain ⟨o, c, b, off, -, -, -, -, l5⟩ := ha.ex
  intro p hp x hx
  obtain ⟨e, he, rfl⟩ := List.mem_map.1 hx
  refine ⟨e, ht p hp e he, ?_, rfl⟩
  obtain ⟨i, hi, rfl⟩ := List.getElem_of_mem hp
  obtain ⟨cs, -, v, -, hv⟩ := l5 i hi
  obtain ⟨o2, c2, b2, off2, -, -, -, -, m5⟩ := hv.ex
  obtain ⟨j, hj, rfl⟩ := List.getElem_of_mem he
  obtain ⟨ds, -, vk, vl, vs, -, -, -, -, -, hl, -⟩ := m5 j hj
  obtain ⟨_, _, _, _, -, -, hb, -⟩ := hl.ex
  exact hb
theorem back_toE {L : List (List PEl)} (hL : ∀ p ∈ L, GP GoodE p) : ∀ p ∈ L.map (·.map backE), GP GoodE (p.map toE) := by
  intro p hp x hx
  obtain ⟨q, hq, rfl⟩ := List.mem_map.1 hp
  rw [List.map_map] at hx
  obtain ⟨y, hy, rfl⟩ := List.mem_map.1 hx
  exact goodE_back (hL q hq y hy)
end Go.Proofs.YtihapgangilncaaGreat
namespace Go.Proofs.YtihapgangilncaaGreat
open Go.RowKit
set_option linter.unusedSimpArgs false

section
variable {P : Program}
/-- v = append(v, s...) -/
theorem wpL_rowAppS {α : Type} {k : Kind α} {bytes : Nat} {w w2 : World} {X : List Nat} {v sv : Value} {us ts : List α} {e : TypeId} {ops : Array Oper} {rest : List Oper} {o : Oper} {a : Act} {Q : Exit → Act → World → Prop} (hgd : o.guard = none)
    (hrow : Row k e w X v us) (hE : Ext w w2) (hX : Old X w2) (hs2 : IsSl k bytes w2 (vb v ++ X) sv ts) (s x : Operand) (t : TypeId)
    (ho : o.op = .call { callee := .builtin .append, args := #[s, x], argTypes := #[t, t] })
    {z : Value} (ht : P.underlying t = some (.slice e)) (hi : (P.info? e).map (fun i => (i.zero, i.size, i.bytes)) = some (some z, k.size, bytes))
    (hzs : z.cells.size = k.size) (hsz : 0 < k.size) (hs : a.eval s = v) (hx : a.eval x = sv)
    (hbytes : (us.length + ts.length) * bytes ≤ 140737488355328) (h63 : us.length + ts.length ≤ maxLen)
    (h : ∀ v' w', Row k e w' X v' (us ++ ts) → w2.grownBy w' v.ownBlock → (∀ g, v'.ownBlock = some g → v.ownBlock = some g ∨ w2.heap.size ≤ g) → wpList P ops Q rest (a.put o.dst v') w') : wpList P ops Q (o :: rest) a w2 := by
  obtain ⟨rows, h1, h2, h3⟩ := hrow.ex
  obtain ⟨so, c, b, off, rs, rfl, l2, l3, l4, r1, r2⟩ := hs2.rows
  have hml := All2.mem_len (s := k.size) (fun r a h => k.len h) r1
  have hrl : rs.flatten.length = ts.length * k.size := by rw [flat_len hml, r1.length]
  refine wpL_appendG hgd s x t ho e ht hi hzs hsz (h1.ext hE) hs so ts.length c rs.flatten hx hrl (fun hn => ?_) (fun ad had j u hj => ?_) (Row.flat r1) h63 hbytes ?_
  · rcases Nat.eq_zero_or_pos ts.length with h0 | h0
    · exact h0
    · have := (l4 h0).1; rw [hn] at this; cases this
  · have hp : 0 < ts.length := by
      rcases Nat.eq_zero_or_pos ts.length with h0 | h0
      · rw [h0, Nat.zero_mul] at hrl
        rw [List.eq_nil_of_length_eq_zero hrl] at hj
        simp at hj
      · exact h0
    have := (l4 hp).1
    rw [had] at this
    cases this
    rw [addr_add]
    exact r2 j u hj
  · intro v' w' k1 k2 _ k4
    have hd : ∀ g, v'.ownBlock = some g → v.ownBlock = some g ∨ w2.heap.size ≤ g := fun g hg => (k4 g hg).imp id (fun e => Nat.le_of_eq e.symm)
    have hmv : Mv w2 (vb v ++ X) w' (vb v' ++ X) := Mv.app k2 hd
    refine h v' w' ⟨rows ++ rs, by simpa using k1, (h2.imp fun _ _ h => k.mv (k.mv h (hE.mv _)) hmv).glue (r1.imp fun _ _ h => k.mv h hmv), fun g hg hx => ?_⟩ k2 hd
    rcases hd g hg with h | h
    · exact h3 g h hx
    · have := hX g hx; omega
end

set_option maxRecDepth 100000 in
set_option maxHeartbeats 4000000 in
set_option pp.maxSteps 1000000 in
set_option pp.deepTerms true in
theorem both_c {w : World} {X : List Nat} {va vb' : Value} {a b : List (List EL)} (ha : IsSl kPth 24 w X va a) (hb : IsSl kPth 24 w X vb' b) (hX : Old X w) (hbytes : (a.length + b.length) * 24 ≤ 140737488351232) (R : Ending → World → Prop)
    (hR : ∀ w' v, Ext w w' → IsSl kPth 24 w' X v (a ++ b) → R (.returned v) w') : Calls Tryz.prog 25 #[va, vb'] w R := by
  obtain ⟨ao, ac, -, -, rfl, -⟩ := id ha.ex
  obtain ⟨bo, bc, -, -, rfl, -⟩ := id hb.ex
  have ha' := Lib.hid ha
  have hb' := Lib.hid hb
  have hX' := Lib.hid hX
  have hbytes' := Lib.hid hbytes
  have hR' := Lib.hid hR
  clear ha hb hX hbytes hR
  go_enter Tryz.func25, Tryz.ntmps25
  have hb0 : (0 + a.length) * 24 ≤ 140737488355328 := by have := hbytes'.out; omega
  have hm0 : 0 + a.length ≤ maxLen := by rw [maxLen_eq]; have := hbytes'.out; omega
  have hb1 : (a.length + b.length) * 24 ≤ 140737488355328 := by have := hbytes'.out; omega
  have hm1 : a.length + b.length ≤ maxLen := by rw [maxLen_eq]; have := hbytes'.out; omega
  go_wp2_with (at_builtin; first
    | (refine wpL_rowAppS (k := kPth) (bytes := 24) (w := w.alloc (.cells #[] 22)) (X := X) (v := .slice (some ⟨w.heap.size, 0, none⟩) 0 0) (us := []) (ts := a) rfl (Row.made ((push_get _ _ _).trans (if_pos rfl)) (fun h => by have := hX'.out _ h; omega)) (Ext.refl _) (hX'.out.le (Ext.alloc w _).size) (ha'.out.mv (((Ext.alloc w _).mv X).moreL (fun z hz => by simp [vb, Value.ownBlock] at hz; omega)) (by decide)) _ _ _ rfl Tryz.underlying24 Tryz.info22 rfl (by decide) rfl rfl hb0 hm0 ?_; intro v2 w2 hr2 hg2 hd2; have hr2' := Lib.hid hr2; have hE2 : Ext w w2 := (Ext.alloc w _).grown hg2 (fun k hk => by cases hk; exact Nat.le_refl _); have hd2' : Hid (∀ g ∈ vb v2, w.heap.size ≤ g) := Lib.hid (fun g hg => (hd2 g (by simpa [vb] using hg)).elim (fun h => by simp [Value.ownBlock] at h; omega) (fun h => Nat.le_trans (Ext.alloc w _).size h)); clear hr2 hg2 hd2)
    | (refine wpL_rowAppS (k := kPth) (bytes := 24) (w := w2) (X := X) (ts := b) rfl hr2'.out (Ext.refl _) (hX'.out.le hE2.size) (hb'.out.mv ((hE2.mv X).moreL hd2'.out) (by decide)) _ _ _ rfl Tryz.underlying24 Tryz.info22 rfl (by decide) rfl rfl hb1 hm1 ?_; intro v3 w3 hr3 hg3 hd3; have hr3' := Lib.hid hr3; have hE3 := Lib.hid (hE2.grown hg3 (fun k hk => hd2'.out k (by simp [vb, hk]))); have hv3 := hr3.one; clear hr3 hg3 hd3))
  exact hR'.out w3 v3 hE3.out (hr3'.out.isSl (by rw [List.length_append]; exact hbytes'.out))
end Go.Proofs.YtihapgangilncaaGreat
namespace Go.Proofs.YtihapgangilncaaGreat
open Go.RowKit
set_option linter.unusedSimpArgs false

/-- q is among the paths of l -/
def memP (l : List (List EL)) (q : List PEl) : Prop := ∃ p ∈ l.map (·.map toE), p ≠ [] ∧ wc cmpPe p q = 0
/-- toSet, its set to be read -/
theorem toSetR_c {w : World} {X : List Nat} {lv : Value} {l : List (List EL)} (hl : IsSl kPth 24 w X lv l) (hX : Old X w) (hG : ∀ p ∈ l, GP GoodE (p.map toE)) (hbytes : (l.length + 1) * 40 ≤ 140737488351232) (R : Ending → World → Prop)
    (hR : ∀ w' sv (s : St) d, Ext w w' → (kSt d).is w' X [sv] s → Tr.Wf cmpPe GoodE s → (∀ q, GP GoodE q → (Tr.has cmpPe s q ↔ memP l q)) → R (.returned sv) w') :
    Calls Tryz.prog 58 #[lv] w R := by
  refine toSet_c goodE_ord hl hX hG hbytes R ?_
  intro w1 t hE1 hst hbl hwf hhas
  have htl := tree_len goodE_ord hwf (L := l.map (·.map toE)) (fun x hx => by
    obtain ⟨e, he, rfl⟩ := List.mem_map.1 hx
    exact hG e he) hhas
  rw [List.length_map] at htl
  obtain ⟨d, hd⟩ := store_read hst t (fun n hn => hn) hwf (Nat.le_trans (Nat.mul_le_mul_right 40 (Nat.le_trans htl (Nat.le_succ _))) hbytes)
  exact hR w1 _ _ d hE1 hd (Tr.erase_wf hwf) (fun q hq => Tr.erase_has.trans (hhas q hq))

end Go.Proofs.YtihapgangilncaaGreat
namespace Go.Proofs.YtihapgangilncaaGreat
open Go.RowKit
set_option linter.unusedSimpArgs false

mutual
def Tr.leaves {α : Type} (c : α → α → Int) : Tr Unit α → Tr Unit α
  | .mk _ ms cs => .mk () (ms.filter fun m => !hasBl c (cs.map (·.1)) m) (Tr.leavesL c cs)
def Tr.leavesL {α : Type} (c : α → α → Int) : List (α × Tr Unit α) → List (α × Tr Unit α)
  | [] => []
  | p :: cs => Tr.leavesP c p :: Tr.leavesL c cs
def Tr.leavesP {α : Type} (c : α → α → Int) : α × Tr Unit α → α × Tr Unit α
  | (e, s) => (e, Tr.leaves c s)
end
section
variable {α : Type} {c : α → α → Int} {G : α → Prop}
end
end Go.Proofs.YtihapgangilncaaGreat
namespace Go.Proofs.YtihapgangilncaaGreat
open Go.RowKit
set_option linter.unusedSimpArgs false

/-- written out and read again, paths compare as before -/
theorem wc_back {p : List PEl} (hp : GP GoodE p) (q : List PEl) : wc cmpPe ((p.map backE).map toE) q = wc cmpPe p q := by
  rw [List.map_map]
  have := wc_map (d := cmpPe) (f := toE ∘ backE) (g := id) (q := q) (p := p) (fun x hx y => cmpPe_back (goodE_from (hp x hx)) y)
  simpa using this
theorem has_back {L : List (List PEl)} (hL : ∀ p ∈ L, GP GoodE p) (q : List PEl) : hasC (wc cmpPe) ((L.map (·.map backE)).map (·.map toE)) q ↔ hasC (wc cmpPe) L q := by
  unfold hasC
  constructor
  · rintro ⟨p, hp, h0⟩
    obtain ⟨r, hr, rfl⟩ := List.mem_map.1 hp
    obtain ⟨s, hs, rfl⟩ := List.mem_map.1 hr
    exact ⟨s, hs, by rw [← wc_back (hL s hs)]; exact h0⟩
  · rintro ⟨s, hs, h0⟩
    exact ⟨_, List.mem_map.2 ⟨_, List.mem_map.2 ⟨s, hs, rfl⟩, rfl⟩, by rw [wc_back (hL s hs)]; exact h0⟩
theorem memP_len {l : List (List EL)} {w : World} {X : List Nat} {va : Value} (ha : IsSl kPth 24 w X va l) {q : List PEl} (h : memP l q) : q.length * 168 ≤ 140737488351232 := by
  obtain ⟨p, hp, -, h0⟩ := h
  rw [← wc_len h0]
  obtain ⟨r, hr, rfl⟩ := List.mem_map.1 hp
  obtain ⟨o, c, b, off, -, -, -, -, l5⟩ := ha.ex
  obtain ⟨i, hi, rfl⟩ := List.getElem_of_mem hr
  obtain ⟨cs, -, v, -, hv⟩ := l5 i hi
  obtain ⟨_, _, _, _, -, -, hb, -⟩ := hv.ex
  rw [List.length_map]
  exact hb
/-- a list without equal paths that are all among those of l is no longer than l -/
theorem memP_pigeon {l : List (List EL)} (hl : ∀ p ∈ l, GP GoodE (p.map toE)) {L : List (List PEl)} (hd : Dst (wc cmpPe) L) (hg : ∀ p ∈ L, GP GoodE p) (hm : ∀ p ∈ L, memP l p) : L.length ≤ l.length := by
  have := pigeon (wc_ord goodE_ord) (m := l.map (·.map toE)) hd hg (fun x hx => by obtain ⟨z, hz, rfl⟩ := List.mem_map.1 hx; exact hl z hz) (fun x hx => by
    obtain ⟨r, hr, -, h0⟩ := hm x hx
    exact ⟨r, hr, h0⟩)
  simpa using this

set_option maxRecDepth 100000 in
set_option maxHeartbeats 4000000 in
set_option pp.maxSteps 1000000 in
set_option pp.deepTerms true in
theorem setSizeOf_c {w : World} {X : List Nat} {lv : Value} {l : List (List EL)} (hl : IsSl kPth 24 w X lv l) (hX : Old X w) (hG : ∀ p ∈ l, GP GoodE (p.map toE)) (hbytes : (l.length + 1) * 168 ≤ 140737488351232) (R : Ending → World → Prop)
    (hR : ∀ L : List (List PEl), SrtC (wc cmpPe) L → (∀ p ∈ L, GP GoodE p) → (∀ p ∈ L, p ≠ []) → (∀ q, GP GoodE q → (hasC (wc cmpPe) L q ↔ memP l q)) → Ends R w (.int .i64 L.length)) :
    Calls Tryz.prog 30 #[lv] w R := by
  have hlo := hl.one
  have hl' := Lib.hid hl
  have hX' := Lib.hid hX
  have hG' := Lib.hid hG
  have hb' := Lib.hid hbytes
  have hR' := Lib.hid hR
  clear hl hX hG hbytes hR
  go_enter Tryz.func30, Tryz.ntmps30
  go_wp2_with fail
  refine toSetR_c hl'.out hX'.out hG'.out (by have := hb'.out; omega) _ ?_
  intro w1 sv s d hE1 hs hwf hhas
  have hso := (kSt d).one hs sv (by simp)
  have hgs := Tr.paths_good hwf
  have hpl : s.paths.length ≤ l.length := memP_pigeon hG'.out (Tr.paths_srt goodE_ord hwf).dst hgs fun p hp => (hhas p (hgs p hp)).1 (hasC_self (wc_ord goodE_ord) hp)
  have hR2 := hR'.out s.paths (Tr.paths_srt goodE_ord hwf) hgs (fun p hp => Tr.paths_ne hp) hhas
  obtain ⟨n, hn⟩ : ∃ n, s.paths.length = n := ⟨_, rfl⟩
  rw [hn] at hR2
  have hs' := Lib.hid hs
  have hR2' := Lib.hid hR2
  have hn' := Lib.hid hn
  have hpl' := Lib.hid hpl
  clear hs hwf hhas hgs hpl hR2 hn hR'
  dsimp only
  go_wp2_with fail
  refine setSize_all d hs'.out (by have := hpl'.out; have := hb'.out; omega) _ ?_
  rw [hn'.out]
  intro w2 hE2
  dsimp only
  go_wp2_with fail
  exact hR2'.out w2 (hE1.trans hE2)

end Go.Proofs.YtihapgangilncaaGreat
namespace Go.Proofs.YtihapgangilncaaGreat
open Go.RowKit
set_option linter.unusedSimpArgs false

theorem Row.lit {α : Type} {k : Kind α} {e : TypeId} {w : World} {X : List Nat} {b : Nat} {c : Array Value} {u : α} (hb : w.heap[b]? = some (.cells c e (0, 0))) (hu : k.is w (b :: X) c.toList u) (hX : b ∉ X) : Row k e w X (.slice (some ⟨b, 0, none⟩) 1 1) [u] :=
  have hl : c.size = k.size := by simpa using k.len hu
  ⟨[c.toList], ⟨by simpa using hl, .inr ⟨b, 1, c, rfl, Nat.zero_le _, hb, Nat.le_refl _, by decide, by simpa using hl, by simp [← hl, List.take_of_length_le]⟩⟩, .cons hu .nil, fun g h => by simp [Value.ownBlock] at h; subst h; exact hX⟩

end Go.Proofs.YtihapgangilncaaGreat
namespace Go.Proofs.YtihapgangilncaaGreat
open Go.RowKit
set_option linter.unusedSimpArgs false

theorem kSt_ptr {d : Nat} {w : World} {X : List Nat} {c : Value} {s : St} (h : (kSt d).is w X [c] s) : ∃ b, c = .pointer (some ⟨b, 0, none⟩) := by
  cases d with
  | zero => exact h.elim
  | succ d => obtain ⟨b, vm, vc, hsv, -⟩ := h; cases hsv; exact ⟨_, rfl⟩

end Go.Proofs.YtihapgangilncaaGreat
namespace Go.Proofs.YtihapgangilncaaGreat
open Go.RowKit
set_option linter.unusedSimpArgs false

theorem memP_back {L : List (List PEl)} (hL : ∀ p ∈ L, GP GoodE p) (hne : ∀ p ∈ L, p ≠ []) (q : List PEl) : memP (L.map (·.map backE)) q ↔ hasC (wc cmpPe) L q := by
  rw [← has_back hL q]
  constructor
  · rintro ⟨p, hp, -, h0⟩; exact ⟨p, hp, h0⟩
  · rintro ⟨p, hp, h0⟩
    refine ⟨p, hp, ?_, h0⟩
    rintro rfl
    obtain ⟨r, hr, e⟩ := List.mem_map.1 hp
    obtain ⟨s, hs, rfl⟩ := List.mem_map.1 hr
    exact hne s hs (by simpa using e)

/-- how many paths the set of a list has -/
def nP (l : List (List EL)) : Nat := (setOf (l.map (·.map toE))).length
theorem nP_facts {l : List (List EL)} (hG : ∀ p ∈ l, GP GoodE (p.map toE)) : SrtC (wc cmpPe) (setOf (l.map (·.map toE))) ∧ (∀ p ∈ setOf (l.map (·.map toE)), GP GoodE p) ∧ (∀ q, GP GoodE q → (hasC (wc cmpPe) (setOf (l.map (·.map toE))) q ↔ memP l q)) ∧ nP l ≤ l.length := by
  have hGL : ∀ p ∈ l.map (·.map toE), GP GoodE p := fun p hp => by
    obtain ⟨r, hr, rfl⟩ := List.mem_map.1 hp
    exact hG r hr
  have f := setOf_facts goodE_ord hGL
  refine ⟨f.1, fun p hp => hGL p (f.2.1 p hp), f.2.2.2.1, ?_⟩
  have := f.2.2.1
  rw [List.length_map] at this
  exact this
theorem nP_eq {l : List (List EL)} (hG : ∀ p ∈ l, GP GoodE (p.map toE)) {L : List (List PEl)} (h1 : SrtC (wc cmpPe) L) (h2 : ∀ p ∈ L, GP GoodE p) (h3 : ∀ q, GP GoodE q → (hasC (wc cmpPe) L q ↔ memP l q)) : L.length = nP l := by
  have f := nP_facts hG
  exact dst_len (wc_ord goodE_ord) h1.dst f.1.dst h2 f.2.1 fun q hq => (h3 q hq).trans (f.2.2.1 q hq).symm
theorem nP_zero {l : List (List EL)} (hG : ∀ p ∈ l, GP GoodE (p.map toE)) : nP l = 0 ↔ ∀ q, GP GoodE q → ¬ memP l q := by
  have f := nP_facts hG
  constructor
  · intro h q hq hm
    obtain ⟨p, hp, -⟩ := (f.2.2.1 q hq).2 hm
    rw [List.eq_nil_of_length_eq_zero h] at hp
    simp at hp
  · intro h
    rcases Nat.eq_zero_or_pos (nP l) with h0 | h0
    · exact h0
    · obtain ⟨p, hp⟩ := List.exists_mem_of_length_pos h0
      exact absurd ((f.2.2.1 p (f.2.1 p hp)).1 (hasC_self (wc_ord goodE_ord) hp)) (h p (f.2.1 p hp))
theorem nP_add {a b u i : List (List EL)} (ha : ∀ p ∈ a, GP GoodE (p.map toE)) (hb : ∀ p ∈ b, GP GoodE (p.map toE)) (hu : ∀ p ∈ u, GP GoodE (p.map toE)) (hi : ∀ p ∈ i, GP GoodE (p.map toE))
    (h1 : ∀ q, GP GoodE q → (memP u q ↔ memP a q ∨ memP b q)) (h2 : ∀ q, GP GoodE q → (memP i q ↔ memP a q ∧ memP b q)) : nP u + nP i = nP a + nP b := by
  have fa := nP_facts ha
  have fb := nP_facts hb
  have fu := nP_facts hu
  have fi := nP_facts hi
  exact sizes_add (wc_ord goodE_ord) fa.1.dst fb.1.dst fu.1.dst fi.1.dst fa.2.1 fb.2.1 fu.2.1 fi.2.1 (fun q hq => by rw [fu.2.2.1 q hq, fa.2.2.1 q hq, fb.2.2.1 q hq]; exact h1 q hq) (fun q hq => by rw [fi.2.2.1 q hq, fa.2.2.1 q hq, fb.2.2.1 q hq]; exact h2 q hq)
theorem nP_union0 {a b u : List (List EL)} (ha : ∀ p ∈ a, GP GoodE (p.map toE)) (hb : ∀ p ∈ b, GP GoodE (p.map toE)) (hu : ∀ p ∈ u, GP GoodE (p.map toE)) (h1 : ∀ q, GP GoodE q → (memP u q ↔ memP a q ∨ memP b q)) : nP u = 0 ↔ nP a + nP b = 0 := by
  rw [nP_zero hu, Nat.add_eq_zero_iff, nP_zero ha, nP_zero hb]
  constructor
  · intro h
    exact ⟨fun q hq hm => h q hq ((h1 q hq).2 (.inl hm)), fun q hq hm => h q hq ((h1 q hq).2 (.inr hm))⟩
  · rintro ⟨h2, h3⟩ q hq hm
    exact ((h1 q hq).1 hm).elim (h2 q hq) (h3 q hq)

theorem setSizeN_c {w : World} {X : List Nat} {lv : Value} {l : List (List EL)} (hl : IsSl kPth 24 w X lv l) (hX : Old X w) (hG : ∀ p ∈ l, GP GoodE (p.map toE)) (hbytes : (l.length + 1) * 168 ≤ 140737488351232) (R : Ending → World → Prop) (hR : Ends R w (.int .i64 (nP l))) :
    Calls Tryz.prog 30 #[lv] w R :=
  setSizeOf_c hl hX hG hbytes R fun L h1 h2 _ h4 => by rw [nP_eq hG h1 h2 h4]; exact hR

set_option maxRecDepth 100000 in
set_option maxHeartbeats 4000000 in
set_option pp.maxSteps 1000000 in
set_option pp.deepTerms true in
theorem setEmptyN_c {w : World} {X : List Nat} {lv : Value} {l : List (List EL)} (hl : IsSl kPth 24 w X lv l) (hX : Old X w) (hG : ∀ p ∈ l, GP GoodE (p.map toE)) (hbytes : (l.length + 1) * 168 ≤ 140737488351232) (R : Ending → World → Prop) (hR : Ends R w (.bool (decide (nP l = 0)))) :
    Calls Tryz.prog 31 #[lv] w R := by
  have hlo := hl.one
  have hl' := Lib.hid hl
  have hX' := Lib.hid hX
  have hG' := Lib.hid hG
  have hb' := Lib.hid hbytes
  have hR' := Lib.hid hR
  clear hl hX hG hbytes hR
  go_enter Tryz.func31, Tryz.ntmps31
  go_wp2_with fail
  refine toSetR_c hl'.out hX'.out hG'.out (by have := hb'.out; omega) _ ?_
  intro w1 sv s d hE1 hs hwf hhas
  have hso := (kSt d).one hs sv (by simp)
  have hgs := Tr.paths_good hwf
  have hn := nP_eq hG'.out (Tr.paths_srt goodE_ord hwf) hgs hhas
  have hs' := Lib.hid hs
  have hem : emT s = decide (nP l = 0) := by
    rw [← hn, Bool.eq_iff_iff]
    simp [emT, List.isEmpty_iff, List.length_eq_zero_iff]
  have hem' := Lib.hid hem
  clear hs hwf hhas hgs hn hem
  dsimp only
  go_wp2_with fail
  refine setEmpty_all d hs'.out _ ?_
  rw [hem'.out]
  obtain ⟨r, hr⟩ : ∃ r, decide (nP l = 0) = r := ⟨_, rfl⟩
  rw [hr] at hR' ⊢
  intro w2 hE2
  dsimp only
  go_wp2_with fail
  exact hR'.out w2 (hE1.trans hE2)
end Go.Proofs.YtihapgangilncaaGreat
