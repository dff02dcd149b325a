/- Lists of paths as arguments; what a set made of them lists (plain). append of a whole slice to a row; laws.both. Sets of paths made of lists: what is in them; impl.SetEqual. SetNodeMap.Get, Set.WithPrefix, impl.SetMembers, impl.SetWithPrefix, laws.at. -/
import Derived.Test.YtihapgangilncaaGreatKDSetR
import Derived.Test.YtihapgangilncaaGreatKDSetOps
import Derived.Test.YtihapgangilncaaGreatKDSetEq
namespace Go.Proofs.YtihapgangilncaaGreat
open Go.RowKit Go.Deep Go.ChangeShapes Go.WideShapes
set_option linter.unusedSimpArgs false

section
variable {H : Type} {enc : TypeId × Value → H} {w : World} {base : Nat} {spare : Nat → Bool} {held : Bool}
theorem eleven_ofP {cs : List Value} (h : cs.length = 11) : ∃ c0 c1 c2 c3 c4 c5 c6 c7 c8 c9 c10, cs = [c0, c1, c2, c3, c4, c5, c6, c7, c8, c9, c10] := by
  match cs, h with
  | [c0, c1, c2, c3, c4, c5, c6, c7, c8, c9, c10], _ => exact ⟨_, _, _, _, _, _, _, _, _, _, _, rfl⟩
theorem read_elP {fuel : Nat} {cs : List Value} {x : DataW H × List MemPlace} (h : DataW.trod enc Tryz.prog w base spare held fuel 47 cs = some x)
    (hw : (x.1.weights Tryz.prog 47).all (· ≤ reachBytes) = true) : ∃ e, kEl.is w [] cs e := by
  obtain ⟨hlen, n, hn, hf⟩ := read_fields Tryz.underlying47 h hw
  have q : Tryz.prog.cellsOf 47 = 11 := by kernel_rfl
  have q0 : Tryz.prog.cellsOf 3 = 1 := by kernel_rfl
  have q1 : Tryz.prog.cellsOf 9 = 1 := by kernel_rfl
  have q2 : Tryz.prog.cellsOf 41 = 1 := by kernel_rfl
  have q3 : Tryz.prog.cellsOf 42 = 1 := by kernel_rfl
  have q4 : Tryz.prog.cellsOf 45 = 6 := by kernel_rfl
  rw [q] at hlen
  obtain ⟨c0, c1, c2, c3, c4, c5, c6, c7, c8, c9, c10, rfl⟩ := eleven_ofP hlen
  have e0 := hf 0
  have e1 := hf 1
  have e2 := hf 2
  have e3 := hf 3
  have e4 := hf 4
  have e5 := hf 5
  simp only [List.getElem?_toArray, List.getElem?_cons_zero, List.getElem?_cons_succ, Option.some.injEq, forall_eq', q0, q1, q2, q3, q4, List.drop_zero, List.drop_succ_cons, List.take_succ_cons, List.take_zero] at e0 e1 e2 e3 e4 e5
  obtain ⟨y0, t0, w0⟩ := e0
  obtain ⟨y1, t1, w1⟩ := e1
  obtain ⟨y2, t2, w2⟩ := e2
  obtain ⟨y3, t3, w3⟩ := e3
  obtain ⟨y4, t4, w4⟩ := e4
  obtain ⟨y5, t5, w5⟩ := e5
  obtain ⟨k0, h0, -, wf0⟩ := DataW.trod_int Tryz.underlying3 t0
  obtain ⟨s1, h1, hs1⟩ := read_str t1 w1
  obtain ⟨v2, ss, h2, hss⟩ := read_strs t2 w2
  obtain ⟨v3, vs, h3, hvs⟩ := read_vs t3 w3
  obtain ⟨v, hv⟩ := read_v n _ _ t4 w4
  obtain ⟨k5, h5, -, wf5⟩ := DataW.trod_int Tryz.underlying3 t5
  simp only [List.cons.injEq, and_true] at h0 h1 h2 h3 h5
  subst h0 h1 h2 h3 h5
  exact ⟨⟨k0, s1, ss, vs, v, k5⟩, _, _, [c4, c5, c6, c7, c8, c9], rfl, wf0, wf5, hs1, hss, hvs, hv⟩
theorem read_path1 {fuel : Nat} {cs : List Value} {x : DataW H × List MemPlace} (h : DataW.trod enc Tryz.prog w base spare held fuel 22 cs = some x)
    (hw : (x.1.weights Tryz.prog 22).all (· ≤ reachBytes) = true) : ∃ v p, cs = [v] ∧ IsSl kEl 168 w [] v p :=
  read_sl (k := kEl) (bytes := 168) (by simp [kEl]) Tryz.underlying22 (by kernel_rfl) (by kernel_rfl) (fun f _ cs x h hw => read_elP h hw) h hw
theorem read_paths {fuel : Nat} {cs : List Value} {x : DataW H × List MemPlace} (h : DataW.trod enc Tryz.prog w base spare held fuel 24 cs = some x)
    (hw : (x.1.weights Tryz.prog 24).all (· ≤ reachBytes) = true) : ∃ v p, cs = [v] ∧ IsSl kPth 24 w [] v p :=
  read_sl (k := kPth) (bytes := 24) (by simp [kPth]) Tryz.underlying24 (by kernel_rfl) (by kernel_rfl) (fun f _ cs x h hw => by
    obtain ⟨v, p, h1, h2⟩ := read_path1 h hw
    exact ⟨p, v, h1, h2⟩) h hw
end

theorem good_list {w : World} {X : List Nat} {va : Value} {l : List (List EL)} (ha : IsSl kPth 24 w X va l) (ht : ∀ p ∈ l, ∀ e ∈ p, tameEl e) : ∀ p ∈ l, GP GoodE (p.map toE) := by
  obtain ⟨o, c, b, off, -, -, -, -, l5⟩ := ha.ex
  intro p hp x hx
  obtain ⟨e, he, rfl⟩ := List.mem_map.1 hx
  refine ⟨e, ht p hp e he, ?_, rfl⟩
  obtain ⟨i, hi, rfl⟩ := List.getElem_of_mem hp
  obtain ⟨cs, -, v, -, hv⟩ := l5 i hi
  obtain ⟨o2, c2, b2, off2, -, -, -, -, m5⟩ := hv.ex
  obtain ⟨j, hj, rfl⟩ := List.getElem_of_mem he
  obtain ⟨ds, -, vk, vl, vs, -, -, -, -, -, hl, -⟩ := m5 j hj
  obtain ⟨_, _, _, _, -, -, hb, -⟩ := hl.ex
  exact hb
theorem back_toE {L : List (List PEl)} (hL : ∀ p ∈ L, GP GoodE p) : ∀ p ∈ L.map (·.map backE), GP GoodE (p.map toE) := by
  intro p hp x hx
  obtain ⟨q, hq, rfl⟩ := List.mem_map.1 hp
  rw [List.map_map] at hx
  obtain ⟨y, hy, rfl⟩ := List.mem_map.1 hx
  exact goodE_back (hL q hq y hy)
end Go.Proofs.YtihapgangilncaaGreat
namespace Go.Proofs.YtihapgangilncaaGreat
open Go.RowKit
set_option linter.unusedSimpArgs false

section
variable {P : Program}
/-- v = append(v, s...) -/
theorem wpL_rowAppS {α : Type} {k : Kind α} {bytes : Nat} {w w2 : World} {X : List Nat} {v sv : Value} {us ts : List α} {e : TypeId} {ops : Array Oper} {rest : List Oper} {o : Oper} {a : Act} {Q : Exit → Act → World → Prop} (hgd : o.guard = none)
    (hrow : Row k e w X v us) (hE : Ext w w2) (hX : Old X w2) (hs2 : IsSl k bytes w2 (vb v ++ X) sv ts) (s x : Operand) (t : TypeId)
    (ho : o.op = .call { callee := .builtin .append, args := #[s, x], argTypes := #[t, t] })
    {z : Value} (ht : P.underlying t = some (.slice e)) (hi : (P.info? e).map (fun i => (i.zero, i.size, i.bytes)) = some (some z, k.size, bytes))
    (hzs : z.cells.size = k.size) (hsz : 0 < k.size) (hs : a.eval s = v) (hx : a.eval x = sv)
    (hbytes : (us.length + ts.length) * bytes ≤ 140737488355328) (h63 : us.length + ts.length ≤ maxLen)
    (h : ∀ v' w', Row k e w' X v' (us ++ ts) → w2.grownBy w' v.ownBlock → (∀ g, v'.ownBlock = some g → v.ownBlock = some g ∨ w2.heap.size ≤ g) → wpList P ops Q rest (a.put o.dst v') w') : wpList P ops Q (o :: rest) a w2 := by
  obtain ⟨rows, h1, h2, h3⟩ := hrow.ex
  obtain ⟨so, c, b, off, rs, rfl, l2, l3, l4, r1, r2⟩ := hs2.rows
  have hml := All2.mem_len (s := k.size) (fun r a h => k.len h) r1
  have hrl : rs.flatten.length = ts.length * k.size := by rw [flat_len hml, r1.length]
  refine wpL_appendG hgd s x t ho e ht hi hzs hsz (h1.ext hE) hs so ts.length c rs.flatten hx hrl (fun hn => ?_) (fun ad had j u hj => ?_) (Row.flat r1) h63 hbytes ?_
  · rcases Nat.eq_zero_or_pos ts.length with h0 | h0
    · exact h0
    · have := (l4 h0).1; rw [hn] at this; cases this
  · have hp : 0 < ts.length := by
      rcases Nat.eq_zero_or_pos ts.length with h0 | h0
      · rw [h0, Nat.zero_mul] at hrl
        rw [List.eq_nil_of_length_eq_zero hrl] at hj
        simp at hj
      · exact h0
    have := (l4 hp).1
    rw [had] at this
    cases this
    rw [addr_add]
    exact r2 j u hj
  · intro v' w' k1 k2 _ k4
    have hd : ∀ g, v'.ownBlock = some g → v.ownBlock = some g ∨ w2.heap.size ≤ g := fun g hg => (k4 g hg).imp id (fun e => Nat.le_of_eq e.symm)
    have hmv : Mv w2 (vb v ++ X) w' (vb v' ++ X) := Mv.app k2 hd
    refine h v' w' ⟨rows ++ rs, by simpa using k1, (h2.imp fun _ _ h => k.mv (k.mv h (hE.mv _)) hmv).glue (r1.imp fun _ _ h => k.mv h hmv), fun g hg hx => ?_⟩ k2 hd
    rcases hd g hg with h | h
    · exact h3 g h hx
    · have := hX g hx; omega
end

end Go.Proofs.YtihapgangilncaaGreat
namespace Go.Proofs.YtihapgangilncaaGreat
open Go.RowKit
set_option linter.unusedSimpArgs false

/-- among keys in order there is one for each -/
theorem key_uniq {β α : Type} {c : α → α → Int} {G : α → Prop} (ho : Cmpr c G) : ∀ {l : List (α × Tr β α)}, SrtC c (l.map (·.1)) → (∀ p ∈ l, G p.1) → ∀ p ∈ l, ∀ r ∈ l, c p.1 r.1 = 0 → p = r
  | [], _, _, p, hp, _, _, _ => by simp at hp
  | x :: l, hsr, hg, p, hp, r, hr, h0 => by
    rw [List.map_cons] at hsr
    have h1 := List.pairwise_cons.1 hsr
    rcases List.mem_cons.1 hp with e1 | hp'
    · rcases List.mem_cons.1 hr with e2 | hr'
      · rw [e1, e2]
      · have := h1.1 r.1 (List.mem_map.2 ⟨r, hr', rfl⟩); rw [e1] at h0; omega
    · rcases List.mem_cons.1 hr with e2 | hr'
      · have := h1.1 p.1 (List.mem_map.2 ⟨p, hp', rfl⟩); have := ho.neg p.1 r.1; rw [e2] at h0 this; omega
      · exact key_uniq ho h1.2 (fun z hz => hg z (by simp [hz])) p hp' r hr' h0

/-- q is among the paths of l -/
def memP (l : List (List EL)) (q : List PEl) : Prop := ∃ p ∈ l.map (·.map toE), p ≠ [] ∧ wc cmpPe p q = 0
/-- toSet, its set to be read -/
theorem toSetR_c {w : World} {X : List Nat} {lv : Value} {l : List (List EL)} (hl : IsSl kPth 24 w X lv l) (hX : Old X w) (hG : ∀ p ∈ l, GP GoodE (p.map toE)) (hbytes : (l.length + 1) * 40 ≤ 140737488351232) (R : Ending → World → Prop)
    (hR : ∀ w' sv (s : St) d, Ext w w' → (kSt d).is w' X [sv] s → Tr.Wf cmpPe GoodE s → (∀ q, GP GoodE q → (Tr.has cmpPe s q ↔ memP l q)) → R (.returned sv) w') :
    Calls Tryz.prog 58 #[lv] w R := by
  refine toSet_c goodE_ord hl hX hG hbytes R ?_
  intro w1 t hE1 hst hbl hwf hhas
  have htl := tree_len goodE_ord hwf (L := l.map (·.map toE)) (fun x hx => by
    obtain ⟨e, he, rfl⟩ := List.mem_map.1 hx
    exact hG e he) hhas
  rw [List.length_map] at htl
  obtain ⟨d, hd⟩ := store_read hst t (fun n hn => hn) hwf (Nat.le_trans (Nat.mul_le_mul_right 40 (Nat.le_trans htl (Nat.le_succ _))) hbytes)
  exact hR w1 _ _ d hE1 hd (Tr.erase_wf hwf) (fun q hq => Tr.erase_has.trans (hhas q hq))

theorem implSetEqual_c {w : World} {X : List Nat} {va vb' : Value} {a b : List (List EL)} (ha : IsSl kPth 24 w X va a) (hb : IsSl kPth 24 w X vb' b) (hX : Old X w) (hGa : ∀ p ∈ a, GP GoodE (p.map toE)) (hGb : ∀ p ∈ b, GP GoodE (p.map toE)) (h1 : (a.length + 1) * 40 ≤ 140737488351232) (h2 : (b.length + 1) * 40 ≤ 140737488351232) (R : Ending → World → Prop)
    (hR : ∀ r : Bool, (r = true ↔ ∀ q, GP GoodE q → (memP a q ↔ memP b q)) → Ends R w (.bool r)) : Calls Tryz.prog 26 #[va, vb'] w R := by
  have hao := ha.one
  have hbo := hb.one
  have ha' := Lib.hid ha
  have hb' := Lib.hid hb
  have hX' := Lib.hid hX
  have hGa' := Lib.hid hGa
  have hGb' := Lib.hid hGb
  have h1' := Lib.hid h1
  have h2' := Lib.hid h2
  have hR' := Lib.hid hR
  clear ha hb hX hGa hGb h1 h2 hR
  go_enter Tryz.func26, Tryz.ntmps26
  go_wp2_with fail
  refine toSetR_c ha'.out hX'.out hGa'.out h1'.out _ ?_
  intro w1 sv s d hE1 hs hwf hhas
  have hso := (kSt d).one hs sv (by simp)
  have hs' := Lib.hid hs
  have hwf' := Lib.hid hwf
  have hhas' := Lib.hid hhas
  clear hs hwf hhas
  dsimp only
  go_wp2_with fail
  refine toSetR_c (hb'.out.mv (hE1.mv X) (by decide)) (hX'.out.le hE1.size) hGb'.out h2'.out _ ?_
  intro w2 tv t e hE2 ht hwt hhat
  have hto := (kSt e).one ht tv (by simp)
  have ht' := Lib.hid ht
  have hwt' := Lib.hid hwt
  have hhat' := Lib.hid hhat
  clear ht hwt hhat
  dsimp only
  go_wp2_with fail
  refine setEquals_all d e ((kSt d).mv hs'.out (hE2.mv X)) ht'.out _ ?_
  have hiff := eqBt_law (e := e) (Y := []) (ds := []) hs'.out hwf'.out hwt'.out
  obtain ⟨r, hr⟩ : ∃ r, eqBt d s t = r := ⟨_, rfl⟩
  rw [hr] at hiff ⊢
  have hiff' := Lib.hid (show r = true ↔ ∀ q, GP GoodE q → (memP a q ↔ memP b q) from hiff.trans ⟨fun h q hq => (hhas'.out q hq).symm.trans ((h q hq).trans (hhat'.out q hq)), fun h q hq => (hhas'.out q hq).trans ((h q hq).trans (hhat'.out q hq).symm)⟩)
  clear hiff hr
  intro w3 hE3
  dsimp only
  go_wp2_with fail
  exact hR'.out r hiff'.out w3 ((hE1.trans hE2).trans hE3)

end Go.Proofs.YtihapgangilncaaGreat
namespace Go.Proofs.YtihapgangilncaaGreat
open Go.RowKit
set_option linter.unusedSimpArgs false

set_option maxRecDepth 100000 in
theorem callFunc_get1 (args : Array Value) (w : World) : (callFunc 157 args).run Tryz.prog w = .ok (.enter 157 args) w := rfl

set_option maxRecDepth 100000 in
set_option maxHeartbeats 1000000 in
theorem getCmp : NodeCmp 157 := by
  refine ⟨?_, callFunc_get1⟩
  intro w cs ds p a b ha hb hp R hR
  obtain ⟨a0, a1, a2, a3, rfl, o0, o1, o2, o3⟩ := kPe_4 ha
  obtain ⟨b0, b1, b2, b3, rfl, u0, u1, u2, u3⟩ := kPe_4 hb
  have ha' := Lib.hid ha
  have hb' := Lib.hid hb
  have hR' := Lib.hid hR
  clear ha hb hR
  simp only [List.cons_append, List.nil_append]
  go_enter Tryz.func157, Tryz.ntmps157
  go_wp2_with fail
  refine abs2 (G := fun wr => Calls _ _ _ wr _) ?_
  intro w1 hE1 hb1 hb2 hs1
  refine peCompare_c (cs := [a0, a1, a2, a3]) (ds := [b0, b1, b2, b3]) (kPe.mv ha'.out (hE1.mv [])) (kPe.mv hb'.out (hE1.mv [])) _ ?_
  intro w2 hE2
  dsimp only
  go_wp2_with fail
  exact hR'.out _ (hE1.trans hE2)

theorem kNd_key {d : Nat} {w : World} {X : List Nat} {cs : List Value} {n : PEl × St} (h : (kNd (kSt d)).is w X cs n) : ∃ pc p, cs = pc ++ [p] ∧ kPe.is w X pc n.1 := by
  obtain ⟨c0, c1, c2, c3, c4, rfl, hp, -⟩ := node5 h
  exact ⟨[c0, c1, c2, c3], c4, rfl, hp⟩

set_option maxRecDepth 100000 in
set_option maxHeartbeats 4000000 in
set_option pp.maxSteps 1000000 in
set_option pp.deepTerms true in
theorem get_c {G : PEl → Prop} (ho : Cmpr cmpPe G) {d : Nat} {w : World} {X Y : List Nat} {b1 o1 : Nat} {cv : Value} {cs : List (PEl × St)} {ds : List Value} {e : PEl} (h1 : w.cell? ⟨b1, o1, none⟩ = some cv) (hs : IsSl (kNd (kSt d)) 40 w X cv cs) (he : kPe.is w Y ds e) (hsr : SrtC cmpPe (cs.map (·.1))) (hG : ∀ x ∈ cs.map (·.1), G x) (hGe : G e)
    (R : Ending → World → Prop) (hR1 : ∀ w' c4 i (h : i < cs.length), Ext w w' → cmpPe (cs[i]'h).1 e = 0 → (kSt d).is w X [c4] (cs[i]'h).2 → R (.returned (.tuple #[c4, .bool true])) w') (hR2 : ∀ w', Ext w w' → (∀ p ∈ cs, cmpPe p.1 e ≠ 0) → R (.returned (.tuple #[.pointer none, .bool false])) w') :
    Calls Tryz.prog 131 #[.pointer (some ⟨b1, o1, none⟩), .agg ds.toArray] w R := by
  obtain ⟨a0, a1, a2, a3, rfl, u0, u1, u2, u3⟩ := kPe_4 he
  have hkr := KeyRow.ofSl (f := fun p : PEl × St => p.1) (kNd_size d) kNd_key hs
  have hvo := hs.one
  have hkr' := Lib.hid hkr
  have hs' := Lib.hid hs
  have he' := Lib.hid he
  have hm' := Lib.hid (mono_srt ho hsr hG hGe)
  have hgt' := Lib.hid (fun i => at_gt ho hsr hG hGe (i := i))
  have hR1' := Lib.hid hR1
  have hR2' := Lib.hid hR2
  have ho' : Hid (Cmpr cmpPe G) := Lib.hid ho
  clear hkr hs he hR1 hR2 hsr hG hGe ho
  go_enter Tryz.func131, Tryz.ntmps131
  go_wp2_with fail
  refine abs1 (G := fun wr => Code.wp _ _ _ _ wr) ?_
  intro w1 hE1 hb1 hs1
  have e0 : w1.cell? ⟨w.heap.size, 0, none⟩ = some (a0) := cells_of hb1 0; have e1 : w1.cell? ⟨w.heap.size, 1, none⟩ = some (a1) := cells_of hb1 1; have e2 : w1.cell? ⟨w.heap.size, 2, none⟩ = some (a2) := cells_of hb1 2; have e3 : w1.cell? ⟨w.heap.size, 3, none⟩ = some (a3) := cells_of hb1 3
  replace h1 := hE1.keep h1
  clear hb1 hs1
  refine wp_region_script [0, 1, 2, 3, 4, 6, 7, 8, 9, 10] [] (fun w' => Ext w1 w') [(.pure, 0), (.pure, 1), (.pure, 2), (.read, 3), (.read, 4), (.one, 5), (.pure, 6), (.pure, 7), (.pure, 8), (.pure, 9), (.pure, 10)] (by kernel_rfl) (by kernel_rfl) ?_
  have hC : Ext w1 w1.drew := (Ext.refl _).drew
  iterate 3 (apply scr_pure'; (· rfl); (· rfl); (· (intro w'; go_simp; try rfl)); (· (simp [go_sem]; try rfl)))
  (apply scr_read'; (· rfl); (· rfl); (· first | exact hC | exact (Ext.refl _).drew); (· (intro w' hw'; have h1_ := hw'.keep h1; go_simp; try rfl)); (· (simp [go_sem]; try rfl)))
  (apply scr_read'; (· rfl); (· rfl); (· first | exact hC | exact (Ext.refl _).drew); (· (intro w' hw'; have e0_ := hw'.keep e0; have e1_ := hw'.keep e1; have e2_ := hw'.keep e2; have e3_ := hw'.keep e3; go_simp; try rfl)); (· (simp [go_sem]; try rfl)))
  refine scr_one rfl rfl (fun K hK => ?_)
  go_simp
  refine bsearchN_c getCmp (cs := [a0, a1, a2, a3]) (t := e) (hkr'.out.ext (hE1.trans hC)) (kPe.mv (kPe.mv he'.out ((Mv.refl w _).less (Z := []) (by simp))) ((hE1.trans hC).mv [])) hm'.out _ ?_
  intro w2 i hE2 hat
  have hE12 := hC.trans hE2
  refine hK _ _ (fun h => by simp at h) ?_
  clear hK
  obtain ⟨fb, hfb⟩ : ∃ q, HasAt (cs.map (·.1)) e i = q := ⟨_, rfl⟩
  rw [hfb]
  have hfb' := Lib.hid hfb
  have hat' := Lib.hid hat
  clear hfb hat
  iterate 5 (apply scr_pure'; (· rfl); (· rfl); (· (intro w'; go_simp; try rfl)); (· (simp [go_sem]; try rfl)))
  refine scr_end ?_
  simp only [Exit.then]
  replace h1 := hE12.keep h1
  replace hE1 := hE1.trans hE12
  have hE1' := Lib.hid hE1
  clear hE2 hE12 hC e0 e1 e2 e3
  cases fb
  · go_wp2_with fail
    refine hR2'.out w2 hE1'.out fun p hp h0 => ?_
    obtain ⟨j, hj, rfl⟩ := List.getElem_of_mem hp
    have hjm : j < (cs.map (·.1)).length := by simpa using hj
    by_cases hji : j < i
    · have := hat'.out.2.1 j hjm hji
      rw [List.getElem_map] at this
      omega
    · have := hgt'.out i hat'.out hfb'.out j hjm (by omega)
      rw [List.getElem_map] at this
      have := ho'.out.neg (cs[j]'hj).1 e
      omega
  · have hin : i < cs.length := by
      have h := hfb'.out
      unfold HasAt at h
      rcases Nat.lt_or_ge i (cs.map (·.1)).length with h1 | h1
      · simpa using h1
      · rw [List.getElem?_eq_none h1] at h; cases h
    have h0 : cmpPe (cs[i]'hin).1 e = 0 := by
      have h := hfb'.out
      unfold HasAt at h
      rw [List.getElem?_map, List.getElem?_eq_getElem hin] at h
      simpa using h
    obtain ⟨o, cc, b, off, hv, -, -, l4, l5⟩ := hs'.out.ex
    obtain ⟨rfl, -⟩ := l4 (by omega)
    obtain ⟨dd, hdc, hds⟩ := l5 i hin
    rw [kNd_size] at hdc
    obtain ⟨c0, c1, c2, c3, c4, rfl, -, hst, -, -, -, -, v4⟩ := node5 hds
    have q4 := hE1.keep (hdc 4 (by decide))
    have hi1 : (i : Int) < (cs.length : Int) := by omega
    have hst' := Lib.hid hst
    have h0' := Lib.hid h0
    clear l4 l5 hdc hds hE1 hst h0
    subst hv
    go_wp2_with fail
    exact hR1'.out w2 c4 i hin hE1'.out h0'.out hst'.out

/-- Set.WithPrefix: what goes on behind e -/
theorem withPrefix_c {d : Nat} {w : World} {X Y : List Nat} {sv : Value} {s : St} {ds : List Value} {e : PEl} (hs : (kSt d).is w X [sv] s) (hwf : Tr.Wf cmpPe GoodE s) (hX : Old X w) (he : kPe.is w Y ds e) (hGe : GoodE e)
    (R : Ending → World → Prop) (hR : ∀ w' v' (t : St) d', Ext w w' → (kSt d').is w' X [v'] t → Tr.Wf cmpPe GoodE t → (∀ q, GP GoodE q → q ≠ [] → (Tr.has cmpPe t q ↔ Tr.has cmpPe s (e :: q))) → R (.returned v') w') :
    Calls Tryz.prog 76 #[sv, .agg ds.toArray] w R := by
  cases d with
  | zero => exact hs.elim
  | succ d =>
  obtain ⟨a0, a1, a2, a3, rfl, u0, u1, u2, u3⟩ := kPe_4 he
  obtain ⟨b, vm, vc, hsv, hbX, c0, c1, hms, hcs⟩ := hs
  cases hsv
  obtain ⟨s1, s2, s3, s4, s5, s6⟩ := Tr.wf_parts hwf
  have hcs' := Lib.hid hcs
  have he' := Lib.hid he
  have hX' := Lib.hid hX
  have hR' := Lib.hid hR
  have hGe' := Lib.hid hGe
  have hs3 := Lib.hid s3
  have hs4 := Lib.hid (show ∀ x ∈ (Tr.cs s).map (·.1), GoodE x from fun x hx => by obtain ⟨p, hp, rfl⟩ := List.mem_map.1 hx; exact s4 p hp)
  have hs6 := Lib.hid s6
  have hs4' := Lib.hid s4
  have hs3' := Lib.hid (key_uniq goodE_ord s3 s4)
  clear hms hcs he hX hR hGe s1 s2 s3 s4 s5 s6 hwf hbX
  go_enter Tryz.func76, Tryz.ntmps76
  go_wp2_with fail
  refine abs1 (G := fun wr => Code.wp _ _ _ _ wr) ?_
  intro w1 hE1 hb1 hs1
  have e0 : w1.cell? ⟨w.heap.size, 0, none⟩ = some (a0) := cells_of hb1 0; have e1 : w1.cell? ⟨w.heap.size, 1, none⟩ = some (a1) := cells_of hb1 1; have e2 : w1.cell? ⟨w.heap.size, 2, none⟩ = some (a2) := cells_of hb1 2; have e3 : w1.cell? ⟨w.heap.size, 3, none⟩ = some (a3) := cells_of hb1 3
  clear hb1 hs1
  refine wp_region_script [0, 1, 2, 3, 5, 6, 7, 8, 9] [] (fun w' => Ext w1 w') [(.pure, 0), (.pure, 1), (.pure, 2), (.read, 3), (.one, 4), (.pure, 5), (.pure, 6), (.pure, 7), (.pure, 8), (.pure, 9)] (by kernel_rfl) (by kernel_rfl) ?_
  have hC : Ext w1 w1.drew := (Ext.refl _).drew
  iterate 3 (apply scr_pure'; (· rfl); (· rfl); (· (intro w'; go_simp; try rfl)); (· (simp [go_sem]; try rfl)))
  (apply scr_read'; (· rfl); (· rfl); (· first | exact hC | exact (Ext.refl _).drew); (· (intro w' hw'; have e0_ := hw'.keep e0; have e1_ := hw'.keep e1; have e2_ := hw'.keep e2; have e3_ := hw'.keep e3; go_simp; try rfl)); (· (simp [go_sem]; try rfl)))
  refine scr_one rfl rfl (fun K hK => ?_)
  go_simp
  have hEd := Lib.hid (hE1.trans hC)
  refine get_c goodE_ord (ds := [a0, a1, a2, a3]) (hEd.out.keep c1) (hcs'.out.mv (hEd.out.mv X) (by rw [kNd_size]; decide)) (kPe.mv he'.out (hEd.out.mv Y)) hs3.out hs4.out hGe'.out _ ?_ ?_
  · intro w2 c4 i hi hE2 h0 hst
    have hE2' := Lib.hid (hEd.out.trans hE2)
    have hst' := Lib.hid ((kSt d).mv hst (hE2.mv X))
    have hc4 := (kSt d).one hst c4 (by simp)
    have h0' := Lib.hid h0
    refine hK _ _ (fun h => by simp at h) ?_
    clear hK hC hE2 hst h0 e0 e1 e2 e3
    iterate 5 (apply scr_pure'; (· rfl); (· rfl); (· (intro w'; go_simp; try rfl)); (· (simp [go_sem]; try rfl)))
    refine scr_end ?_
    simp only [Exit.then]
    go_wp2_with fail
    refine hR'.out w2 c4 _ d hE2'.out hst'.out (hs6.out _ (List.getElem_mem hi)) fun q hq hne => ?_
    rw [Tr.has_cons hne]
    constructor
    · intro h
      exact ⟨_, List.getElem_mem hi, h0'.out, h⟩
    · rintro ⟨p, hp, h2, h3⟩
      have := hs3'.out p hp _ (List.getElem_mem hi) (by
        have h4 := goodE_ord.congr' (hs4'.out _ (List.getElem_mem hi)) hGe'.out (hs4'.out p hp) h0'.out
        rw [h4]; exact h2)
      rw [← this]; exact h3
  · intro w2 hE2 hno
    have hE2' := Lib.hid (hEd.out.trans hE2)
    have hno' := Lib.hid hno
    refine hK _ _ (fun h => by simp at h) ?_
    clear hK hC hE2 hno e0 e1 e2 e3
    iterate 5 (apply scr_pure'; (· rfl); (· rfl); (· (intro w'; go_simp; try rfl)); (· (simp [go_sem]; try rfl)))
    refine scr_end ?_
    simp only [Exit.then]
    go_wp2_with fail
    refine newSet_c _ ?_
    intro w3 hE3 hb3
    have hb3' := Lib.hid hb3
    have hE3' := Lib.hid (hE2'.out.trans hE3)
    have hnX : w2.heap.size ∉ X := fun h => by have := hX'.out _ h; have := hE2'.out.size; omega
    clear hb3 hE3
    dsimp only
    go_wp2_with fail
    refine hR'.out w3 _ (.mk () [] []) 1 hE3'.out ⟨_, _, _, rfl, hnX, cells_of hb3'.out 0, cells_of hb3'.out 1, IsSl.nil _ _ _ _, IsSl.nil _ _ _ _⟩ (.mk (by simp [SrtC]) (by simp) (by simp [SrtC]) (by simp) (by simp) (by simp)) fun q hq hne => ?_
    rw [Tr.has_cons hne]
    constructor
    · rintro ⟨z, hz, -⟩
      rw [Tr.paths_nil] at hz
      simp at hz
    · rintro ⟨p, hp, h2, -⟩
      exact absurd h2 (hno'.out p hp)
end Go.Proofs.YtihapgangilncaaGreat
