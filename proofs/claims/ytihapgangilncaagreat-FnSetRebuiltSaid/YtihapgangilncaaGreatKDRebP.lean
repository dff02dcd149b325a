/- impl.SetMembers, impl.SetWithPrefix, impl.SetSize, laws.at. laws.at: an element in front of each path of a list. A set put together again out of its members and of what goes on behind each first element (plain). -/
import Derived.Test.YtihapgangilncaaGreatKDGetW
import Derived.Test.YtihapgangilncaaGreatKDSetOps
import Derived.Test.YtihapgangilncaaGreatKDPeGood
namespace Go.Proofs.YtihapgangilncaaGreat
open Go.RowKit
set_option linter.unusedSimpArgs false

/-- written out and read again, paths compare as before -/
theorem wc_back {p : List PEl} (hp : GP GoodE p) (q : List PEl) : wc cmpPe ((p.map backE).map toE) q = wc cmpPe p q := by
  rw [List.map_map]
  have := wc_map (d := cmpPe) (f := toE ∘ backE) (g := id) (q := q) (p := p) (fun x hx y => cmpPe_back (goodE_from (hp x hx)) y)
  simpa using this
theorem dst_back {L : List (List PEl)} (hL : ∀ p ∈ L, GP GoodE p) (hd : Dst (wc cmpPe) L) : Dst (wc cmpPe) ((L.map (·.map backE)).map (·.map toE)) := by
  rw [List.map_map]
  refine List.pairwise_map.2 (hd.imp_of_mem fun {x y} hx hy h => ?_)
  have ho := wc_ord goodE_ord
  simp only [Function.comp]
  rw [wc_back (hL x hx)]
  intro e
  have h1 := ho.neg x ((y.map backE).map toE)
  rw [wc_back (hL y hy), e] at h1
  have := ho.neg x y
  omega
theorem has_back {L : List (List PEl)} (hL : ∀ p ∈ L, GP GoodE p) (q : List PEl) : hasC (wc cmpPe) ((L.map (·.map backE)).map (·.map toE)) q ↔ hasC (wc cmpPe) L q := by
  unfold hasC
  constructor
  · rintro ⟨p, hp, h0⟩
    obtain ⟨r, hr, rfl⟩ := List.mem_map.1 hp
    obtain ⟨s, hs, rfl⟩ := List.mem_map.1 hr
    exact ⟨s, hs, by rw [← wc_back (hL s hs)]; exact h0⟩
  · rintro ⟨s, hs, h0⟩
    exact ⟨_, List.mem_map.2 ⟨_, List.mem_map.2 ⟨s, hs, rfl⟩, rfl⟩, by rw [wc_back (hL s hs)]; exact h0⟩
theorem memP_len {l : List (List EL)} {w : World} {X : List Nat} {va : Value} (ha : IsSl kPth 24 w X va l) {q : List PEl} (h : memP l q) : q.length * 168 ≤ 140737488351232 := by
  obtain ⟨p, hp, -, h0⟩ := h
  rw [← wc_len h0]
  obtain ⟨r, hr, rfl⟩ := List.mem_map.1 hp
  obtain ⟨o, c, b, off, -, -, -, -, l5⟩ := ha.ex
  obtain ⟨i, hi, rfl⟩ := List.getElem_of_mem hr
  obtain ⟨cs, -, v, -, hv⟩ := l5 i hi
  obtain ⟨_, _, _, _, -, -, hb, -⟩ := hv.ex
  rw [List.length_map]
  exact hb
theorem memP_congr {l : List (List EL)} (hl : ∀ p ∈ l, GP GoodE (p.map toE)) {p q : List PEl} (hp : GP GoodE p) (hq : GP GoodE q) (h : wc cmpPe p q = 0) : memP l p ↔ memP l q := by
  have ho := wc_ord goodE_ord
  have hg : ∀ r ∈ l.map (·.map toE), GP GoodE r := fun r hr => by obtain ⟨z, hz, rfl⟩ := List.mem_map.1 hr; exact hl z hz
  unfold memP
  constructor
  · rintro ⟨r, hr, hne, h0⟩; exact ⟨r, hr, hne, by rw [← ho.congr' hp hq (hg r hr) h]; exact h0⟩
  · rintro ⟨r, hr, hne, h0⟩; exact ⟨r, hr, hne, by rw [ho.congr' hp hq (hg r hr) h]; exact h0⟩
/-- a list without equal paths that are all among those of l is no longer than l -/
theorem memP_pigeon {l : List (List EL)} (hl : ∀ p ∈ l, GP GoodE (p.map toE)) {L : List (List PEl)} (hd : Dst (wc cmpPe) L) (hg : ∀ p ∈ L, GP GoodE p) (hm : ∀ p ∈ L, memP l p) : L.length ≤ l.length := by
  have := pigeon (wc_ord goodE_ord) (m := l.map (·.map toE)) hd hg (fun x hx => by obtain ⟨z, hz, rfl⟩ := List.mem_map.1 hx; exact hl z hz) (fun x hx => by
    obtain ⟨r, hr, -, h0⟩ := hm x hx
    exact ⟨r, hr, h0⟩)
  simpa using this

set_option maxRecDepth 100000 in
set_option maxHeartbeats 4000000 in
set_option pp.maxSteps 1000000 in
set_option pp.deepTerms true in
theorem setMembers_c {w : World} {X : List Nat} {lv : Value} {l : List (List EL)} (hl : IsSl kPth 24 w X lv l) (hX : Old X w) (hG : ∀ p ∈ l, GP GoodE (p.map toE)) (hbytes : (l.length + 1) * 168 ≤ 140737488351232) (R : Ending → World → Prop)
    (hR : ∀ w' v' (ms : List PEl), Ext w w' → IsSl kEl 168 w' X v' (ms.map backE) → SrtC cmpPe ms → (∀ x ∈ ms, GoodE x) → (∀ x, GoodE x → (hasC cmpPe ms x ↔ memP l [x])) → R (.returned v') w') :
    Calls Tryz.prog 34 #[lv] w R := by
  have hlo := hl.one
  have hl' := Lib.hid hl
  have hX' := Lib.hid hX
  have hG' := Lib.hid hG
  have hb' := Lib.hid hbytes
  have hR' := Lib.hid hR
  clear hl hX hG hbytes hR
  go_enter Tryz.func34, Tryz.ntmps34
  go_wp2_with fail
  refine toSetR_c hl'.out hX'.out hG'.out (by have := hb'.out; omega) _ ?_
  intro w1 sv s d hE1 hs hwf hhas
  cases d with
  | zero => exact hs.elim
  | succ d =>
  obtain ⟨b, vm, vc, hsv, hbX, c0, c1, hms, hcs⟩ := hs
  cases hsv
  obtain ⟨s1, s2, s3, s4, s5, s6⟩ := Tr.wf_parts hwf
  have hmem : ∀ x, GoodE x → (hasC cmpPe (Tr.ms s) x ↔ memP l [x]) := fun x hx => Tr.has_one.symm.trans (hhas [x] (by intro y hy; simp at hy; subst hy; exact hx))
  have hdl : (Tr.ms s).length ≤ l.length := by
    have := memP_pigeon hG'.out (L := (Tr.ms s).map fun x => [x]) (List.pairwise_map.2 (s1.imp fun h => by rw [wc_one]; omega)) (fun p hp => by
      obtain ⟨x, hx, rfl⟩ := List.mem_map.1 hp
      intro y hy; simp at hy; subst hy; exact s2 y hx) (fun p hp => by
      obtain ⟨x, hx, rfl⟩ := List.mem_map.1 hp
      exact (hmem x (s2 x hx)).1 (hasC_self goodE_ord hx))
    simpa using this
  have hX1 := Lib.hid (hX'.out.le hE1.size)
  have hms' := Lib.hid hms
  have hmem' := Lib.hid hmem
  have hdl' := Lib.hid hdl
  have s1' := Lib.hid s1
  have s2' := Lib.hid s2
  have hE1' := Lib.hid hE1
  clear hms hcs hbX s1 s2 s3 s4 s5 s6 hwf hhas hmem hdl hE1 c1
  dsimp only
  go_wp2_with fail
  refine fromElemSet_c c0 hms'.out hX1.out (fun e he => goodE_small (s2'.out e he)) (Nat.le_trans (Nat.mul_le_mul_right 168 (Nat.le_trans hdl'.out (Nat.le_succ _))) hb'.out) _ ?_
  intro w2 v2 hE2 hv2
  have hvo := hv2.one
  have hv2' := Lib.hid hv2
  clear hv2
  dsimp only
  go_wp2_with fail
  exact hR'.out w2 v2 _ (hE1'.out.trans hE2) hv2'.out s1'.out s2'.out hmem'.out

set_option maxRecDepth 100000 in
set_option maxHeartbeats 4000000 in
set_option pp.maxSteps 1000000 in
set_option pp.deepTerms true in
theorem setSizeOf_c {w : World} {X : List Nat} {lv : Value} {l : List (List EL)} (hl : IsSl kPth 24 w X lv l) (hX : Old X w) (hG : ∀ p ∈ l, GP GoodE (p.map toE)) (hbytes : (l.length + 1) * 168 ≤ 140737488351232) (R : Ending → World → Prop)
    (hR : ∀ L : List (List PEl), SrtC (wc cmpPe) L → (∀ p ∈ L, GP GoodE p) → (∀ p ∈ L, p ≠ []) → (∀ q, GP GoodE q → (hasC (wc cmpPe) L q ↔ memP l q)) → Ends R w (.int .i64 L.length)) :
    Calls Tryz.prog 30 #[lv] w R := by
  have hlo := hl.one
  have hl' := Lib.hid hl
  have hX' := Lib.hid hX
  have hG' := Lib.hid hG
  have hb' := Lib.hid hbytes
  have hR' := Lib.hid hR
  clear hl hX hG hbytes hR
  go_enter Tryz.func30, Tryz.ntmps30
  go_wp2_with fail
  refine toSetR_c hl'.out hX'.out hG'.out (by have := hb'.out; omega) _ ?_
  intro w1 sv s d hE1 hs hwf hhas
  have hso := (kSt d).one hs sv (by simp)
  have hgs := Tr.paths_good hwf
  have hpl : s.paths.length ≤ l.length := memP_pigeon hG'.out (Tr.paths_srt goodE_ord hwf).dst hgs fun p hp => (hhas p (hgs p hp)).1 (hasC_self (wc_ord goodE_ord) hp)
  have hR2 := hR'.out s.paths (Tr.paths_srt goodE_ord hwf) hgs (fun p hp => Tr.paths_ne hp) hhas
  obtain ⟨n, hn⟩ : ∃ n, s.paths.length = n := ⟨_, rfl⟩
  rw [hn] at hR2
  have hs' := Lib.hid hs
  have hR2' := Lib.hid hR2
  have hn' := Lib.hid hn
  have hpl' := Lib.hid hpl
  clear hs hwf hhas hgs hpl hR2 hn hR'
  dsimp only
  go_wp2_with fail
  refine setSize_all d hs'.out (by have := hpl'.out; have := hb'.out; omega) _ ?_
  rw [hn'.out]
  intro w2 hE2
  dsimp only
  go_wp2_with fail
  exact hR2'.out w2 (hE1.trans hE2)

set_option maxRecDepth 100000 in
set_option maxHeartbeats 4000000 in
set_option pp.maxSteps 1000000 in
set_option pp.deepTerms true in
theorem setWithPrefix_c {w : World} {X : List Nat} {lv : Value} {l : List (List EL)} {es : List Value} {e : EL} (hl : IsSl kPth 24 w X lv l) (hX : Old X w) (hG : ∀ p ∈ l, GP GoodE (p.map toE)) (hbytes : (l.length + 1) * 168 ≤ 140737488351232) (he : kEl.is w X es e) (hGe : GoodE (toE e)) (R : Ending → World → Prop)
    (hR : ∀ w' v' (L : List (List PEl)), Ext w w' → IsSl kPth 24 w' X v' (L.map (·.map backE)) → SrtC (wc cmpPe) L → (∀ p ∈ L, GP GoodE p) → (∀ p ∈ L, p ≠ []) → (∀ q, GP GoodE q → q ≠ [] → (hasC (wc cmpPe) L q ↔ memP l (toE e :: q))) → R (.returned v') w') :
    Calls Tryz.prog 36 #[lv, .agg es.toArray] w R := by
  obtain ⟨d0, d1, d2, d3, d4, d5, d6, d7, d8, d9, d10, rfl⟩ := kEl_eleven he
  have hlo := hl.one
  have heo := kEl.one he
  have hl' := Lib.hid hl
  have he' := Lib.hid he
  have heo' := Lib.hid heo
  have hGe' := Lib.hid hGe
  have hX' := Lib.hid hX
  have hG' := Lib.hid hG
  have hb' := Lib.hid hbytes
  have hR' := Lib.hid hR
  clear hl he heo hGe hX hG hbytes hR
  go_enter Tryz.func36, Tryz.ntmps36
  go_wp2_with fail
  refine abs1 (G := fun wr => Code.wp _ _ _ _ wr) ?_
  intro w1 hE1 hb1 hs1
  have e0 : w1.cell? ⟨w.heap.size, 0, none⟩ = some (d0) := cells_of hb1 0; have e1 : w1.cell? ⟨w.heap.size, 1, none⟩ = some (d1) := cells_of hb1 1; have e2 : w1.cell? ⟨w.heap.size, 2, none⟩ = some (d2) := cells_of hb1 2; have e3 : w1.cell? ⟨w.heap.size, 3, none⟩ = some (d3) := cells_of hb1 3; have e4 : w1.cell? ⟨w.heap.size, 4, none⟩ = some (d4) := cells_of hb1 4; have e5 : w1.cell? ⟨w.heap.size, 5, none⟩ = some (d5) := cells_of hb1 5; have e6 : w1.cell? ⟨w.heap.size, 6, none⟩ = some (d6) := cells_of hb1 6; have e7 : w1.cell? ⟨w.heap.size, 7, none⟩ = some (d7) := cells_of hb1 7; have e8 : w1.cell? ⟨w.heap.size, 8, none⟩ = some (d8) := cells_of hb1 8; have e9 : w1.cell? ⟨w.heap.size, 9, none⟩ = some (d9) := cells_of hb1 9; have e10 : w1.cell? ⟨w.heap.size, 10, none⟩ = some (d10) := cells_of hb1 10
  clear hb1 hs1
  refine wp_region_script [0, 2, 6] [1] (fun w' => Ext w1 w') [(.pure, 0), (.read, 2), (.one, 1), (.one, 3), (.one, 4), (.one, 5), (.pure, 6)] (by kernel_rfl) (by kernel_rfl) ?_
  have hC : Ext w1 w1.drew := (Ext.refl _).drew
  (apply scr_pure'; (· rfl); (· rfl); (· (intro w'; go_simp; try rfl)); (· (simp [go_sem]; try rfl)))
  (apply scr_read'; (· rfl); (· rfl); (· first | exact hC | exact (Ext.refl _).drew); (· (intro w' hw'; have e0_ := hw'.keep e0; have e1_ := hw'.keep e1; have e2_ := hw'.keep e2; have e3_ := hw'.keep e3; have e4_ := hw'.keep e4; have e5_ := hw'.keep e5; have e6_ := hw'.keep e6; have e7_ := hw'.keep e7; have e8_ := hw'.keep e8; have e9_ := hw'.keep e9; have e10_ := hw'.keep e10; go_simp; try rfl)); (· (simp [go_sem]; try rfl)))
  refine scr_one rfl rfl (fun K hK => ?_)
  go_simp
  have hEd := Lib.hid (hE1.trans hC)
  refine toSetR_c (hl'.out.mv (hEd.out.mv X) (by decide)) (hX'.out.le hEd.out.size) hG'.out (by have := hb'.out; omega) _ ?_
  intro w2 sv s d hE2 hs hwf hhas
  have hso := (kSt d).one hs sv (by simp)
  have hs' := Lib.hid hs
  have hwf' := Lib.hid hwf
  have hhas' := Lib.hid hhas
  have hE12 := hC.trans hE2
  refine hK _ _ (fun _ => hE12) ?_
  clear hK hs hwf hhas hC e0 e1 e2 e3 e4 e5 e6 e7 e8 e9 e10
  have hEe := Lib.hid (hEd.out.trans hE2)
  clear hE12 hE2
  refine scr_one rfl rfl (fun K hK => ?_)
  go_simp
  refine toElem_c (he'.out |> fun h => kEl.mv h (hEe.out.mv X)) (hX'.out.le hEe.out.size) _ ?_
  intro w3 ps hE3 hps
  obtain ⟨p0, p1, p2, p3, rfl⟩ := kPe_four hps
  have hps' := Lib.hid hps
  have hs3 := Lib.hid ((kSt d).mv hs'.out (hE3.mv X))
  have hE3' := Lib.hid (hEe.out.trans hE3)
  refine hK _ _ (fun h => by simp at h) ?_
  clear hK hps hE3
  refine scr_one rfl rfl (fun K hK => ?_)
  go_simp
  refine withPrefix_c hs3.out hwf'.out (hX'.out.le hE3'.out.size) hps'.out hGe'.out _ ?_
  intro w4 tv t d' hE4 ht hwt hhat
  have hto := (kSt d').one ht tv (by simp)
  have hgt := Tr.paths_good hwt
  have hhl : ∀ q, GP GoodE q → q ≠ [] → (hasC (wc cmpPe) t.paths q ↔ memP l (toE e :: q)) := fun q hq hne => (hhat q hq hne).trans (hhas'.out _ (by
    intro y hy
    rcases List.mem_cons.1 hy with rfl | hy
    · exact hGe'.out
    · exact hq y hy))
  have hmem : ∀ p ∈ t.paths, memP l (toE e :: p) := fun p hp => (hhl p (hgt p hp) (Tr.paths_ne hp)).1 (hasC_self (wc_ord goodE_ord) hp)
  have hcons : ∀ p ∈ t.paths, GP GoodE (toE e :: p) := fun p hp y hy => by
    rcases List.mem_cons.1 hy with rfl | hy
    · exact hGe'.out
    · exact hgt p hp y hy
  have hpl : t.paths.length ≤ l.length := by
    have := memP_pigeon hG'.out (L := t.paths.map (toE e :: ·)) (List.pairwise_map.2 ((Tr.paths_srt goodE_ord hwt).dst.imp_of_mem fun {x y} hx hy h => by
      rw [wc_two _ _ (Tr.paths_ne hx) (Tr.paths_ne hy), goodE_ord.self]; simpa using h)) (fun p hp => by
      obtain ⟨x, hx, rfl⟩ := List.mem_map.1 hp
      exact hcons x hx) (fun p hp => by
      obtain ⟨x, hx, rfl⟩ := List.mem_map.1 hp
      exact hmem x hx)
    simpa using this
  have ht' := Lib.hid ht
  have hwt' := Lib.hid hwt
  have hhl' := Lib.hid hhl
  have hgt' := Lib.hid hgt
  have hpl' := Lib.hid hpl
  have hbp := Lib.hid (fun q (hq : q ∈ t.paths) => (by have := memP_len hl'.out (hmem q hq); simp only [List.length_cons] at this; omega : q.length * 168 ≤ 140737488351232))
  have hE4' := Lib.hid (hE3'.out.trans hE4)
  refine hK _ _ (fun h => by simp at h) ?_
  clear hK ht hwt hhat hgt hhl hmem hcons hpl hE4
  refine scr_one rfl rfl (fun K hK => ?_)
  go_simp
  refine fromSet_c ht'.out hwt'.out (hX'.out.le hE4'.out.size) (fun x hx => goodE_small hx) hbp.out (by have := hpl'.out; have := hb'.out; omega) _ ?_
  intro w5 v5 hE5 hv5
  have hv5o := hv5.one
  have hv5' := Lib.hid hv5
  have hE5' := Lib.hid (hE4'.out.trans hE5)
  refine hK _ _ (fun h => by simp at h) ?_
  clear hK hv5 hE5
  (apply scr_pure'; (· rfl); (· rfl); (· (intro w'; go_simp; try rfl)); (· (simp [go_sem]; try rfl)))
  refine scr_end ?_
  simp only [Exit.then]
  go_wp2_with fail
  exact hR'.out w5 v5 _ hE5'.out hv5'.out (Tr.paths_srt goodE_ord hwt'.out) hgt'.out (fun p hp => Tr.paths_ne hp) hhl'.out
end Go.Proofs.YtihapgangilncaaGreat
namespace Go.Proofs.YtihapgangilncaaGreat
open Go.RowKit
set_option linter.unusedSimpArgs false

theorem cell_lt {w : World} {b j : Nat} {v : Value} (h : w.cell? ⟨b, j, none⟩ = some v) : b < w.heap.size := by
  rcases Nat.lt_or_ge b w.heap.size with h1 | h1
  · exact h1
  · simp [World.cell?, Array.getElem?_eq_none h1] at h
theorem grown_cell {w w' : World} {row : Option Nat} {k off : Nat} {v : Value} (hg : w.grownBy w' row) (hc : w.cell? ⟨k, off, none⟩ = some v) (hne : ¬ some k = row) : w'.cell? ⟨k, off, none⟩ = some v :=
  (((Mv.refl w row.toList).grown hg (fun j hj => by simp [hj])).cell (by simpa [eq_comm] using hne) hc).1
theorem Row.lit {α : Type} {k : Kind α} {e : TypeId} {w : World} {X : List Nat} {b : Nat} {c : Array Value} {u : α} (hb : w.heap[b]? = some (.cells c e (0, 0))) (hu : k.is w (b :: X) c.toList u) (hX : b ∉ X) : Row k e w X (.slice (some ⟨b, 0, none⟩) 1 1) [u] :=
  have hl : c.size = k.size := by simpa using k.len hu
  ⟨[c.toList], ⟨by simpa using hl, .inr ⟨b, 1, c, rfl, Nat.zero_le _, hb, Nat.le_refl _, by decide, by simpa using hl, by simp [← hl, List.take_of_length_le]⟩⟩, .cons hu .nil, fun g h => by simp [Value.ownBlock] at h; subst h; exact hX⟩

set_option maxRecDepth 100000 in
set_option maxHeartbeats 4000000 in
set_option pp.maxSteps 1000000 in
set_option pp.deepTerms true in
theorem lawsAt_c {w : World} {X : List Nat} {es : List Value} {e : EL} {lv : Value} {l : List (List EL)} (he : kEl.is w X es e) (hl : IsSl kPth 24 w X lv l) (hX : Old X w) (hlen : ∀ p ∈ l, (p.length + 1) * 168 ≤ 140737488351232) (hbytes : (l.length + 1) * 24 ≤ 140737488351232) (R : Ending → World → Prop)
    (hR : ∀ w' v, Ext w w' → IsSl kPth 24 w' X v (l.map (e :: ·)) → R (.returned v) w') : Calls Tryz.prog 35 #[.agg es.toArray, lv] w R := by
  obtain ⟨d0, d1, d2, d3, d4, d5, d6, d7, d8, d9, d10, rfl⟩ := kEl_eleven he
  obtain ⟨o, c, b, off, rfl, l2, l3, l4, l5⟩ := id hl.ex
  have hbo' := Lib.hid (show l.length * 24 ≤ 140737488351232 by omega)
  have l4' := Lib.hid l4
  have l5' := Lib.hid l5
  have he' := Lib.hid he
  have heo' := Lib.hid (kEl.one he)
  have hX' := Lib.hid hX
  have hR' := Lib.hid hR
  have hlen' := Lib.hid hlen
  have hpI : (l.length : Int) ≤ 140737488351232 := by omega
  clear hR hX hl l4 l5 hlen hbytes he l3
  go_enter Tryz.func35, Tryz.ntmps35
  go_wp2_with fail
  refine abs2 (G := Code.wp _ _ _ _) ?_
  intro w1 hE1 hb1 hb2 hs1
  have ho := Lib.hid (show w.heap.size ∉ X from fun h => by have := hX'.out _ h; omega)
  have hrow : Row kPth 22 w1 (w.heap.size :: X) (.slice (some ⟨w.heap.size + 1, 0, none⟩) 0 0) [] := Row.made hb2 (fun h => by rcases List.mem_cons.1 h with h | h; (· omega); have := hX'.out _ h; omega)
  have hce := Lib.hid (show ∀ (j : Nat) (v : Value), (#[d0, d1, d2, d3, d4, d5, d6, d7, d8, d9, d10] : Array Value)[j]? = some v → w1.cell? ⟨w.heap.size, j, none⟩ = some v from fun j v h => (cells_of hb1 j).trans h)
  have hrow' := Lib.hid hrow
  clear hrow hb1 hb2 hs1
  go_loopw [5, 7, 11] (fun v _ i wr => ∃ k : Nat, k ≤ l.length ∧ i = .int .i64 k ∧ Ext w wr ∧ Hid (∀ (j : Nat) (v : Value), (#[d0, d1, d2, d3, d4, d5, d6, d7, d8, d9, d10] : Array Value)[j]? = some v → wr.cell? ⟨w.heap.size, j, none⟩ = some v) ∧ (∀ g, v.ownBlock = some g → w.heap.size + 1 ≤ g) ∧ v ≠ .slice none 0 0 ∧ Hid (Row kPth 22 wr (w.heap.size :: X) v ((l.take k).map (e :: ·)))) (fun _ _ i _ => l.length - (intOf i).toNat)
  case atStart => exact ⟨0, Nat.zero_le _, rfl, hE1, hce, fun g h => by simp [Value.ownBlock] at h; omega, by simp, hrow'⟩
  case round =>
    obtain ⟨k, hk, rfl, hEw, hce2, hgv, hnn, hrow⟩ := hrel
    rename World => wr
    have hsz1 : Hid (Old (w.heap.size :: X) wr) := Lib.hid (fun z hz => by
      rcases List.mem_cons.1 hz with rfl | hz
      · exact cell_lt (hce2.out 0 _ rfl)
      · exact hX'.out.le hEw.size z hz)
    by_cases hlt : k < l.length
    · obtain ⟨cs, hc, hcs⟩ := l5'.out k hlt
      obtain ⟨rfl, -⟩ := l4'.out (by omega)
      obtain ⟨pv, rfl, hpv⟩ := hcs
      have hpo := hpv.one
      have q0 := hEw.keep (hc 0 (by decide))
      simp only [show kPth.size = 1 from rfl, Nat.mul_one, Nat.add_zero] at q0
      have hi1 : (k : Int) < (l.length : Int) := by omega
      have hkm : (k : Int) + 1 ≤ 9223372036854775807 := by omega
      have hmv : Mv w X wr (vb u5 ++ (w.heap.size :: X)) := ((hEw.mv X).moreL (Z := [w.heap.size]) (by simp)).moreL (fun g hg => Nat.le_of_succ_le (hgv g (by simpa [vb] using hg)))
      have hXr : Old (w.heap.size :: X) wr := hsz1.out
      have hpv' := Lib.hid (hpv.mv hmv (by decide))
      have hmv' := Lib.hid hmv
      have a0 := hce2.out 0 _ rfl
      have a1 := hce2.out 1 _ rfl
      have a2 := hce2.out 2 _ rfl
      have a3 := hce2.out 3 _ rfl
      have a4 := hce2.out 4 _ rfl
      have a5 := hce2.out 5 _ rfl
      have a6 := hce2.out 6 _ rfl
      have a7 := hce2.out 7 _ rfl
      have a8 := hce2.out 8 _ rfl
      have a9 := hce2.out 9 _ rfl
      have a10 := hce2.out 10 _ rfl
      clear hc hpv hmv
      have hb1 : ([e].length + l[k].length) * 168 ≤ 140737488355328 := by have := hlen'.out _ (List.getElem_mem hlt); simp only [List.length_singleton]; omega
      have hm1 : [e].length + l[k].length ≤ maxLen := by have := hlen'.out _ (List.getElem_mem hlt); rw [maxLen_eq]; simp only [List.length_singleton]; omega
      have hlk : ((l.take k).map (e :: ·)).length = k := by rw [List.length_map, List.length_take]; omega
      have hb4 : (((l.take k).map (e :: ·)).length + 1) * 24 ≤ 140737488355328 := by rw [hlk]; exact Nat.le_trans (Nat.mul_le_mul_right _ hlt) (Nat.le_trans hbo'.out (by decide))
      have hb5 : ((l.take k).map (e :: ·)).length + 1 ≤ maxLen := by rw [hlk, maxLen_eq]; omega
      have hb1' := Lib.hid hb1
      have hm1' := Lib.hid hm1
      have hb4' := Lib.hid hb4
      have hb5' := Lib.hid hb5
      have hEs := Lib.hid hEw.size
      have htk : (l.take (k + 1)).map (e :: ·) = (l.take k).map (e :: ·) ++ [e :: l[k]] := by rw [List.take_succ_eq_append_getElem hlt, List.map_append]; rfl
      have htk' := Lib.hid htk
      clear hb1 hm1 hlk hb4 hb5 htk
      go_wp2_with (at_builtin; first
        | (refine wpL_rowAppS (k := kEl) (bytes := 168) (w := wr.alloc (.cells #[d0, d1, d2, d3, d4, d5, d6, d7, d8, d9, d10] 47)) (X := vb u5 ++ (w.heap.size :: X)) (v := .slice (some ⟨wr.heap.size, 0, none⟩) 1 1) (us := [e]) (ts := l[k]) rfl (Row.lit ((push_get _ _ _).trans (if_pos rfl)) (kEl.mv (kEl.mv he'.out hmv'.out) (((Ext.alloc wr _).mv _).moreL (Z := [wr.heap.size]) (by simp))) (fun h => by have := hrow.out.old hXr _ h; omega)) (Ext.refl _) ((hrow.out.old hXr).le (Ext.alloc wr _).size) (hpv'.out.mv (((Ext.alloc wr _).mv _).moreL (fun z hz => by simp [vb, Value.ownBlock] at hz; omega)) (by decide)) _ _ _ rfl Tryz.underlying22 Tryz.info47 rfl (by decide) rfl rfl hb1'.out hm1'.out ?_; intro v2 w2 hr2 hg2 hd2; have hE2 : Ext wr w2 := (Ext.alloc wr _).grown hg2 (fun k hk => by cases hk; exact Nat.le_refl _); have hr2' := Lib.hid (hr2.isSl (bytes := 168) (by have := hlen'.out _ (List.getElem_mem hlt); simp only [List.length_append, List.length_singleton]; omega)); obtain ⟨o2, n2, c2, hv2⟩ : ∃ o n c, v2 = .slice o n c := (by obtain ⟨o2, c2, _, _, h, -⟩ := hr2'.out.ex; exact ⟨_, _, _, h⟩); subst hv2; have hE2' := Lib.hid hE2; clear hr2 hg2 hd2 hE2)
        | (refine wpL_rowApp (c := #[.slice o2 n2 c2]) (u := e :: l[k]) rfl hrow.out hE2'.out (hXr.le hE2'.out.size) ⟨_, rfl, hr2'.out⟩ _ _ _ rfl Tryz.underlying24 Tryz.info22 rfl (by decide) rfl rfl hb4'.out hb5'.out ?_; intro v' w8 hrow8 hg8 hne8 hd8))
      go_roundw
      case rel =>
        have hE8 := (hEw.trans hE2'.out).grown hg8 (fun j hj => Nat.le_of_succ_le (hgv j hj))
        refine ⟨k + 1, by omega, by go_num, hE8, Lib.hid (fun j v hj => grown_cell hg8 (hE2'.out.keep (hce2.out j v hj)) (hrow.out.notin (by simp))), fun g hg => ?_, hne8, Lib.hid (by rw [htk'.out]; exact hrow8)⟩
        rcases hd8 g hg with h | h
        · exact hgv g h
        · have := hE2'.out.size; have := cell_lt (hce2.out 0 _ rfl); omega
      case measure => simp [intOf]; omega
    · have ek : k = l.length := by omega
      subst ek
      have hr := hrow.out
      rw [List.take_of_length_le (Nat.le_refl _)] at hr
      have hr' := Lib.hid ((hr.less fun b hb => List.mem_cons_of_mem _ hb).isSl (bytes := 24) (by rw [List.length_map]; exact hbo'.out))
      clear hr hrow
      go_wp2_with fail
      exact hR'.out wr _ hEw hr'.out
end Go.Proofs.YtihapgangilncaaGreat
namespace Go.Proofs.YtihapgangilncaaGreat
open Go.RowKit
set_option linter.unusedSimpArgs false

/-- L holds the paths of a that have one element, or one of es in front -/
structure Reb (a : List (List EL)) (es : List PEl) (L : List (List PEl)) : Prop where
  good : ∀ p ∈ L, GP GoodE p
  ne : ∀ p ∈ L, p ≠ []
  dst : Dst (wc cmpPe) L
  has : ∀ q, GP GoodE q → (hasC (wc cmpPe) L q ↔ memP a q ∧ (q.length = 1 ∨ ∃ f t, q = f :: t ∧ ∃ x ∈ es, cmpPe x f = 0))

theorem back_good {L : List (List PEl)} (hL : ∀ p ∈ L, GP GoodE p) : ∀ p ∈ (L.map (·.map backE)).map (·.map toE), GP GoodE p := fun p hp => by
  obtain ⟨r, hr, rfl⟩ := List.mem_map.1 hp
  exact back_toE hL r hr
theorem back_ne {L : List (List PEl)} (hL : ∀ p ∈ L, p ≠ []) : ∀ p ∈ (L.map (·.map backE)).map (·.map toE), p ≠ [] := fun p hp => by
  obtain ⟨r, hr, rfl⟩ := List.mem_map.1 hp
  obtain ⟨s, hs, rfl⟩ := List.mem_map.1 hr
  have := hL s hs
  cases s <;> simp_all

theorem reb_start {a : List (List EL)} {ms : List PEl} (hs : SrtC cmpPe ms) (hg : ∀ x ∈ ms, GoodE x) (hh : ∀ x, GoodE x → (hasC cmpPe ms x ↔ memP a [x])) : Reb a [] (((ms.map backE).map fun e => [e]).map (·.map toE)) := by
  have e : ((ms.map backE).map fun e => [e]).map (·.map toE) = ((ms.map fun x => [x]).map (·.map backE)).map (·.map toE) := by simp [List.map_map, Function.comp_def]
  have hgl : ∀ p ∈ ms.map fun x => [x], GP GoodE p := fun p hp => by
    obtain ⟨x, hx, rfl⟩ := List.mem_map.1 hp
    intro y hy
    have hy2 : y = x := by simpa using hy
    rw [hy2]; exact hg x hx
  rw [e]
  refine ⟨back_good hgl, back_ne fun p hp => ?_, dst_back hgl (List.pairwise_map.2 (hs.imp fun h => by rw [wc_one]; omega)), fun q hq => ?_⟩
  · obtain ⟨x, hx, rfl⟩ := List.mem_map.1 hp; simp
  · rw [has_back hgl]
    constructor
    · rintro ⟨p, hp, h0⟩
      obtain ⟨x, hx, rfl⟩ := List.mem_map.1 hp
      have hl := wc_len h0
      match q, hl with
      | [f], _ =>
        rw [wc_one] at h0
        exact ⟨(hh f (hq f (by simp))).1 ⟨x, hx, h0⟩, .inl rfl⟩
    · rintro ⟨hm, h1⟩
      have hl : q.length = 1 := by
        rcases h1 with h | ⟨f, t, -, x, hx, -⟩
        · exact h
        · simp at hx
      match q, hl with
      | [f], _ =>
        obtain ⟨x, hx, h0⟩ := (hh f (hq f (by simp))).2 hm
        exact ⟨[x], List.mem_map.2 ⟨x, hx, rfl⟩, by rw [wc_one]; exact h0⟩

theorem wc_cons0 {e f : PEl} {p q : List PEl} (hp : p ≠ []) (hq : q ≠ []) : wc cmpPe (e :: p) (f :: q) = 0 ↔ cmpPe e f = 0 ∧ wc cmpPe p q = 0 := by
  rw [wc_two _ _ hp hq]
  split
  · rename_i h; exact ⟨fun h2 => absurd h2 h, fun h2 => absurd h2.1 h⟩
  · rename_i h; exact ⟨fun h2 => ⟨by simpa using h, h2⟩, fun h2 => h2.2⟩

theorem reb_step {a : List (List EL)} (ha : ∀ p ∈ a, GP GoodE (p.map toE)) {es : List PEl} {L T : List (List PEl)} {e : PEl} (h : Reb a es L) (he : GoodE e) (hn : ∀ x ∈ es, cmpPe x e ≠ 0) (hts : SrtC (wc cmpPe) T) (htg : ∀ p ∈ T, GP GoodE p) (htn : ∀ p ∈ T, p ≠ []) (hth : ∀ q, GP GoodE q → q ≠ [] → (hasC (wc cmpPe) T q ↔ memP a (e :: q))) :
    Reb a (es ++ [e]) (L ++ ((T.map (·.map backE)).map (·.map toE)).map (e :: ·)) := by
  have bg := back_good htg
  have bn := back_ne htn
  have bd := dst_back htg hts.dst
  have bh := fun q => has_back htg q
  generalize ((T.map (·.map backE)).map (·.map toE)) = U at bg bn bd bh
  have hc : ∀ t, GP GoodE t → GP GoodE (e :: t) := fun t ht y hy => by
    rcases List.mem_cons.1 hy with rfl | hy
    · exact he
    · exact ht y hy
  refine ⟨fun p hp => ?_, fun p hp => ?_, List.pairwise_append.2 ⟨h.dst, List.pairwise_map.2 (bd.imp_of_mem fun {x y} hx hy hxy => ?_), fun x hx y hy h0 => ?_⟩, fun q hq => ?_⟩
  · rcases List.mem_append.1 hp with hp | hp
    · exact h.good p hp
    · obtain ⟨t, ht, rfl⟩ := List.mem_map.1 hp
      exact hc t (bg t ht)
  · rcases List.mem_append.1 hp with hp | hp
    · exact h.ne p hp
    · obtain ⟨t, ht, rfl⟩ := List.mem_map.1 hp
      simp
  · intro h0
    exact hxy ((wc_cons0 (bn x hx) (bn y hy)).1 h0).2
  · obtain ⟨t, ht, rfl⟩ := List.mem_map.1 hy
    have h1 := (h.has _ (hc t (bg t ht))).1 ⟨x, hx, h0⟩
    rcases h1.2 with h2 | ⟨f, t2, he2, z, hz, h2⟩
    · have := bn t ht
      cases t <;> simp_all
    · cases he2
      exact hn z hz h2
  · rw [hasC_app, h.has q hq]
    constructor
    · rintro (⟨h1, h2⟩ | ⟨p, hp, h0⟩)
      · exact ⟨h1, h2.imp id fun ⟨f, t, h3, x, hx, h4⟩ => ⟨f, t, h3, x, by simp [hx], h4⟩⟩
      · obtain ⟨t, ht, rfl⟩ := List.mem_map.1 hp
        have hl := wc_len h0
        cases q with
        | nil => simp at hl
        | cons f t2 =>
          have hne : t2 ≠ [] := by
            have := bn t ht
            intro h5; subst h5
            cases t <;> simp_all
          obtain ⟨h6, h7⟩ := (wc_cons0 (bn t ht) hne).1 h0
          have hg2 : GP GoodE t2 := fun y hy => hq y (by simp [hy])
          have h8 := (hth t2 hg2 hne).1 ((bh t2).1 ⟨t, ht, h7⟩)
          exact ⟨(memP_congr ha (hc t2 hg2) hq ((wc_cons0 hne hne).2 ⟨h6, (wc_ord goodE_ord).self t2⟩)).1 h8, .inr ⟨f, t2, rfl, e, by simp, h6⟩⟩
    · rintro ⟨h1, h2⟩
      rcases h2 with h2 | ⟨f, t, rfl, x, hx, h3⟩
      · exact .inl ⟨h1, .inl h2⟩
      · rcases List.mem_append.1 hx with hx | hx
        · exact .inl ⟨h1, .inr ⟨f, t, rfl, x, hx, h3⟩⟩
        · simp only [List.mem_singleton] at hx
          subst hx
          by_cases hne : t = []
          · subst hne; exact .inl ⟨h1, .inl rfl⟩
          · have hg2 : GP GoodE t := fun y hy => hq y (by simp [hy])
            have h4 := (memP_congr ha (hc t hg2) hq ((wc_cons0 hne hne).2 ⟨h3, (wc_ord goodE_ord).self t⟩)).2 h1
            obtain ⟨u, hu, h5⟩ := (bh t).2 ((hth t hg2 hne).2 h4)
            exact .inr ⟨_, List.mem_map.2 ⟨u, hu, rfl⟩, (wc_cons0 (bn u hu) hne).2 ⟨h3, h5⟩⟩

theorem reb_end {a : List (List EL)} (ha : ∀ p ∈ a, GP GoodE (p.map toE)) {es : List PEl} {L : List (List PEl)} (h : Reb a es L) (heg : ∀ x ∈ es, GoodE x) (hes : ∀ x tl, (x :: tl) ∈ a → ∃ y ∈ es, cmpPe y (toE x) = 0) : ∀ q, GP GoodE q → (hasC (wc cmpPe) L q ↔ memP a q) := fun q hq => by
  rw [h.has q hq]
  refine ⟨fun h => h.1, fun hm => ⟨hm, ?_⟩⟩
  obtain ⟨p, hp, hne, h0⟩ := hm
  obtain ⟨r, hr, rfl⟩ := List.mem_map.1 hp
  cases r with
  | nil => exact absurd rfl hne
  | cons x tl =>
    have hz := wc_zero.1 h0
    rw [List.map_cons] at hz
    cases hz with
    | @cons _ f _ t h1 h2 =>
      obtain ⟨y, hy, h3⟩ := hes x tl hr
      have hgx : GoodE (toE x) := ha _ hr (toE x) (by simp)
      exact .inr ⟨f, t, rfl, y, hy, by rw [goodE_ord.congr' hgx (hq f (by simp)) (heg y hy) h1] at h3; exact h3⟩
/-- with its length -/
theorem reb_len {a : List (List EL)} {es : List PEl} {L M : List (List PEl)} (h : Reb a es L) (hh : ∀ q, GP GoodE q → (hasC (wc cmpPe) L q ↔ memP a q)) (hs : SrtC (wc cmpPe) M) (hg : ∀ p ∈ M, GP GoodE p) (hm : ∀ q, GP GoodE q → (hasC (wc cmpPe) M q ↔ memP a q)) : L.length = M.length :=
  dst_len (wc_ord goodE_ord) h.dst hs.dst h.good hg fun p hp => (hh p hp).trans (hm p hp).symm
theorem reb_le {a : List (List EL)} (ha : ∀ p ∈ a, GP GoodE (p.map toE)) {es : List PEl} {L : List (List PEl)} (h : Reb a es L) : L.length ≤ a.length :=
  memP_pigeon ha h.dst h.good fun p hp => ((h.has p (h.good p hp)).1 (hasC_self (wc_ord goodE_ord) hp)).1
theorem memP_has {l : List (List EL)} (hn : ∀ p ∈ l, p ≠ []) (q : List PEl) : memP l q ↔ hasC (wc cmpPe) (l.map (·.map toE)) q := by
  constructor
  · rintro ⟨p, hp, -, h0⟩; exact ⟨p, hp, h0⟩
  · rintro ⟨p, hp, h0⟩
    refine ⟨p, hp, ?_, h0⟩
    obtain ⟨r, hr, rfl⟩ := List.mem_map.1 hp
    have := hn r hr
    cases r <;> simp_all

theorem sorted_srt {us : List PEl} (h : SrtC cmpPe us) : SortedPe us := fun i j hi hj hij => List.pairwise_iff_getElem.1 h i j hi hj hij
theorem esIns_insC {us : List PEl} {t : PEl} (hs : SrtC cmpPe us) (hg : ∀ x ∈ us, GoodE x) (ht : GoodE t) : esIns us t = insC cmpPe us t := by
  obtain ⟨i, h⟩ := at_ex (t := t) (mono_of (fun _ _ _ ha hb hc h1 h2 => goodE_ord.lt_tr ha hb hc h1 h2) (sorted_srt hs) hg ht)
  rw [esIns, at_count h, insC_at h.1 h.2.1 h.2.2]
  have e : HasAt us t i = hasAtC cmpPe us t i := by unfold HasAt hasAtC; cases us[i]? <;> rfl
  unfold insAt
  rw [e]
theorem esOf_set {l : List PEl} (hl : ∀ x ∈ l, GoodE x) : SrtC cmpPe (esOf l) ∧ (∀ x ∈ esOf l, GoodE x) ∧ ∀ q, GoodE q → (hasC cmpPe (esOf l) q ↔ hasC cmpPe l q) := by
  induction l using snoc_ind with
  | h0 => exact ⟨by simp [esOf, SrtC], by simp [esOf], by simp [esOf, hasC]⟩
  | h1 l t ih =>
    obtain ⟨h1, h2, h3⟩ := ih (fun x hx => hl x (by simp [hx]))
    have ht := hl t (by simp)
    rw [esOf_snoc, esIns_insC h1 h2 ht]
    refine ⟨insC_srt goodE_ord h1 h2 ht, insC_G h2 ht, fun q hq => ?_⟩
    rw [insC_has goodE_ord ht hq h2, h3 q hq, hasC_app, hasC_cons]
    simp [hasC_nil]
end Go.Proofs.YtihapgangilncaaGreat
