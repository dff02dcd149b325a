/- impl.ElemSetCopy. Sets of paths as they lie in memory: to read, and to put paths into. -/
import Derived.Test.YtihapgangilncaaGreatKCFromS
import Derived.Test.YtihapgangilncaaGreatKCSetL
namespace Go.Proofs.YtihapgangilncaaGreat
open Go.RowKit
set_option linter.unusedSimpArgs false

theorem Row.moreNew {α : Type} {k : Kind α} {e : TypeId} {w w' : World} {X : List Nat} {v : Value} {us : List α} {n : Nat} (h : Row k e w X v us) (hE : Ext w w') (hn : w.heap.size ≤ n) : Row k e w' (n :: X) v us := by
  obtain ⟨rows, h1, h2, h3⟩ := h.ex
  refine ⟨rows, h1.ext hE, h2.imp fun _ _ h => k.mv h (((hE.mv _).more hn).less fun b hb => ?_), fun g hg hm => ?_⟩
  · simp only [List.mem_append, List.mem_cons] at hb ⊢
    rcases hb with h | h | h <;> simp [h]
  · rcases List.mem_cons.1 hm with rfl | hm
    · have := h1.lt hg; omega
    · exact h3 g hg hm

theorem esOf_app {G : PEl → Prop} (hT : TransOn G) {l more : List EL} (hG : ∀ e ∈ l, G (toE e)) (hGm : ∀ e ∈ more, G (toE e)) (k : Nat) : SortedPe (esOf ((l ++ more.take k).map toE)) ∧ (∀ x ∈ esOf ((l ++ more.take k).map toE), G x) ∧ (esOf ((l ++ more.take k).map toE)).length ≤ l.length + k := by
  have h := esOf_facts hT (l := (l ++ more.take k).map toE) (fun x hx => by
    obtain ⟨e, he, rfl⟩ := List.mem_map.1 hx
    rcases List.mem_append.1 he with he | he
    · exact hG e he
    · exact hGm e (List.mem_of_mem_take he))
  refine ⟨h.1, h.2.1, Nat.le_trans h.2.2 ?_⟩
  rw [List.length_map, List.length_append, List.length_take]
  omega

set_option maxRecDepth 100000 in
set_option maxHeartbeats 8000000 in
set_option pp.maxSteps 1000000 in
set_option pp.deepTerms true in
theorem elemSetCopy_c {G : PEl → Prop} (hT : TransOn G) (hGs : ∀ x, G x → SmallPe x) {w : World} {X : List Nat} {lv mv : Value} {l more : List EL} (hl : IsSl kEl 168 w X lv l) (hm : IsSl kEl 168 w X mv more) (hX : Old X w) (hG : ∀ e ∈ l, G (toE e)) (hGm : ∀ e ∈ more, G (toE e))
    (hbytes : (l.length + more.length + 1) * 168 ≤ 140737488351232) (R : Ending → World → Prop)
    (hR : ∀ w' v1 v2, Ext w w' → IsSl kEl 168 w' X v1 ((esOf (l.map toE)).map backE) → IsSl kEl 168 w' X v2 ((esOf ((l ++ more).map toE)).map backE) → R (.returned (.tuple #[v1, v2])) w') :
    Calls Tryz.prog 13 #[lv, mv] w R := by
  have hb32 : ∀ n : Nat, n ≤ l.length + more.length → (n + 1) * 32 ≤ 140737488351232 := fun n hn => Nat.le_trans (Nat.mul_le_mul (Nat.succ_le_succ hn) (by decide : 32 ≤ 168)) hbytes
  have hb168 : ∀ n : Nat, n ≤ l.length + more.length → n * 168 ≤ 140737488351232 := fun n hn => Nat.le_trans (Nat.mul_le_mul_right 168 (Nat.le_succ_of_le hn)) hbytes
  have hmb : (more.length : Int) ≤ 140737488351232 := by have := hb168 more.length (Nat.le_add_left _ _); omega
  have hb32' := Lib.hid hb32
  have hb168' := Lib.hid hb168
  obtain ⟨lo, lc, lb, loff, rfl, -⟩ := id hl.ex
  obtain ⟨o, c, b, off, rfl, l2, l3, l4, l5⟩ := id hm.ex
  have hl' := Lib.hid hl
  have l4' := Lib.hid l4
  have l5' := Lib.hid l5
  have hX' := Lib.hid hX
  have hG' := Lib.hid hG
  have hGm' := Lib.hid hGm
  have hGs' := Lib.hid hGs
  have hR' := Lib.hid hR
  clear hR hX hl hm l4 l5 hG hGm hGs hbytes hb32 hb168
  go_enter Tryz.func13, Tryz.ntmps13
  go_wp2_with fail
  refine toElemSet_c hT hl'.out hX'.out hG'.out (hb32'.out _ (Nat.le_add_right _ _)) _ ?_
  intro w1 bs hE1 hbs1 hbs2 hes
  obtain ⟨v, hb1, hrow1, hgv1⟩ := hes.ex
  simp only [List.setIfInBounds_toArray, List.set_cons_zero] at hb1
  have c0 : w1.cell? ⟨bs, 0, none⟩ = some v := cells_of hb1 0
  have hvo := hrow1.one
  have hlen1 := (esOf_facts hT (l := l.map toE) (fun x hx => by obtain ⟨e, he, rfl⟩ := List.mem_map.1 hx; exact hG'.out e he)).2
  rw [List.length_map] at hlen1
  have hlen1' := Lib.hid hlen1
  have hsl1 : Hid (IsSl kPe 32 w1 (bs :: X) v (esOf (l.map toE))) := Lib.hid (hrow1.isSl (Nat.le_trans (Nat.mul_le_mul_right 32 (Nat.le_succ_of_le hlen1.2)) (hb32'.out _ (Nat.le_add_right _ _))))
  have hsl0 : Hid (IsSl kPe 32 w1 X v (esOf (l.map toE))) := Lib.hid (hsl1.out.mv ((Mv.refl _ _).less fun b hb => List.mem_cons_of_mem _ hb) (by simp [kPe]))
  clear hes hb1 hrow1 hgv1 hlen1
  dsimp only
  go_wp2_with fail
  refine peSetCopy_c hsl0.out (hX'.out.le hE1.size) _ ?_
  intro w2 v2 hE2 hrow2 hg2
  have hvo2 := hrow2.one
  have hrow2' := Lib.hid hrow2
  have hg2' := Lib.hid hg2
  have c0' := hE2.keep c0
  clear hrow2 hg2
  dsimp only
  go_wp2_with (first | (refine wpL_storeRow (cells := #[v2]) (b := w2.heap.size) rfl 81 _ _ rfl Tryz.size81 rfl rfl (alloc_new w2 _ rfl) rfl (by simpa using hvo2) ?_; intro w3 h3 g3))
  have hE13 : Ext w1 w3 := (hE2.push _).grown g3 (fun k hk => by cases hk; exact hE2.size)
  have hbl3 := (Array.getElem?_eq_some_iff.1 h3).1
  have hes0 : Hid (ESAt w1 w3 X w2.heap.size 0 #[.slice none 0 0] 81 (esOf ((l ++ more.take 0).map toE))) := Lib.hid (by
    rw [List.take_zero, List.append_nil]
    exact ⟨v2, h3, hrow2'.out.moreNew ((Ext.alloc w2 _).grown g3 (fun k hk => by cases hk; exact Nat.le_refl _)) (Nat.le_refl _), hg2'.out⟩)
  have hC := hE2.size
  clear h3 g3 c0' hrow2' hg2' hvo2 l2 l3
  go_loopw [9, 18] (fun _ i wr => ∃ k : Nat, k ≤ more.length ∧ i = .int .i64 k ∧ Ext w1 wr ∧ w2.heap.size < wr.heap.size ∧ Hid (ESAt w1 wr X w2.heap.size 0 #[.slice none 0 0] 81 (esOf ((l ++ more.take k).map toE)))) (fun _ i _ => more.length - (intOf i).toNat)
  case atStart => exact ⟨0, Nat.zero_le _, rfl, hE13, hbl3, hes0⟩
  case round =>
    obtain ⟨k, hk, rfl, hEr, hsz, hes⟩ := hrel
    rename World => wr
    have hEw := hE1.trans hEr
    clear hes0
    by_cases hlt : k < more.length
    · obtain ⟨cs, hc, hcs⟩ := l5'.out k hlt
      obtain ⟨rfl, -⟩ := l4'.out (by omega)
      have hone := kEl.one hcs
      obtain ⟨c0, c1, c2, c3, c4, c5, c6, c7, c8, c9, c10, rfl⟩ := kEl_eleven hcs
      have q0 := hEw.keep (hc 0 (by decide))
      have q1 := hEw.keep (hc 1 (by decide))
      have q2 := hEw.keep (hc 2 (by decide))
      have q3 := hEw.keep (hc 3 (by decide))
      have q4 := hEw.keep (hc 4 (by decide))
      have q5 := hEw.keep (hc 5 (by decide))
      have q6 := hEw.keep (hc 6 (by decide))
      have q7 := hEw.keep (hc 7 (by decide))
      have q8 := hEw.keep (hc 8 (by decide))
      have q9 := hEw.keep (hc 9 (by decide))
      have q10 := hEw.keep (hc 10 (by decide))
      simp only [show kEl.size = 11 from rfl, Nat.add_zero] at q0 q1 q2 q3 q4 q5 q6 q7 q8 q9 q10
      have hi1 : (k : Int) < (more.length : Int) := by omega
      have hkm : (k : Int) + 1 ≤ 9223372036854775807 := by omega
      have hcs' := Lib.hid hcs
      have hone' := Lib.hid hone
      obtain ⟨vc, hb, hrow, hgv⟩ := hes.out.ex
      have hb' := Lib.hid hb
      have hrow' := Lib.hid hrow
      have hgv' := Lib.hid hgv
      clear hc hcs hone hb hrow hgv
      go_wp2_with (first | (refine wpL_storeRow (cells := #[c0, c1, c2, c3, c4, c5, c6, c7, c8, c9, c10]) rfl 47 _ _ rfl Tryz.size47 rfl rfl ((push_get _ _ _).trans (if_pos rfl)) rfl (by simpa using hone'.out) ?_; intro w5 h5 g5; have hEx : Ext wr w5 := ((Ext.refl wr).push _).grown g5 (fun k hk => by cases hk; exact Nat.le_refl _); have s0 : w5.cell? ⟨wr.heap.size, 0, none⟩ = some (c0) := cells_of h5 0; have s1 : w5.cell? ⟨wr.heap.size, 1, none⟩ = some (c1) := cells_of h5 1; have s2 : w5.cell? ⟨wr.heap.size, 2, none⟩ = some (c2) := cells_of h5 2; have s3 : w5.cell? ⟨wr.heap.size, 3, none⟩ = some (c3) := cells_of h5 3; have s4 : w5.cell? ⟨wr.heap.size, 4, none⟩ = some (c4) := cells_of h5 4; have s5 : w5.cell? ⟨wr.heap.size, 5, none⟩ = some (c5) := cells_of h5 5; have s6 : w5.cell? ⟨wr.heap.size, 6, none⟩ = some (c6) := cells_of h5 6; have s7 : w5.cell? ⟨wr.heap.size, 7, none⟩ = some (c7) := cells_of h5 7; have s8 : w5.cell? ⟨wr.heap.size, 8, none⟩ = some (c8) := cells_of h5 8; have s9 : w5.cell? ⟨wr.heap.size, 9, none⟩ = some (c9) := cells_of h5 9; have s10 : w5.cell? ⟨wr.heap.size, 10, none⟩ = some (c10) := cells_of h5 10; clear q0 q1 q2 q3 q4 q5 q6 q7 q8 q9 q10 h5 g5))
      have hX5 : Old (w2.heap.size :: X) w5 := Old.cons (Nat.lt_of_lt_of_le hsz hEx.size) (hX'.out.le (hEw.trans hEx).size)
      have hmv5 : Mv w X w5 (vb vc ++ w2.heap.size :: X) := ((hEw.trans hEx).mv X).more (n := w2.heap.size) (Nat.le_trans hE1.size hC) |>.moreL (fun g hg => Nat.le_trans hE1.size (hgv'.out g (by simpa [vb] using hg)))
      refine toElem_c (X := vb vc ++ w2.heap.size :: X) (kEl.mv hcs'.out hmv5) ((hrow'.out.ext hEx).old hX5) _ ?_
      intro w6 es hE6 hes6
      obtain ⟨d0, d1, d2, d3, rfl⟩ := kPe_four hes6
      have hes6' := Lib.hid hes6
      have hEw6 := Lib.hid ((hEr.trans hEx).trans hE6)
      have hE56 := Lib.hid (hEx.trans hE6)
      clear hes6 s0 s1 s2 s3 s4 s5 s6 s7 s8 s9 s10
      have hfx := Lib.hid (esOf_app hT hG'.out hGm'.out k)
      have hGk := Lib.hid (hGm'.out _ (List.getElem_mem hlt))
      have htk := Lib.hid (show (l ++ more.take (k + 1)).map toE = (l ++ more.take k).map toE ++ [toE (more[k]'hlt)] by rw [List.take_succ_eq_append_getElem hlt, ← List.append_assoc, List.map_append]; rfl)
      have hb6 := Lib.hid (((hE56.out).below.block w2.heap.size hsz).trans hb'.out)
      clear hes
      dsimp only
      go_wp2_with fail
      refine esPut_c hT (w := w1) (X := X) (cs := [d0, d1, d2, d3]) (t := toE (more[k]'hlt)) (us := esOf ((l ++ more.take k).map toE)) (old := #[.slice none 0 0]) (off := 0) (T := 81) ⟨vc, hb6.out, hrow'.out.ext hE56.out, hgv'.out⟩ hEw6.out hC (by simp) (hX5.le hE6.size) (fun v2 hv2 => ?_) hfx.out.1 hfx.out.2.1 hGk.out (hb32'.out _ (Nat.le_trans hfx.out.2.2 (Nat.add_le_add_left (Nat.le_of_lt hlt) _))) _ ?_
      · have e1 := hb6.out
        rw [hv2] at e1
        simp at e1
        subst e1
        exact hes6'.out
      · intro w7 hE7 hes7 hs7
        have hes7' := Lib.hid hes7
        clear hes7
        dsimp only
        go_wp2_with fail
        go_roundw
        case rel => exact ⟨k + 1, by omega, by go_num, hE7, Nat.lt_of_lt_of_le hsz (Nat.le_trans hE56.out.size hs7), Lib.hid (by rw [htk.out, esOf_snoc]; exact hes7'.out)⟩
        case measure => simp [intOf]; omega
    · have ek : k = more.length := by omega
      have hi1 : ¬ (k : Int) < (more.length : Int) := by omega
      have hfx := esOf_app hT hG'.out hGm'.out k
      rw [List.take_of_length_le (by omega)] at hes hfx
      obtain ⟨vc, hbc, hrowc, -⟩ := hes.out.ex
      simp only [List.setIfInBounds_toArray, List.set_cons_zero] at hbc
      have z0 : wr.cell? ⟨w2.heap.size, 0, none⟩ = some vc := cells_of hbc 0
      have hlc := Nat.le_trans hfx.2.2 (Nat.add_le_add_left hk _)
      have hslc : Hid (IsSl kPe 32 wr X vc (esOf ((l ++ more).map toE))) := Lib.hid ((hrowc.isSl (Nat.le_trans (Nat.mul_le_mul_right 32 (Nat.le_succ_of_le hlc)) (hb32'.out _ (Nat.le_refl _)))).mv ((Mv.refl _ _).less fun b hb => List.mem_cons_of_mem _ hb) (by simp [kPe]))
      have hfx' := Lib.hid hfx
      have hlc' := Lib.hid hlc
      have cr := hEr.keep c0
      clear hes hbc hrowc hfx hlc ek
      go_wp2_with fail
      refine fromElemSet_c (X := X) cr (hsl0.out.mv (hEr.mv _) (by simp [kPe])) (hX'.out.le hEw.size) (fun e he => hGs'.out e (hlen1'.out.1 e he)) (hb168'.out _ (Nat.le_trans hlen1'.out.2 (Nat.le_add_right _ _))) _ ?_
      intro w8 va hE8 hva
      have hva' := Lib.hid hva
      have z0' := hE8.keep z0
      clear hva z0 cr
      dsimp only
      go_wp2_with fail
      refine fromElemSet_c (X := X) z0' (hslc.out.mv (hE8.mv _) (by simp [kPe])) (hX'.out.le (hEw.trans hE8).size) (fun e he => hGs'.out e (hfx'.out.2.1 e he)) (hb168'.out _ hlc'.out) _ ?_
      intro w9 vz hE9 hvz
      have hvz' := Lib.hid hvz
      clear hvz z0'
      dsimp only
      go_wp2_with fail
      exact hR'.out w9 va vz ((hEw.trans hE8).trans hE9) (hva'.out.mv (hE9.mv _) (by simp [kEl])) hvz'.out
end Go.Proofs.YtihapgangilncaaGreat
namespace Go.Proofs.YtihapgangilncaaGreat
open Go.RowKit
set_option linter.unusedSimpArgs false

/-- a set node as a path element and the block of its set -/
def kBk : Kind (PEl × Nat) where
  size := 5
  is := fun w X cs n => ∃ pc, cs = pc ++ [.pointer (some ⟨n.2, 0, none⟩)] ∧ kPe.is w X pc n.1
  mv := fun ⟨pc, h1, h2⟩ m => ⟨pc, h1, kPe.mv h2 m⟩
  len := fun ⟨pc, h1, h2⟩ => by have e1 := kPe.len h2; rw [h1, List.length_append, e1]; rfl
  one := fun ⟨pc, h1, h2⟩ u hu => by
    rw [h1] at hu
    rcases List.mem_append.1 hu with hu | hu
    · exact kPe.one h2 u hu
    · rw [List.mem_singleton.1 hu]; rfl

/-- a node of a set that paths are put into: its block, its two slices, what stands in them -/
structure Nd where
  (b : Nat) (vm vc : Value) (ms : List PEl) (ks : List (PEl × Nat))
def Nd.bl (n : Nd) : List Nat := n.b :: (vb n.vm ++ vb n.vc)
abbrev bls (Γ : List Nd) : List Nat := Γ.flatMap Nd.bl

structure IsNd (w : World) (X : List Nat) (n : Nd) : Prop where
  cell : w.heap[n.b]? = some (.cells #[n.vm, n.vc] 126 (0, 0))
  ms : ∃ rows : List (List Value), Own w 89 4 n.vm n.ms.length rows.flatten ∧ All2 (kPe.is w X) rows n.ms
  ks : ∃ rows : List (List Value), Own w 183 5 n.vc n.ks.length rows.flatten ∧ All2 (kBk.is w X) rows n.ks

theorem IsNd.lt {w : World} {X : List Nat} {n : Nd} (h : IsNd w X n) : ∀ b ∈ n.bl, b < w.heap.size := fun b hb => by
  obtain ⟨r1, h1, _⟩ := h.ms
  obtain ⟨r2, h2, _⟩ := h.ks
  rcases List.mem_cons.1 hb with rfl | hb
  · exact (Array.getElem?_eq_some_iff.1 h.cell).1
  · rcases List.mem_append.1 hb with hb | hb
    · exact h1.lt (by simpa [vb] using hb)
    · exact h2.lt (by simpa [vb] using hb)
theorem IsNd.mv {w w' : World} {X Y : List Nat} {n : Nd} (h : IsNd w X n) (m : Mv w X w' Y) (hb : ∀ b ∈ n.bl, w'.heap[b]? = w.heap[b]?) : IsNd w' Y n := by
  obtain ⟨r1, h1, h1'⟩ := h.ms
  obtain ⟨r2, h2, h2'⟩ := h.ks
  exact ⟨(hb _ (by simp [Nd.bl])).trans h.cell,
    ⟨r1, h1.keep fun g hg => hb g (by simp [Nd.bl, vb, hg]), h1'.imp fun _ _ h => kPe.mv h m⟩,
    ⟨r2, h2.keep fun g hg => hb g (by simp [Nd.bl, vb, hg]), h2'.imp fun _ _ h => kBk.mv h m⟩⟩

/-- the nodes of a set, in memory of their own and clear of X -/
structure Store (w : World) (X : List Nat) (Γ : List Nd) : Prop where
  nd : (bls Γ).Nodup
  out : ∀ b ∈ bls Γ, b ∉ X
  each : ∀ n ∈ Γ, IsNd w (bls Γ ++ X) n

theorem Store.lt {w : World} {X : List Nat} {Γ : List Nd} (h : Store w X Γ) : ∀ b ∈ bls Γ, b < w.heap.size := fun b hb => by
  obtain ⟨n, hn, hb⟩ := List.mem_flatMap.1 hb
  exact (h.each n hn).lt b hb
theorem Store.ext {w w' : World} {X : List Nat} {Γ : List Nd} (h : Store w X Γ) (hE : Ext w w') : Store w' X Γ :=
  ⟨h.nd, h.out, fun n hn => (h.each n hn).mv (hE.mv _) fun b hb => hE.below.block b ((h.each n hn).lt b hb)⟩
theorem Store.less {w : World} {X Y : List Nat} {Γ : List Nd} (h : Store w X Γ) (hY : ∀ b ∈ Y, b ∈ X) : Store w Y Γ :=
  ⟨h.nd, fun b hb hy => h.out b hb (hY b hy), fun n hn => (h.each n hn).mv ((Mv.refl _ _).less fun b hb => by
    rcases List.mem_append.1 hb with hb | hb
    · exact List.mem_append_left _ hb
    · exact List.mem_append_right _ (hY b hb)) fun _ _ => rfl⟩
theorem Store.mut {w w' : World} {X Y B : List Nat} {Γ : List Nd} (h : Store w X Γ) (hM : Mut w B w') (hB : ∀ b ∈ B, b ∈ X) (hY : ∀ b ∈ Y, b ∈ X ∨ w.heap.size ≤ b) : Store w' Y Γ :=
  ⟨h.nd, fun b hb hy => by
    rcases hY b hy with hx | hx
    · exact h.out b hb hx
    · have := h.lt b hb; omega, fun n hn => (h.each n hn).mv ⟨hM.size, fun k hk hx => by
      simp only [List.mem_append, not_or] at hx
      refine ⟨hM.block k hk fun hb => hx.2 (hB k hb), ?_⟩
      simp only [List.mem_append, not_or]
      exact ⟨hx.1, fun hy => (hY k hy).elim hx.2 (fun h => by omega)⟩⟩ fun b hb => hM.block b ((h.each n hn).lt b hb) fun hbB => h.out b (List.mem_flatMap.2 ⟨n, hn, hb⟩) (hB b hbB)⟩
theorem bls_app (A B : List Nd) : bls (A ++ B) = bls A ++ bls B := List.flatMap_append ..
/-- a part of the nodes by itself -/
theorem Store.part {w : World} {X : List Nat} {A N B : List Nd} (h : Store w X (A ++ N ++ B)) : Store w (bls (A ++ B) ++ X) N := by
  have hn := h.nd
  simp only [bls_app] at hn
  have hn1 := List.nodup_append.1 hn
  have hn2 := List.nodup_append.1 hn1.1
  refine ⟨hn2.2.1, fun b hb hx => ?_, fun n hN => ?_⟩
  · simp only [bls_app, List.mem_append] at hx
    rcases hx with (hx | hx) | hx
    · exact hn2.2.2 b hx b hb rfl
    · exact hn1.2.2 b (List.mem_append_right _ hb) b hx rfl
    · exact h.out b (by simp only [bls_app, List.mem_append]; exact .inl (.inr hb)) hx
  · refine (h.each n (by simp [hN])).mv ((Mv.refl _ _).less fun b hb => ?_) fun _ _ => rfl
    simp only [bls_app, List.mem_append] at hb ⊢
    rcases hb with hb | (hb | hb) | hb
    · exact .inl (.inl (.inr hb))
    · exact .inl (.inl (.inl hb))
    · exact .inl (.inr hb)
    · exact .inr hb
/-- a part of the nodes put back after a change -/
theorem Store.join {w w' : World} {X : List Nat} {A N N' B : List Nd} (h : Store w X (A ++ N ++ B)) (hM : Mut w (bls N) w') (h' : Store w' (bls (A ++ B) ++ X) N') (hN : ∀ b ∈ bls N', b ∈ bls N ∨ w.heap.size ≤ b) : Store w' X (A ++ N' ++ B) := by
  have hn := h.nd
  simp only [bls_app] at hn
  have hn1 := List.nodup_append.1 hn
  have hn2 := List.nodup_append.1 hn1.1
  have hmv : Mv w (bls (A ++ N ++ B) ++ X) w' (bls (A ++ N' ++ B) ++ X) := ⟨hM.size, fun k hk hx => by
    simp only [bls_app, List.mem_append, not_or] at hx ⊢
    exact ⟨hM.block k hk hx.1.1.2, ⟨⟨hx.1.1.1, fun hb => (hN k hb).elim hx.1.1.2 (fun h => by omega)⟩, hx.1.2⟩, hx.2⟩⟩
  have hout : ∀ n ∈ A ++ B, ∀ b ∈ n.bl, w'.heap[b]? = w.heap[b]? := fun n hn b hb => by
    have hnn : n ∈ A ++ N ++ B := by
      rcases List.mem_append.1 hn with hn | hn
      · exact List.mem_append_left _ (List.mem_append_left _ hn)
      · exact List.mem_append_right _ hn
    refine hM.block b ((h.each n hnn).lt b hb) fun hbN => ?_
    rcases List.mem_append.1 hn with hn | hn
    · exact hn2.2.2 b (List.mem_flatMap.2 ⟨n, hn, hb⟩) b hbN rfl
    · exact hn1.2.2 b (List.mem_append_right _ hbN) b (List.mem_flatMap.2 ⟨n, hn, hb⟩) rfl
  refine ⟨?_, fun b hb hx => ?_, fun n hn => ?_⟩
  · simp only [bls_app]
    refine List.nodup_append.2 ⟨List.nodup_append.2 ⟨hn2.1, h'.nd, fun a ha b hb e => ?_⟩, hn1.2.1, fun a ha b hb e => ?_⟩
    · subst e; exact h'.out a hb (by simp only [bls_app, List.mem_append]; exact .inl (.inl ha))
    · subst e
      rcases List.mem_append.1 ha with ha | ha
      · exact hn1.2.2 a (List.mem_append_left _ ha) a hb rfl
      · exact h'.out a ha (by simp only [bls_app, List.mem_append]; exact .inl (.inr hb))
  · simp only [bls_app, List.mem_append] at hb
    rcases hb with (hb | hb) | hb
    · exact h.out b (by simp only [bls_app, List.mem_append]; exact .inl (.inl hb)) hx
    · exact h'.out b hb (by simp only [bls_app, List.mem_append]; exact .inr hx)
    · exact h.out b (by simp only [bls_app, List.mem_append]; exact .inr hb) hx
  · rcases List.mem_append.1 hn with hn | hn
    · rcases List.mem_append.1 hn with hn | hn
      · exact (h.each n (by simp [hn])).mv hmv (hout n (by simp [hn]))
      · refine (h'.each n hn).mv ((Mv.refl _ _).less fun b hb => ?_) fun _ _ => rfl
        simp only [bls_app, List.mem_append] at hb ⊢
        rcases hb with ((hb | hb) | hb) | hb
        · exact .inr (.inl (.inl hb))
        · exact .inl hb
        · exact .inr (.inl (.inr hb))
        · exact .inr (.inr hb)
    · exact (h.each n (by simp [hn])).mv hmv (hout n (by simp [hn]))

/-- a set that paths are put into, as a tree: each node bears its block and its two slices -/
abbrev BT := Tr (Nat × Value × Value) PEl
def BT.b (t : BT) : Nat := t.tag.1
def ksOf (cs : List (PEl × BT)) : List (PEl × Nat) := cs.map fun p => (p.1, BT.b p.2)
mutual
def BT.flat : BT → List Nd
  | .mk t ms cs => ⟨t.1, t.2.1, t.2.2, ms, ksOf cs⟩ :: BT.flatL cs
def BT.flatL : List (PEl × BT) → List Nd
  | [] => []
  | p :: cs => BT.flatP p ++ BT.flatL cs
def BT.flatP : PEl × BT → List Nd
  | (_, s) => BT.flat s
end
theorem BT.flatL_app (A B : List (PEl × BT)) : BT.flatL (A ++ B) = BT.flatL A ++ BT.flatL B := by
  induction A with
  | nil => simp [BT.flatL]
  | cons p A ih => simp [BT.flatL, ih]
theorem BT.flat_eq (t : Nat × Value × Value) (ms : List PEl) (cs : List (PEl × BT)) : BT.flat (.mk t ms cs) = ⟨t.1, t.2.1, t.2.2, ms, ksOf cs⟩ :: BT.flatL cs := by rw [BT.flat]
theorem BT.flatL_mid (A B : List (PEl × BT)) (x : PEl) (s : BT) : BT.flatL (A ++ (x, s) :: B) = BT.flatL A ++ BT.flat s ++ BT.flatL B := by
  rw [BT.flatL_app, BT.flatL, BT.flatP, List.append_assoc]
end Go.Proofs.YtihapgangilncaaGreat
