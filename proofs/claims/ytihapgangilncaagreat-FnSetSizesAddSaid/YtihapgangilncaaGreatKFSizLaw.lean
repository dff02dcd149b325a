/- impl.SetUnion, impl.SetIntersection (printed by gen_setuni.py). The law FnSetSizesAdd. -/
import Derived.Test.YtihapgangilncaaGreatKFSetUni
import Derived.Test.YtihapgangilncaaGreatKFSizeN
import Derived.Test.YtihapgangilncaaGreatKFOrdP
namespace Go.Proofs.YtihapgangilncaaGreat
open Go.RowKit
set_option linter.unusedSimpArgs false

set_option maxRecDepth 100000 in
set_option maxHeartbeats 4000000 in
set_option pp.maxSteps 1000000 in
set_option pp.deepTerms true in
theorem implSetUnion_c {w : World} {X : List Nat} {va vb' : Value} {a b : List (List EL)} (ha : IsSl kPth 24 w X va a) (hb : IsSl kPth 24 w X vb' b) (hX : Old X w) (hGa : ∀ p ∈ a, GP GoodE (p.map toE)) (hGb : ∀ p ∈ b, GP GoodE (p.map toE)) (hby : (a.length + b.length + 1) * 40 ≤ 140737488351232) (R : Ending → World → Prop)
    (hR : ∀ w' v' (L : List (List PEl)), Ext w w' → IsSl kPth 24 w' X v' (L.map (·.map backE)) → (∀ p ∈ L, GP GoodE p) → (∀ p ∈ L, p ≠ []) → L.length ≤ a.length + b.length → (∀ q, GP GoodE q → (hasC (wc cmpPe) L q ↔ memP a q ∨ memP b q)) → R (.returned v') w') : Calls Tryz.prog 28 #[va, vb'] w R := by
  have hao := ha.one
  have hbo := hb.one
  have ha' := Lib.hid ha
  have hb' := Lib.hid hb
  have hX' := Lib.hid hX
  have hGa' := Lib.hid hGa
  have hGb' := Lib.hid hGb
  have hby' := Lib.hid hby
  have hR' := Lib.hid hR
  clear ha hb hX hGa hGb hby hR
  go_enter Tryz.func28, Tryz.ntmps28
  go_wp2_with fail
  refine toSetR_c ha'.out hX'.out hGa'.out (Nat.le_trans (Nat.mul_le_mul_right 40 (by omega)) hby'.out) _ ?_
  intro w1 sv s d hE1 hs hwf hhas
  have hso := (kSt d).one hs sv (by simp)
  have hs' := Lib.hid hs
  have hwf' := Lib.hid hwf
  have hhas' := Lib.hid hhas
  clear hs hwf hhas
  dsimp only
  go_wp2_with fail
  refine toSetR_c (hb'.out.mv (hE1.mv X) (by decide)) (hX'.out.le hE1.size) hGb'.out (Nat.le_trans (Nat.mul_le_mul_right 40 (by omega)) hby'.out) _ ?_
  intro w2 tv t e hE2 ht hwt hhat
  have hto := (kSt e).one ht tv (by simp)
  have hpa : s.paths.length ≤ a.length := memP_pigeon hGa'.out (Tr.paths_srt goodE_ord hwf'.out).dst (Tr.paths_good hwf'.out) fun p hp => (hhas'.out p (Tr.paths_good hwf'.out p hp)).1 (hasC_self (wc_ord goodE_ord) hp)
  have hpb : t.paths.length ≤ b.length := memP_pigeon hGb'.out (Tr.paths_srt goodE_ord hwt).dst (Tr.paths_good hwt) fun p hp => (hhat p (Tr.paths_good hwt p hp)).1 (hasC_self (wc_ord goodE_ord) hp)
  obtain ⟨D, hD1, hD2⟩ : ∃ D, d ≤ D ∧ e ≤ D := ⟨max d e, Nat.le_max_left d e, Nat.le_max_right d e⟩
  have hs2 := (kSt_le hD1).2 ((kSt d).mv hs'.out (hE2.mv X))
  have ht2 := (kSt_le hD2).2 ht
  have hD := unionT_law goodE_ord D (kSt_depU hs2) hwf'.out hwt
  have hin : ∀ q, GP GoodE q → (Tr.has cmpPe (unionT cmpPe D s t) q ↔ memP a q ∨ memP b q) := fun q hq => (hD.2 q hq).trans (or_congr (hhas'.out q hq) (hhat q hq))
  have hgs := Tr.paths_good hD.1
  have hpl : (unionT cmpPe D s t).paths.length ≤ a.length + b.length := by
    have := memP_pigeon (l := a ++ b) (fun p hp => (List.mem_append.1 hp).elim (hGa'.out p) (hGb'.out p)) (Tr.paths_srt goodE_ord hD.1).dst hgs fun p hp => by
      have h3 := (hin p (hgs p hp)).1 (hasC_self (wc_ord goodE_ord) hp)
      have h4 : memP a p ∨ memP b p := h3
      rcases h4 with ⟨r, hr, h5⟩ | ⟨r, hr, h5⟩
      · exact ⟨r, by rw [List.map_append]; exact List.mem_append_left _ hr, h5⟩
      · exact ⟨r, by rw [List.map_append]; exact List.mem_append_right _ hr, h5⟩
    rwa [List.length_append] at this
  have hp168 : ∀ q ∈ (unionT cmpPe D s t).paths, q.length * 168 ≤ 140737488351232 := fun q hq => by
    have h3 := (hin q (hgs q hq)).1 (hasC_self (wc_ord goodE_ord) hq)
    rcases h3 with h | h
    · exact memP_len ha'.out h
    · exact memP_len hb'.out h
  have hs2' := Lib.hid hs2
  have ht2' := Lib.hid ht2
  have hwt' := Lib.hid hwt
  have hD' := Lib.hid hD.1
  have hin' := Lib.hid hin
  have hgs' := Lib.hid hgs
  have hpl' := Lib.hid hpl
  have hpa' := Lib.hid hpa
  have hpb' := Lib.hid hpb
  have hp168' := Lib.hid hp168
  clear hs2 ht2 hwt ht hhat hD hin hgs hpl hp168 hpa hpb
  dsimp only
  go_wp2_with fail
  refine setUnion_all D hs2'.out ht2'.out hwf'.out hwt'.out (Nat.le_trans (Nat.mul_le_mul_right 40 (by have := hpa'.out; have := hpb'.out; omega)) hby'.out) (hX'.out.le (Nat.le_trans hE1.size hE2.size)) _ ?_
  intro w3 uv hE3 hu
  have huo := (kSt D).one hu uv (by simp)
  have hu' := Lib.hid hu
  clear hu
  dsimp only
  go_wp2_with fail
  refine fromSet_c (G := GoodE) hu'.out hD'.out (hX'.out.le (Nat.le_trans hE1.size (Nat.le_trans hE2.size hE3.size))) (fun x hx => goodE_small hx) hp168'.out (Nat.le_trans (Nat.mul_le_mul (by have := hpl'.out; omega) (by decide : 24 ≤ 40)) hby'.out) _ ?_
  intro w4 v4 hE4 hv4
  have hv4o := hv4.one
  have hv4' := Lib.hid hv4
  clear hv4
  dsimp only
  go_wp2_with fail
  exact hR'.out w4 v4 _ (((hE1.trans hE2).trans hE3).trans hE4) hv4'.out hgs'.out (fun p hp => Tr.paths_ne hp) hpl'.out hin'.out

set_option maxRecDepth 100000 in
set_option maxHeartbeats 4000000 in
set_option pp.maxSteps 1000000 in
set_option pp.deepTerms true in
theorem implSetInter_c {w : World} {X : List Nat} {va vb' : Value} {a b : List (List EL)} (ha : IsSl kPth 24 w X va a) (hb : IsSl kPth 24 w X vb' b) (hX : Old X w) (hGa : ∀ p ∈ a, GP GoodE (p.map toE)) (hGb : ∀ p ∈ b, GP GoodE (p.map toE)) (hby : (a.length + b.length + 1) * 40 ≤ 140737488351232) (R : Ending → World → Prop)
    (hR : ∀ w' v' (L : List (List PEl)), Ext w w' → IsSl kPth 24 w' X v' (L.map (·.map backE)) → (∀ p ∈ L, GP GoodE p) → (∀ p ∈ L, p ≠ []) → L.length ≤ a.length + b.length → (∀ q, GP GoodE q → (hasC (wc cmpPe) L q ↔ memP a q ∧ memP b q)) → R (.returned v') w') : Calls Tryz.prog 29 #[va, vb'] w R := by
  have hao := ha.one
  have hbo := hb.one
  have ha' := Lib.hid ha
  have hb' := Lib.hid hb
  have hX' := Lib.hid hX
  have hGa' := Lib.hid hGa
  have hGb' := Lib.hid hGb
  have hby' := Lib.hid hby
  have hR' := Lib.hid hR
  clear ha hb hX hGa hGb hby hR
  go_enter Tryz.func29, Tryz.ntmps29
  go_wp2_with fail
  refine toSetR_c ha'.out hX'.out hGa'.out (Nat.le_trans (Nat.mul_le_mul_right 40 (by omega)) hby'.out) _ ?_
  intro w1 sv s d hE1 hs hwf hhas
  have hso := (kSt d).one hs sv (by simp)
  have hs' := Lib.hid hs
  have hwf' := Lib.hid hwf
  have hhas' := Lib.hid hhas
  clear hs hwf hhas
  dsimp only
  go_wp2_with fail
  refine toSetR_c (hb'.out.mv (hE1.mv X) (by decide)) (hX'.out.le hE1.size) hGb'.out (Nat.le_trans (Nat.mul_le_mul_right 40 (by omega)) hby'.out) _ ?_
  intro w2 tv t e hE2 ht hwt hhat
  have hto := (kSt e).one ht tv (by simp)
  have hpa : s.paths.length ≤ a.length := memP_pigeon hGa'.out (Tr.paths_srt goodE_ord hwf'.out).dst (Tr.paths_good hwf'.out) fun p hp => (hhas'.out p (Tr.paths_good hwf'.out p hp)).1 (hasC_self (wc_ord goodE_ord) hp)
  have hpb : t.paths.length ≤ b.length := memP_pigeon hGb'.out (Tr.paths_srt goodE_ord hwt).dst (Tr.paths_good hwt) fun p hp => (hhat p (Tr.paths_good hwt p hp)).1 (hasC_self (wc_ord goodE_ord) hp)
  obtain ⟨D, hD1, hD2⟩ : ∃ D, d ≤ D ∧ e ≤ D := ⟨max d e, Nat.le_max_left d e, Nat.le_max_right d e⟩
  have hs2 := (kSt_le hD1).2 ((kSt d).mv hs'.out (hE2.mv X))
  have ht2 := (kSt_le hD2).2 ht
  have hD := interT_law goodE_ord D (kSt_depU hs2) hwf'.out hwt
  have hin : ∀ q, GP GoodE q → (Tr.has cmpPe (interT cmpPe D s t) q ↔ memP a q ∧ memP b q) := fun q hq => (hD.2 q hq).trans (and_congr (hhas'.out q hq) (hhat q hq))
  have hgs := Tr.paths_good hD.1
  have hpl : (interT cmpPe D s t).paths.length ≤ a.length + b.length := by
    have := memP_pigeon (l := a ++ b) (fun p hp => (List.mem_append.1 hp).elim (hGa'.out p) (hGb'.out p)) (Tr.paths_srt goodE_ord hD.1).dst hgs fun p hp => by
      have h3 := (hin p (hgs p hp)).1 (hasC_self (wc_ord goodE_ord) hp)
      have h4 : memP a p ∨ memP b p := .inl h3.1
      rcases h4 with ⟨r, hr, h5⟩ | ⟨r, hr, h5⟩
      · exact ⟨r, by rw [List.map_append]; exact List.mem_append_left _ hr, h5⟩
      · exact ⟨r, by rw [List.map_append]; exact List.mem_append_right _ hr, h5⟩
    rwa [List.length_append] at this
  have hp168 : ∀ q ∈ (interT cmpPe D s t).paths, q.length * 168 ≤ 140737488351232 := fun q hq => by
    have h3 := (hin q (hgs q hq)).1 (hasC_self (wc_ord goodE_ord) hq)
    exact memP_len ha'.out h3.1
  have hs2' := Lib.hid hs2
  have ht2' := Lib.hid ht2
  have hwt' := Lib.hid hwt
  have hD' := Lib.hid hD.1
  have hin' := Lib.hid hin
  have hgs' := Lib.hid hgs
  have hpl' := Lib.hid hpl
  have hpa' := Lib.hid hpa
  have hpb' := Lib.hid hpb
  have hp168' := Lib.hid hp168
  clear hs2 ht2 hwt ht hhat hD hin hgs hpl hp168 hpa hpb
  dsimp only
  go_wp2_with fail
  refine setInter_all D hs2'.out ht2'.out hwf'.out hwt'.out (Nat.le_trans (Nat.mul_le_mul_right 40 (by have := hpa'.out; have := hpb'.out; omega)) hby'.out) (hX'.out.le (Nat.le_trans hE1.size hE2.size)) _ ?_
  intro w3 uv hE3 hu
  have huo := (kSt D).one hu uv (by simp)
  have hu' := Lib.hid hu
  clear hu
  dsimp only
  go_wp2_with fail
  refine fromSet_c (G := GoodE) hu'.out hD'.out (hX'.out.le (Nat.le_trans hE1.size (Nat.le_trans hE2.size hE3.size))) (fun x hx => goodE_small hx) hp168'.out (Nat.le_trans (Nat.mul_le_mul (by have := hpl'.out; omega) (by decide : 24 ≤ 40)) hby'.out) _ ?_
  intro w4 v4 hE4 hv4
  have hv4o := hv4.one
  have hv4' := Lib.hid hv4
  clear hv4
  dsimp only
  go_wp2_with fail
  exact hR'.out w4 v4 _ (((hE1.trans hE2).trans hE3).trans hE4) hv4'.out hgs'.out (fun p hp => Tr.paths_ne hp) hpl'.out hin'.out

end Go.Proofs.YtihapgangilncaaGreat
namespace Go.Proofs.YtihapgangilncaaGreat
open Go.RowKit
set_option linter.unusedSimpArgs false

set_option maxRecDepth 100000 in
set_option maxHeartbeats 8000000 in
set_option pp.maxSteps 1000000 in
set_option pp.deepTerms true in
theorem fnSetSizesAdd_law {w : World} {va vb' : Value} {a b : List (List EL)} (ha : IsSl kPth 24 w [] va a) (hb : IsSl kPth 24 w [] vb' b) : Calls Tryz.prog 8 #[va, vb'] w fun e w' => e = .returned (.bool true) ∧ Below w.heap.size w w' := by
  suffices h : ∀ R : Ending → World → Prop, Ends R w (.bool true) → Calls Tryz.prog 8 #[va, vb'] w R from h _ (fun w' hE => ⟨rfl, hE⟩)
  intro R hR
  obtain ⟨o, c, _, _, rfl, -⟩ := id ha.ex
  obtain ⟨o2, c2, _, _, rfl, -⟩ := id hb.ex
  have ha' := Lib.hid ha
  have hb' := Lib.hid hb
  have hR' := Lib.hid hR
  clear hR ha hb
  by_cases h1 : (a.length : Int) > 2147483647
  · have h1b : (2147483647 : Int) < (a.length : Int) := h1
    go_enter Tryz.func8, Tryz.ntmps8
    go_wp2_with fail
    exact hR'.out _ (Ext.refl _)
  have h1b : ¬ (2147483647 : Int) < (a.length : Int) := h1
  by_cases h2 : (b.length : Int) > 2147483647
  · have h2b : (2147483647 : Int) < (b.length : Int) := h2
    go_enter Tryz.func8, Tryz.ntmps8
    go_wp2_with fail
    exact hR'.out _ (Ext.refl _)
  have h2b : ¬ (2147483647 : Int) < (b.length : Int) := h2
  have n1 := Lib.hid (show a.length ≤ 2147483647 by omega)
  have n2 := Lib.hid (show b.length ≤ 2147483647 by omega)
  clear h1 h2
  go_enter Tryz.func8, Tryz.ntmps8
  go_wp2_with fail
  refine both_c ha'.out hb'.out (Old.nil _) (by have := n1.out; have := n2.out; omega) _ ?_
  intro w1 bv hE1 hbv
  have hbo := hbv.one
  have hbv' := Lib.hid hbv
  clear hbv
  dsimp only
  go_wp2_with fail
  refine orderlyPaths_c hbv'.out _ ?_
  intro t1 ht1 w2 hE2
  have ht1' := Lib.hid ht1
  clear ht1
  dsimp only
  cases t1
  · go_wp2_with fail
    exact hR'.out _ (hE1.trans hE2)
  have hG := good_list hbv'.out (ht1'.out rfl)
  have hGa := Lib.hid (show ∀ p ∈ a, GP GoodE (p.map toE) from fun p hp => hG p (List.mem_append_left _ hp))
  have hGb := Lib.hid (show ∀ p ∈ b, GP GoodE (p.map toE) from fun p hp => hG p (List.mem_append_right _ hp))
  have hE12 := hE1.trans hE2
  clear hG ht1' hE1 hE2 hbv'
  go_wp2_with fail
  refine implSetUnion_c (ha'.out.mv (hE12.mv []) (by decide)) (hb'.out.mv (hE12.mv []) (by decide)) (Old.nil _) hGa.out hGb.out (by have := n1.out; have := n2.out; omega) _ ?_
  intro w3 uv U hE3 hu hug hun hul huh
  have huo := hu.one
  have hGu := Lib.hid (back_toE hug)
  have hum := Lib.hid (show ∀ q, GP GoodE q → (memP (U.map (·.map backE)) q ↔ memP a q ∨ memP b q) from fun q hq => (memP_back hug hun q).trans (huh q hq))
  have hul' := Lib.hid (show (U.map (·.map backE)).length ≤ a.length + b.length by rw [List.length_map]; exact hul)
  generalize U.map (·.map backE) = u at *
  have hu' := Lib.hid hu
  have hE13 := hE12.trans hE3
  clear hu hug hun hul huh hE12 hE3
  dsimp only
  go_wp2_with fail
  refine implSetInter_c (ha'.out.mv (hE13.mv []) (by decide)) (hb'.out.mv (hE13.mv []) (by decide)) (Old.nil _) hGa.out hGb.out (by have := n1.out; have := n2.out; omega) _ ?_
  intro w4 iv V hE4 hi hig hin hil hih
  have hio := hi.one
  have hGi := Lib.hid (back_toE hig)
  have him := Lib.hid (show ∀ q, GP GoodE q → (memP (V.map (·.map backE)) q ↔ memP a q ∧ memP b q) from fun q hq => (memP_back hig hin q).trans (hih q hq))
  have hil' := Lib.hid (show (V.map (·.map backE)).length ≤ a.length + b.length by rw [List.length_map]; exact hil)
  generalize V.map (·.map backE) = l at *
  have hi' := Lib.hid hi
  have hu4 := Lib.hid (hu'.out.mv (hE4.mv []) (by decide))
  have hE14 := Lib.hid (hE13.trans hE4)
  have ha4 := Lib.hid (ha'.out.mv (hE14.out.mv []) (by decide))
  have hb4 := Lib.hid (hb'.out.mv (hE14.out.mv []) (by decide))
  have hsum := nP_add hGa.out hGb.out hGu.out hGi.out hum.out him.out
  have hzer := nP_union0 hGa.out hGb.out hGu.out hum.out
  have ba := (nP_facts hGa.out).2.2.2
  have bb := (nP_facts hGb.out).2.2.2
  obtain ⟨nu, hnu⟩ : ∃ n, nP u = n := ⟨_, rfl⟩
  obtain ⟨ni, hni⟩ : ∃ n, nP l = n := ⟨_, rfl⟩
  obtain ⟨na, hna⟩ : ∃ n, nP a = n := ⟨_, rfl⟩
  obtain ⟨nb, hnb⟩ : ∃ n, nP b = n := ⟨_, rfl⟩
  rw [hnu, hni, hna, hnb] at hsum
  rw [hnu, hna, hnb] at hzer
  rw [hna] at ba
  rw [hnb] at bb
  have hnu' := Lib.hid hnu
  have hni' := Lib.hid hni
  have hna' := Lib.hid hna
  have hnb' := Lib.hid hnb
  have k1 : IntKind.i64.wrap ((nu : Int) + (ni : Int)) = (na : Int) + (nb : Int) := by rw [show (nu : Int) + (ni : Int) = (na : Int) + (nb : Int) by omega]; exact IntWalk.i64_in _ (by have := n1.out; have := n2.out; omega)
  have k2 : IntKind.i64.wrap ((na : Int) + (nb : Int)) = (na : Int) + (nb : Int) := IntWalk.i64_in _ (by have := n1.out; have := n2.out; omega)
  have hbu := Lib.hid (show (u.length + 1) * 168 ≤ 140737488351232 by have := n1.out; have := n2.out; have := hul'.out; omega)
  have hbl := Lib.hid (show (l.length + 1) * 168 ≤ 140737488351232 by have := n1.out; have := n2.out; have := hil'.out; omega)
  have hba := Lib.hid (show (a.length + 1) * 168 ≤ 140737488351232 by have := n1.out; omega)
  have hbb := Lib.hid (show (b.length + 1) * 168 ≤ 140737488351232 by have := n2.out; omega)
  obtain ⟨ri, hri⟩ : ∃ r, decide (ni = 0) = r := ⟨_, rfl⟩
  obtain ⟨ru, hru⟩ : ∃ r, decide (nu = 0) = r := ⟨_, rfl⟩
  have k3 : ((ni : Int) == 0) = ri := by rw [← hri, Bool.eq_iff_iff]; simp; try omega
  have k4 : ((na : Int) + (nb : Int) == 0) = ru := by rw [← hru, Bool.eq_iff_iff]; simp; try omega
  have hri' := Lib.hid hri
  have hru' := Lib.hid hru
  clear hi hig hin hil hih hE13 hE4 hsum hzer ba bb hnu hni hna hnb hri hru
  dsimp only
  go_wp2_with fail
  refine setSizeN_c hu4.out (Old.nil _) hGu.out hbu.out _ ?_
  rw [hnu'.out]
  intro w5 hE5
  have hE5' := Lib.hid hE5
  clear hE5
  dsimp only
  go_wp2_with fail
  refine setSizeN_c (hi'.out.mv (hE5'.out.mv []) (by decide)) (Old.nil _) hGi.out hbl.out _ ?_
  rw [hni'.out]
  intro w6 hE6
  have hE6' := Lib.hid (hE5'.out.trans hE6)
  clear hE6
  dsimp only
  go_wp2_with fail
  refine setSizeN_c (ha4.out.mv (hE6'.out.mv []) (by decide)) (Old.nil _) hGa.out hba.out _ ?_
  rw [hna'.out]
  intro w7 hE7
  have hE7' := Lib.hid (hE6'.out.trans hE7)
  clear hE7
  dsimp only
  go_wp2_with fail
  refine setSizeN_c (hb4.out.mv (hE7'.out.mv []) (by decide)) (Old.nil _) hGb.out hbb.out _ ?_
  rw [hnb'.out]
  intro w8 hE8
  have hE8' := Lib.hid (hE7'.out.trans hE8)
  clear hE8
  dsimp only
  go_wp2_with fail
  refine setEmptyN_c (hi'.out.mv (hE8'.out.mv []) (by decide)) (Old.nil _) hGi.out hbl.out _ ?_
  rw [hni'.out, hri'.out]
  intro w9 hE9
  have hE9' := Lib.hid (hE8'.out.trans hE9)
  clear hE9
  dsimp only
  go_wp2_with fail
  refine setSizeN_c (hi'.out.mv (hE9'.out.mv []) (by decide)) (Old.nil _) hGi.out hbl.out _ ?_
  rw [hni'.out]
  intro w10 hE10
  have hE10' := Lib.hid (hE9'.out.trans hE10)
  clear hE10
  dsimp only
  go_wp2_with fail
  refine setEmptyN_c (hu4.out.mv (hE10'.out.mv []) (by decide)) (Old.nil _) hGu.out hbu.out _ ?_
  rw [hnu'.out, hru'.out]
  intro w11 hE11
  have hE11' := Lib.hid (hE10'.out.trans hE11)
  clear hE11
  dsimp only
  go_wp2_with fail
  refine setSizeN_c (ha4.out.mv (hE11'.out.mv []) (by decide)) (Old.nil _) hGa.out hba.out _ ?_
  rw [hna'.out]
  intro w12 hE12
  have hE12' := Lib.hid (hE11'.out.trans hE12)
  clear hE12
  dsimp only
  go_wp2_with fail
  refine setSizeN_c (hb4.out.mv (hE12'.out.mv []) (by decide)) (Old.nil _) hGb.out hbb.out _ ?_
  rw [hnb'.out]
  intro w13 hE13
  dsimp only
  go_wp2_with fail
  exact hR'.out w13 (hE14.out.trans (hE12'.out.trans hE13))
end Go.Proofs.YtihapgangilncaaGreat
