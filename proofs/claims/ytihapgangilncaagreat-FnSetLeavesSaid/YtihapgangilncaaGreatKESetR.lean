/- Sets that paths were put into, as sets to read; spec.Listed, spec.EqualSets, laws.lists. -/
import Derived.Test.YtihapgangilncaaGreatKESetIns
import Derived.Test.YtihapgangilncaaGreatKESpecSet
import Derived.Test.YtihapgangilncaaGreatKEFromSet
namespace Go.Proofs.YtihapgangilncaaGreat
open Go.RowKit
set_option linter.unusedSimpArgs false

mutual
def Tr.erase {β α : Type} : Tr β α → Tr Unit α
  | .mk _ ms cs => .mk () ms (Tr.eraseL cs)
def Tr.eraseL {β α : Type} : List (α × Tr β α) → List (α × Tr Unit α)
  | [] => []
  | p :: cs => Tr.eraseP p :: Tr.eraseL cs
def Tr.eraseP {β α : Type} : α × Tr β α → α × Tr Unit α
  | (e, s) => (e, Tr.erase s)
end
theorem Tr.eraseL_eq {β α : Type} (cs : List (α × Tr β α)) : Tr.eraseL cs = cs.map fun p => (p.1, p.2.erase) := by
  induction cs with
  | nil => simp [Tr.eraseL]
  | cons p cs ih => obtain ⟨e, s⟩ := p; simp [Tr.eraseL, Tr.eraseP, ih]
theorem Tr.erase_eq {β α : Type} (t : β) (ms : List α) (cs : List (α × Tr β α)) : (Tr.mk t ms cs).erase = .mk () ms (cs.map fun p => (p.1, p.2.erase)) := by rw [Tr.erase, Tr.eraseL_eq]
theorem Tr.erase_paths {β α : Type} (s : Tr β α) : s.erase.paths = s.paths := by
  induction s using Tr.ind with
  | h t ms cs ih =>
    rw [Tr.erase_eq, Tr.paths_eq, Tr.paths_eq (.mk t ms cs)]
    simp only [Tr.ms, Tr.cs, List.flatMap_map]
    congr 1
    have : ∀ l : List (α × Tr β α), (∀ p ∈ l, p.2.erase.paths = p.2.paths) → (l.flatMap fun p => p.2.erase.paths.map (p.1 :: ·)) = l.flatMap fun p => p.2.paths.map (p.1 :: ·) := by
      intro l
      induction l with
      | nil => simp
      | cons p l ihl =>
        intro h
        rw [List.flatMap_cons, List.flatMap_cons, h p (by simp), ihl fun q hq => h q (by simp [hq])]
    exact this cs ih
theorem Tr.erase_wf {β α : Type} {c : α → α → Int} {G : α → Prop} {s : Tr β α} (h : s.Wf c G) : s.erase.Wf c G := by
  induction s using Tr.ind with
  | h t ms cs ih =>
    cases h with
    | mk h1 h2 h3 h4 h5 h6 =>
      rw [Tr.erase_eq]
      refine .mk h1 h2 (by rw [List.map_map]; exact h3) (fun p hp => ?_) (fun p hp => ?_) (fun p hp => ?_) <;> obtain ⟨q, hq, rfl⟩ := List.mem_map.1 hp
      · exact h4 q hq
      · rw [Tr.erase_paths]; exact h5 q hq
      · exact ih q hq (h6 q hq)
theorem Tr.erase_has {β α : Type} {c : α → α → Int} {s : Tr β α} {q : List α} : s.erase.has c q ↔ s.has c q := by unfold Tr.has; rw [Tr.erase_paths]

theorem kid_len' {ms : List PEl} {t0 : Nat × Value × Value} {cs : List (PEl × BT)} {p : PEl × BT} (hp : p ∈ cs) : p.2.paths.length ≤ (Tr.mk t0 ms cs).paths.length := by
  obtain ⟨A, B, rfl⟩ := List.append_of_mem hp
  obtain ⟨x, s⟩ := p
  exact kid_len
theorem flat_kid {cs : List (PEl × BT)} {p : PEl × BT} (hp : p ∈ cs) : ∀ n ∈ BT.flat p.2, n ∈ BT.flatL cs := fun n hn => by
  obtain ⟨A, B, rfl⟩ := List.append_of_mem hp
  obtain ⟨x, s⟩ := p
  rw [BT.flatL_mid]
  simp [hn]
/-- a set that paths were put into can be read -/
theorem store_read {G : PEl → Prop} {w : World} {X : List Nat} {Γ : List Nd} (hs : Store w X Γ) (t : BT) : (∀ n ∈ BT.flat t, n ∈ Γ) → Tr.Wf cmpPe G t → t.paths.length * 40 ≤ 140737488351232 → ∃ d, (kSt d).is w X [.pointer (some ⟨BT.b t, 0, none⟩)] t.erase := by
  induction t using Tr.ind with
  | h tg ms cs ih =>
    intro hin hwf hlen
    obtain ⟨b, vm, vc⟩ := tg
    obtain ⟨s1, s2, s3, s4, s5, s6⟩ := Tr.wf_parts hwf
    simp only [Tr.cs] at s6
    have hn := hin ⟨b, vm, vc, ms, ksOf cs⟩ (by rw [BT.flat_eq]; simp)
    have hnd := hs.each _ hn
    have hbl : ∀ g ∈ Nd.bl ⟨b, vm, vc, ms, ksOf cs⟩, g ∉ X := fun g hg => hs.out g (List.mem_flatMap.2 ⟨_, hn, hg⟩)
    have hml : ms.length ≤ (Tr.mk (b, vm, vc) ms cs).paths.length := ms_len (s := .mk (b, vm, vc) ms cs)
    have hcl : cs.length ≤ (Tr.mk (b, vm, vc) ms cs).paths.length := cs_len hwf
    have hkid : ∃ d, ∀ p ∈ cs, (kSt d).is w X [.pointer (some ⟨BT.b p.2, 0, none⟩)] p.2.erase := by
      have hk : ∀ p ∈ cs, ∃ d, (kSt d).is w X [.pointer (some ⟨BT.b p.2, 0, none⟩)] p.2.erase := fun p hp => ih p hp (fun n hnn => hin n (by rw [BT.flat_eq]; exact List.mem_cons_of_mem _ (flat_kid hp n hnn))) (s6 p hp) (Nat.le_trans (Nat.mul_le_mul_right 40 (kid_len' hp)) hlen)
      clear ih hin hwf s3 s4 s5 s6 hn hnd hbl hcl hml hlen s1 s2
      induction cs with
      | nil => exact ⟨0, by simp⟩
      | cons p cs ihc =>
        obtain ⟨d1, h1⟩ := ihc (fun q hq => hk q (by simp [hq]))
        obtain ⟨d2, h2⟩ := hk p (by simp)
        refine ⟨max d1 d2, fun q hq => ?_⟩
        rcases List.mem_cons.1 hq with rfl | hq
        · exact (kSt_le (Nat.le_max_right d1 d2)).2 h2
        · exact (kSt_le (Nat.le_max_left d1 d2)).2 (h1 q hq)
    obtain ⟨d, hd⟩ := hkid
    obtain ⟨r1, m1, m2⟩ := hnd.ms
    obtain ⟨r2, k1, k2⟩ := hnd.ks
    have hrm : Row kPe 89 w X vm ms := ⟨r1, m1, m2.imp fun _ _ h => kPe.mv h ((Mv.refl _ _).less fun g hg => by
      rcases List.mem_append.1 hg with hg | hg
      · exact List.mem_append_left _ (List.mem_flatMap.2 ⟨_, hn, by simp [Nd.bl, hg]⟩)
      · exact List.mem_append_right _ hg), fun g hg => hbl g (by simp [Nd.bl, vb, hg])⟩
    have hrk : Row kBk 183 w X vc (ksOf cs) := ⟨r2, k1, k2.imp fun _ _ h => kBk.mv h ((Mv.refl _ _).less fun g hg => by
      rcases List.mem_append.1 hg with hg | hg
      · exact List.mem_append_left _ (List.mem_flatMap.2 ⟨_, hn, by simp [Nd.bl, hg]⟩)
      · exact List.mem_append_right _ hg), fun g hg => hbl g (by simp [Nd.bl, vb, hg])⟩
    refine ⟨d + 1, b, vm, vc, rfl, hbl b (by simp [Nd.bl]), cells_of hnd.cell 0, cells_of hnd.cell 1, ?_, ?_⟩
    · rw [Tr.erase_eq]
      exact hrm.isSl (Nat.le_trans (Nat.mul_le_mul hml (by decide : 32 ≤ 40)) hlen)
    · rw [Tr.erase_eq]
      obtain ⟨o, c, b2, off, rfl, l2, l3, l4, l5⟩ := (hrk.isSl (bytes := 40) (by simp only [ksOf, List.length_map]; exact Nat.le_trans (Nat.mul_le_mul_right 40 hcl) hlen)).ex
      simp only [Tr.cs]
      have hkl : (ksOf cs).length = cs.length := by simp [ksOf]
      refine ⟨o, c, b2, off, by simp [ksOf], by simpa [ksOf] using l2, by simpa [ksOf] using l3, fun hp => l4 (by simpa [ksOf] using hp), fun i hi => ?_⟩
      have hi' : i < cs.length := by simpa using hi
      obtain ⟨ds, h1, pc, rfl, h2⟩ := l5 i (by rw [hkl]; exact hi')
      rw [kNd_size]
      refine ⟨_, h1, pc, [_], rfl, ?_, ?_⟩
      · have e : (ksOf cs)[i]'(by rw [hkl]; exact hi') = (cs[i].1, BT.b cs[i].2) := by simp [ksOf]
        rw [e] at h2
        rw [List.getElem_map]
        exact h2
      · have e : (ksOf cs)[i]'(by rw [hkl]; exact hi') = (cs[i].1, BT.b cs[i].2) := by simp [ksOf]
        rw [List.getElem_map, e]
        exact hd _ (List.getElem_mem hi')

set_option maxRecDepth 100000 in
set_option maxHeartbeats 4000000 in
set_option pp.maxSteps 1000000 in
set_option pp.deepTerms true in
theorem listed_c {w : World} {X Y : List Nat} {va vb : Value} {p q : List (List EL)} (ha : IsSl kPth 24 w X va p) (hb : IsSl kPth 24 w Y vb q) (R : Ending → World → Prop) (hR : Ends R w (.bool (listB (listB eqEl) p q))) :
    Calls Tryz.prog 70 #[va, vb] w R := by
  obtain ⟨o, c, b, off, rfl, l2, l3, l4, l5⟩ := id ha.ex
  obtain ⟨o2, c2, b2, off2, rfl, m2, m3, m4, m5⟩ := id hb.ex
  have l4' := Lib.hid l4
  have l5' := Lib.hid l5
  have m4' := Lib.hid m4
  have m5' := Lib.hid m5
  have hR' := Lib.hid hR
  have hpI : (p.length : Int) ≤ 140737488351232 := by omega
  clear hR ha hb l4 l5 m4 m5 l3 m3 l2 m2
  by_cases hlen : p.length = q.length
  · have hlenI : ((p.length : Int) != (q.length : Int)) = false := by simp [hlen]
    have hlen' := Lib.hid hlen
    clear hlen
    go_enter Tryz.func70, Tryz.ntmps70
    go_wp2_with fail
    go_loopw [5, 13] (fun _ i wr => ∃ k : Nat, k ≤ p.length ∧ i = .int .i64 k ∧ Ext w wr ∧ Hid (∀ j (h : j < p.length) (h2 : j < q.length), j < k → listB eqEl p[j] q[j] = true)) (fun _ i _ => p.length - (intOf i).toNat)
    case atStart => exact ⟨0, Nat.zero_le _, rfl, Ext.refl _, Lib.hid fun j _ _ hj => by omega⟩
    case round =>
      obtain ⟨k, hk, rfl, hEr, hall⟩ := hrel
      rename World => wr
      by_cases hlt : k < p.length
      · have hlt2 : k < q.length := by have := hlen'.out; omega
        obtain ⟨cs, hc, hcs⟩ := l5'.out k hlt
        obtain ⟨ds, hd, hds⟩ := m5'.out k hlt2
        obtain ⟨rfl, -⟩ := l4'.out (by omega)
        obtain ⟨rfl, -⟩ := m4'.out (by omega)
        obtain ⟨pv, rfl, hpv⟩ := hcs
        obtain ⟨qv, rfl, hqv⟩ := hds
        have x0 := hEr.keep (hc 0 (by decide))
        have y0 := hEr.keep (hd 0 (by decide))
        simp only [show kPth.size = 1 from rfl, Nat.add_zero, Nat.mul_one, List.getElem?_cons_zero] at x0 y0
        have hpo := hpv.one
        have hqo := hqv.one
        have hpv' := Lib.hid hpv
        have hqv' := Lib.hid hqv
        have hi1 : (k : Int) < (p.length : Int) := by omega
        have hi2 : (k : Int) < (q.length : Int) := by omega
        have hkm : (k : Int) + 1 ≤ 9223372036854775807 := by omega
        have hEr' := Lib.hid hEr
        clear hc hd hpv hqv
        go_wp2_with fail
        refine wp_region_script [0, 1, 2, 3, 4, 5, 6, 7, 9] [] (fun w' => Ext wr w') [(.pure, 0), (.pure, 1), (.pure, 2), (.read, 3), (.pure, 4), (.pure, 5), (.pure, 6), (.read, 7), (.one, 8), (.pure, 9)] (by kernel_rfl) (by kernel_rfl) ?_
        have hC : Ext wr wr.drew := (Ext.refl wr).drew
        iterate 3 (apply scr_pure'; (· rfl); (· rfl); (· (intro w'; go_simp; try rfl)); (· (simp [go_sem]; try rfl)))
        (apply scr_read'; (· rfl); (· rfl); (· first | exact hC | exact (Ext.refl _).drew); (· (intro w' hw'; have x0_ := hw'.keep x0; go_simp; try rfl)); (· (simp [go_sem]; try rfl)))
        iterate 3 (apply scr_pure'; (· rfl); (· rfl); (· (intro w'; go_simp; try rfl)); (· (simp [go_sem]; try rfl)))
        (apply scr_read'; (· rfl); (· rfl); (· first | exact hC | exact (Ext.refl _).drew); (· (intro w' hw'; have y0_ := hw'.keep y0; go_simp; try rfl)); (· (simp [go_sem]; try rfl)))
        refine scr_one rfl rfl (fun K hK => ?_)
        go_simp
        refine specEqualPaths_c (hpv'.out.mv ((hEr'.out.trans hC).mv X) (by decide)) (hqv'.out.mv ((hEr'.out.trans hC).mv Y) (by decide)) _ ?_
        obtain ⟨bb, hbb⟩ : ∃ bb, listB eqEl p[k] q[k] = bb := ⟨_, rfl⟩
        rw [hbb]
        intro w3 hE3
        refine hK _ _ (fun h => by simp at h) ?_
        have hbb' := Lib.hid hbb
        have hE3' := Lib.hid ((hEr'.out.trans hC).trans hE3)
        clear hK hbb hE3 hC x0 y0 hEr
        cases bb
        · (apply scr_pure'; (· rfl); (· rfl); (· (intro w'; go_simp; try rfl)); (· (simp [go_sem]; try rfl)))
          refine scr_end ?_
          simp only [Exit.then]
          go_wp2_with fail
          have hf : listB (listB eqEl) p q = false := by
            rw [← Bool.not_eq_true]
            intro h
            simp only [listB, Bool.and_eq_true, decide_eq_true_eq] at h
            have := (pairB_iff (f := listB eqEl) h.1).1 h.2 k hlt hlt2
            rw [hbb'.out] at this
            cases this
          have := hR'.out
          rw [hf] at this
          exact this _ hE3'.out
        · (apply scr_pure'; (· rfl); (· rfl); (· (intro w'; go_simp; try rfl)); (· (simp [go_sem]; try rfl)))
          refine scr_end ?_
          simp only [Exit.then]
          go_wp2_with fail
          go_roundw
          case rel =>
            refine ⟨k + 1, by omega, by go_num, hE3'.out, Lib.hid fun j h h2 hj => ?_⟩
            by_cases e : j = k
            · subst e; exact hbb'.out
            · exact hall.out j h h2 (by omega)
          case measure => simp [intOf]; omega
      · have hi1 : ¬ (k : Int) < (p.length : Int) := by omega
        have hf : listB (listB eqEl) p q = true := by
          simp only [listB, Bool.and_eq_true, decide_eq_true_eq]
          exact ⟨hlen'.out, (pairB_iff hlen'.out).2 fun j h h2 => hall.out j h h2 (by omega)⟩
        rw [hf] at hR'
        clear hf hall
        go_wp2_with fail
        exact hR'.out _ hEr
  · have hlenI : ((p.length : Int) != (q.length : Int)) = true := by rw [bne_iff_ne]; omega
    have hf : listB (listB eqEl) p q = false := by simp [listB, hlen]
    rw [hf] at hR'
    clear hf
    go_enter Tryz.func70, Tryz.ntmps70
    go_wp2_with fail
    exact hR'.out w (Ext.refl w)

theorem equalSets_c {G : PEl → Prop} (ho : Cmpr cmpPe G) (hGb : ∀ x, G x → FromEl x) {w : World} {X : List Nat} {va vb : Value} {p q : List (List EL)} (hX : Old X w) (ha : IsSl kPth 24 w X va p) (hb : IsSl kPth 24 w X vb q) (hGp : ∀ r ∈ p, GP G (r.map toE)) (hGq : ∀ r ∈ q, GP G (r.map toE)) (h1 : (p.length + 1) * 24 ≤ 140737488351232) (h2 : (q.length + 1) * 24 ≤ 140737488351232)
    (R : Ending → World → Prop) (hR : Ends R w (.bool (listB (listB eqEl) ((setOf (p.map (·.map toE))).map (·.map backE)) ((setOf (q.map (·.map toE))).map (·.map backE))))) :
    Calls Tryz.prog 27 #[va, vb] w R := by
  have hao := ha.one
  have hbo := hb.one
  have ha' := Lib.hid ha
  have hb' := Lib.hid hb
  have hX' := Lib.hid hX
  have hGp' := Lib.hid hGp
  have hGq' := Lib.hid hGq
  have hGb' := Lib.hid hGb
  have ho' : Hid (Cmpr cmpPe G) := Lib.hid ho
  have h1' := Lib.hid h1
  have h2' := Lib.hid h2
  have hR' := Lib.hid hR
  clear ha hb hX hGp hGq hGb ho h1 h2 hR
  go_enter Tryz.func27, Tryz.ntmps27
  go_wp2_with fail
  refine specSetOf_c ho'.out hGb'.out ha'.out hX'.out hGp'.out h1'.out _ ?_
  intro w1 v1 hE1 hv1
  have hv1o := hv1.one
  have hv1' := Lib.hid hv1
  clear hv1
  dsimp only
  go_wp2_with fail
  refine specSetOf_c ho'.out hGb'.out (hb'.out.mv (hE1.mv X) (by decide)) (hX'.out.le hE1.size) hGq'.out h2'.out _ ?_
  intro w2 v2 hE2 hv2
  have hv2o := hv2.one
  have hv2' := Lib.hid hv2
  clear hv2
  dsimp only
  go_wp2_with fail
  refine listed_c (hv1'.out.mv (hE2.mv X) (by decide)) hv2'.out _ ?_
  intro w3 hE3
  dsimp only
  go_wp2_with fail
  exact hR'.out w3 ((hE1.trans hE2).trans hE3)

theorem lists_c {G : PEl → Prop} (ho : Cmpr cmpPe G) (hGb : ∀ x, G x → FromEl x) {w : World} {X : List Nat} {va vb : Value} {p q : List (List EL)} (hX : Old X w) (ha : IsSl kPth 24 w X va p) (hb : IsSl kPth 24 w X vb q) (hGp : ∀ r ∈ p, GP G (r.map toE)) (hGq : ∀ r ∈ q, GP G (r.map toE)) (h1 : (p.length + 1) * 24 ≤ 140737488351232) (h2 : (q.length + 1) * 24 ≤ 140737488351232)
    (hlen : p.length = q.length) (heq : listB (listB eqEl) ((setOf (p.map (·.map toE))).map (·.map backE)) ((setOf (q.map (·.map toE))).map (·.map backE)) = true)
    (R : Ending → World → Prop) (hR : Ends R w (.bool true)) :
    Calls Tryz.prog 16 #[va, vb] w R := by
  have ha' := Lib.hid ha
  have hb' := Lib.hid hb
  obtain ⟨o, c, b, off, rfl, -⟩ := ha.ex
  obtain ⟨o2, c2, b2, off2, rfl, -⟩ := hb.ex
  have hX' := Lib.hid hX
  have hGp' := Lib.hid hGp
  have hGq' := Lib.hid hGq
  have hGb' := Lib.hid hGb
  have ho' : Hid (Cmpr cmpPe G) := Lib.hid ho
  have h1' := Lib.hid h1
  have h2' := Lib.hid h2
  have hR' := Lib.hid hR
  have heq' := Lib.hid heq
  have hlI : ((p.length : Int) == (q.length : Int)) = true := by simp [hlen]
  have hlI2 : (p.length : Int) = (q.length : Int) := by rw [hlen]
  clear ha hb hX hGp hGq hGb ho h1 h2 hR heq hlen
  go_enter Tryz.func16, Tryz.ntmps16
  go_wp2_with fail
  refine equalSets_c ho'.out hGb'.out hX'.out ha'.out hb'.out hGp'.out hGq'.out h1'.out h2'.out _ ?_
  rw [heq'.out]
  intro w1 hE1
  dsimp only
  go_wp2_with fail
  exact hR'.out w1 hE1
end Go.Proofs.YtihapgangilncaaGreat
