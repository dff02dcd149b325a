/- Sets that paths were put into, as sets to read; spec.Listed, spec.EqualSets, laws.lists. Lists of paths as arguments; what a set made of them lists (plain). append of a whole slice to a row; laws.both. -/
import Derived.Test.YtihapgangilncaaGreatKAHole
import Derived.Test.YtihapgangilncaaGreatKASpecSet
import Derived.Test.YtihapgangilncaaGreatKAFromSet
import Derived.Test.YtihapgangilncaaGreatKAPlace
namespace Go.Proofs.YtihapgangilncaaGreat
open Go.RowKit
set_option linter.unusedSimpArgs false

mutual
def Tr.erase {β α : Type} : Tr β α → Tr Unit α
  | .mk _ ms cs => .mk () ms (Tr.eraseL cs)
def Tr.eraseL {β α : Type} : List (α × Tr β α) → List (α × Tr Unit α)
  | [] => []
  | p :: cs => Tr.eraseP p :: Tr.eraseL cs
def Tr.eraseP {β α : Type} : α × Tr β α → α × Tr Unit α
  | (e, s) => (e, Tr.erase s)
end
theorem Tr.eraseL_eq {β α : Type} (cs : List (α × Tr β α)) : Tr.eraseL cs = cs.map fun p => (p.1, p.2.erase) := by
  induction cs with
  | nil => simp [Tr.eraseL]
  | cons p cs ih => obtain ⟨e, s⟩ := p; simp [Tr.eraseL, Tr.eraseP, ih]
theorem Tr.erase_eq {β α : Type} (t : β) (ms : List α) (cs : List (α × Tr β α)) : (Tr.mk t ms cs).erase = .mk () ms (cs.map fun p => (p.1, p.2.erase)) := by rw [Tr.erase, Tr.eraseL_eq]
theorem Tr.erase_paths {β α : Type} (s : Tr β α) : s.erase.paths = s.paths := by
  induction s using Tr.ind with
  | h t ms cs ih =>
    rw [Tr.erase_eq, Tr.paths_eq, Tr.paths_eq (.mk t ms cs)]
    simp only [Tr.ms, Tr.cs, List.flatMap_map]
    congr 1
    have : ∀ l : List (α × Tr β α), (∀ p ∈ l, p.2.erase.paths = p.2.paths) → (l.flatMap fun p => p.2.erase.paths.map (p.1 :: ·)) = l.flatMap fun p => p.2.paths.map (p.1 :: ·) := by
      intro l
      induction l with
      | nil => simp
      | cons p l ihl =>
        intro h
        rw [List.flatMap_cons, List.flatMap_cons, h p (by simp), ihl fun q hq => h q (by simp [hq])]
    exact this cs ih
theorem Tr.erase_wf {β α : Type} {c : α → α → Int} {G : α → Prop} {s : Tr β α} (h : s.Wf c G) : s.erase.Wf c G := by
  induction s using Tr.ind with
  | h t ms cs ih =>
    cases h with
    | mk h1 h2 h3 h4 h5 h6 =>
      rw [Tr.erase_eq]
      refine .mk h1 h2 (by rw [List.map_map]; exact h3) (fun p hp => ?_) (fun p hp => ?_) (fun p hp => ?_) <;> obtain ⟨q, hq, rfl⟩ := List.mem_map.1 hp
      · exact h4 q hq
      · rw [Tr.erase_paths]; exact h5 q hq
      · exact ih q hq (h6 q hq)
theorem Tr.erase_has {β α : Type} {c : α → α → Int} {s : Tr β α} {q : List α} : s.erase.has c q ↔ s.has c q := by unfold Tr.has; rw [Tr.erase_paths]

theorem kid_len' {ms : List PEl} {t0 : Nat × Value × Value} {cs : List (PEl × BT)} {p : PEl × BT} (hp : p ∈ cs) : p.2.paths.length ≤ (Tr.mk t0 ms cs).paths.length := by
  obtain ⟨A, B, rfl⟩ := List.append_of_mem hp
  obtain ⟨x, s⟩ := p
  exact kid_len
theorem flat_kid {cs : List (PEl × BT)} {p : PEl × BT} (hp : p ∈ cs) : ∀ n ∈ BT.flat p.2, n ∈ BT.flatL cs := fun n hn => by
  obtain ⟨A, B, rfl⟩ := List.append_of_mem hp
  obtain ⟨x, s⟩ := p
  rw [BT.flatL_mid]
  simp [hn]
/-- a set that paths were put into can be read -/
theorem store_read {G : PEl → Prop} {w : World} {X : List Nat} {Γ : List Nd} (hs : Store w X Γ) (t : BT) : (∀ n ∈ BT.flat t, n ∈ Γ) → Tr.Wf cmpPe G t → t.paths.length * 40 ≤ 140737488351232 → ∃ d, (kSt d).is w X [.pointer (some ⟨BT.b t, 0, none⟩)] t.erase := by
  induction t using Tr.ind with
  | h tg ms cs ih =>
    intro hin hwf hlen
    obtain ⟨b, vm, vc⟩ := tg
    obtain ⟨s1, s2, s3, s4, s5, s6⟩ := Tr.wf_parts hwf
    simp only [Tr.cs] at s6
    have hn := hin ⟨b, vm, vc, ms, ksOf cs⟩ (by rw [BT.flat_eq]; simp)
    have hnd := hs.each _ hn
    have hbl : ∀ g ∈ Nd.bl ⟨b, vm, vc, ms, ksOf cs⟩, g ∉ X := fun g hg => hs.out g (List.mem_flatMap.2 ⟨_, hn, hg⟩)
    have hml : ms.length ≤ (Tr.mk (b, vm, vc) ms cs).paths.length := ms_len (s := .mk (b, vm, vc) ms cs)
    have hcl : cs.length ≤ (Tr.mk (b, vm, vc) ms cs).paths.length := cs_len hwf
    have hkid : ∃ d, ∀ p ∈ cs, (kSt d).is w X [.pointer (some ⟨BT.b p.2, 0, none⟩)] p.2.erase := by
      have hk : ∀ p ∈ cs, ∃ d, (kSt d).is w X [.pointer (some ⟨BT.b p.2, 0, none⟩)] p.2.erase := fun p hp => ih p hp (fun n hnn => hin n (by rw [BT.flat_eq]; exact List.mem_cons_of_mem _ (flat_kid hp n hnn))) (s6 p hp) (Nat.le_trans (Nat.mul_le_mul_right 40 (kid_len' hp)) hlen)
      clear ih hin hwf s3 s4 s5 s6 hn hnd hbl hcl hml hlen s1 s2
      induction cs with
      | nil => exact ⟨0, by simp⟩
      | cons p cs ihc =>
        obtain ⟨d1, h1⟩ := ihc (fun q hq => hk q (by simp [hq]))
        obtain ⟨d2, h2⟩ := hk p (by simp)
        refine ⟨max d1 d2, fun q hq => ?_⟩
        rcases List.mem_cons.1 hq with rfl | hq
        · exact (kSt_le (Nat.le_max_right d1 d2)).2 h2
        · exact (kSt_le (Nat.le_max_left d1 d2)).2 (h1 q hq)
    obtain ⟨d, hd⟩ := hkid
    obtain ⟨r1, m1, m2⟩ := hnd.ms
    obtain ⟨r2, k1, k2⟩ := hnd.ks
    have hrm : Row kPe 89 w X vm ms := ⟨r1, m1, m2.imp fun _ _ h => kPe.mv h ((Mv.refl _ _).less fun g hg => by
      rcases List.mem_append.1 hg with hg | hg
      · exact List.mem_append_left _ (List.mem_flatMap.2 ⟨_, hn, by simp [Nd.bl, hg]⟩)
      · exact List.mem_append_right _ hg), fun g hg => hbl g (by simp [Nd.bl, vb, hg])⟩
    have hrk : Row kBk 183 w X vc (ksOf cs) := ⟨r2, k1, k2.imp fun _ _ h => kBk.mv h ((Mv.refl _ _).less fun g hg => by
      rcases List.mem_append.1 hg with hg | hg
      · exact List.mem_append_left _ (List.mem_flatMap.2 ⟨_, hn, by simp [Nd.bl, hg]⟩)
      · exact List.mem_append_right _ hg), fun g hg => hbl g (by simp [Nd.bl, vb, hg])⟩
    refine ⟨d + 1, b, vm, vc, rfl, hbl b (by simp [Nd.bl]), cells_of hnd.cell 0, cells_of hnd.cell 1, ?_, ?_⟩
    · rw [Tr.erase_eq]
      exact hrm.isSl (Nat.le_trans (Nat.mul_le_mul hml (by decide : 32 ≤ 40)) hlen)
    · rw [Tr.erase_eq]
      obtain ⟨o, c, b2, off, rfl, l2, l3, l4, l5⟩ := (hrk.isSl (bytes := 40) (by simp only [ksOf, List.length_map]; exact Nat.le_trans (Nat.mul_le_mul_right 40 hcl) hlen)).ex
      simp only [Tr.cs]
      have hkl : (ksOf cs).length = cs.length := by simp [ksOf]
      refine ⟨o, c, b2, off, by simp [ksOf], by simpa [ksOf] using l2, by simpa [ksOf] using l3, fun hp => l4 (by simpa [ksOf] using hp), fun i hi => ?_⟩
      have hi' : i < cs.length := by simpa using hi
      obtain ⟨ds, h1, pc, rfl, h2⟩ := l5 i (by rw [hkl]; exact hi')
      rw [kNd_size]
      refine ⟨_, h1, pc, [_], rfl, ?_, ?_⟩
      · have e : (ksOf cs)[i]'(by rw [hkl]; exact hi') = (cs[i].1, BT.b cs[i].2) := by simp [ksOf]
        rw [e] at h2
        rw [List.getElem_map]
        exact h2
      · have e : (ksOf cs)[i]'(by rw [hkl]; exact hi') = (cs[i].1, BT.b cs[i].2) := by simp [ksOf]
        rw [List.getElem_map, e]
        exact hd _ (List.getElem_mem hi')

set_option maxRecDepth 100000 in
set_option maxHeartbeats 4000000 in
set_option pp.maxSteps 1000000 in
set_option pp.deepTerms true in
theorem listed_c {w : World} {X Y : List Nat} {va vb : Value} {p q : List (List EL)} (ha : IsSl kPth 24 w X va p) (hb : IsSl kPth 24 w Y vb q) (R : Ending → World → Prop) (hR : Ends R w (.bool (listB (listB eqEl) p q))) :
    Calls Tryz.prog 70 #[va, vb] w R := by
  obtain ⟨o, c, b, off, rfl, l2, l3, l4, l5⟩ := id ha.ex
  obtain ⟨o2, c2, b2, off2, rfl, m2, m3, m4, m5⟩ := id hb.ex
  have l4' := Lib.hid l4
  have l5' := Lib.hid l5
  have m4' := Lib.hid m4
  have m5' := Lib.hid m5
  have hR' := Lib.hid hR
  have hpI : (p.length : Int) ≤ 140737488351232 := by omega
  clear hR ha hb l4 l5 m4 m5 l3 m3 l2 m2
  by_cases hlen : p.length = q.length
  · have hlenI : ((p.length : Int) != (q.length : Int)) = false := by simp [hlen]
    have hlen' := Lib.hid hlen
    clear hlen
    go_enter Tryz.func70, Tryz.ntmps70
    go_wp2_with fail
    go_loopw [5, 13] (fun _ i wr => ∃ k : Nat, k ≤ p.length ∧ i = .int .i64 k ∧ Ext w wr ∧ Hid (∀ j (h : j < p.length) (h2 : j < q.length), j < k → listB eqEl p[j] q[j] = true)) (fun _ i _ => p.length - (intOf i).toNat)
    case atStart => exact ⟨0, Nat.zero_le _, rfl, Ext.refl _, Lib.hid fun j _ _ hj => by omega⟩
    case round =>
      obtain ⟨k, hk, rfl, hEr, hall⟩ := hrel
      rename World => wr
      by_cases hlt : k < p.length
      · have hlt2 : k < q.length := by have := hlen'.out; omega
        obtain ⟨cs, hc, hcs⟩ := l5'.out k hlt
        obtain ⟨ds, hd, hds⟩ := m5'.out k hlt2
        obtain ⟨rfl, -⟩ := l4'.out (by omega)
        obtain ⟨rfl, -⟩ := m4'.out (by omega)
        obtain ⟨pv, rfl, hpv⟩ := hcs
        obtain ⟨qv, rfl, hqv⟩ := hds
        have x0 := hEr.keep (hc 0 (by decide))
        have y0 := hEr.keep (hd 0 (by decide))
        simp only [show kPth.size = 1 from rfl, Nat.add_zero, Nat.mul_one, List.getElem?_cons_zero] at x0 y0
        have hpo := hpv.one
        have hqo := hqv.one
        have hpv' := Lib.hid hpv
        have hqv' := Lib.hid hqv
        have hi1 : (k : Int) < (p.length : Int) := by omega
        have hi2 : (k : Int) < (q.length : Int) := by omega
        have hkm : (k : Int) + 1 ≤ 9223372036854775807 := by omega
        have hEr' := Lib.hid hEr
        clear hc hd hpv hqv
        go_wp2_with fail
        refine wp_region_script [0, 1, 2, 3, 4, 5, 6, 7, 9] [] (fun w' => Ext wr w') [(.pure, 0), (.pure, 1), (.pure, 2), (.read, 3), (.pure, 4), (.pure, 5), (.pure, 6), (.read, 7), (.one, 8), (.pure, 9)] (by kernel_rfl) (by kernel_rfl) ?_
        have hC : Ext wr wr.drew := (Ext.refl wr).drew
        iterate 3 (apply scr_pure'; (· rfl); (· rfl); (· (intro w'; go_simp; try rfl)); (· (simp [go_sem]; try rfl)))
        (apply scr_read'; (· rfl); (· rfl); (· first | exact hC | exact (Ext.refl _).drew); (· (intro w' hw'; have x0_ := hw'.keep x0; go_simp; try rfl)); (· (simp [go_sem]; try rfl)))
        iterate 3 (apply scr_pure'; (· rfl); (· rfl); (· (intro w'; go_simp; try rfl)); (· (simp [go_sem]; try rfl)))
        (apply scr_read'; (· rfl); (· rfl); (· first | exact hC | exact (Ext.refl _).drew); (· (intro w' hw'; have y0_ := hw'.keep y0; go_simp; try rfl)); (· (simp [go_sem]; try rfl)))
        refine scr_one rfl rfl (fun K hK => ?_)
        go_simp
        refine specEqualPaths_c (hpv'.out.mv ((hEr'.out.trans hC).mv X) (by decide)) (hqv'.out.mv ((hEr'.out.trans hC).mv Y) (by decide)) _ ?_
        obtain ⟨bb, hbb⟩ : ∃ bb, listB eqEl p[k] q[k] = bb := ⟨_, rfl⟩
        rw [hbb]
        intro w3 hE3
        refine hK _ _ (fun h => by simp at h) ?_
        have hbb' := Lib.hid hbb
        have hE3' := Lib.hid ((hEr'.out.trans hC).trans hE3)
        clear hK hbb hE3 hC x0 y0 hEr
        cases bb
        · (apply scr_pure'; (· rfl); (· rfl); (· (intro w'; go_simp; try rfl)); (· (simp [go_sem]; try rfl)))
          refine scr_end ?_
          simp only [Exit.then]
          go_wp2_with fail
          have hf : listB (listB eqEl) p q = false := by
            rw [← Bool.not_eq_true]
            intro h
            simp only [listB, Bool.and_eq_true, decide_eq_true_eq] at h
            have := (pairB_iff (f := listB eqEl) h.1).1 h.2 k hlt hlt2
            rw [hbb'.out] at this
            cases this
          have := hR'.out
          rw [hf] at this
          exact this _ hE3'.out
        · (apply scr_pure'; (· rfl); (· rfl); (· (intro w'; go_simp; try rfl)); (· (simp [go_sem]; try rfl)))
          refine scr_end ?_
          simp only [Exit.then]
          go_wp2_with fail
          go_roundw
          case rel =>
            refine ⟨k + 1, by omega, by go_num, hE3'.out, Lib.hid fun j h h2 hj => ?_⟩
            by_cases e : j = k
            · subst e; exact hbb'.out
            · exact hall.out j h h2 (by omega)
          case measure => simp [intOf]; omega
      · have hi1 : ¬ (k : Int) < (p.length : Int) := by omega
        have hf : listB (listB eqEl) p q = true := by
          simp only [listB, Bool.and_eq_true, decide_eq_true_eq]
          exact ⟨hlen'.out, (pairB_iff hlen'.out).2 fun j h h2 => hall.out j h h2 (by omega)⟩
        rw [hf] at hR'
        clear hf hall
        go_wp2_with fail
        exact hR'.out _ hEr
  · have hlenI : ((p.length : Int) != (q.length : Int)) = true := by rw [bne_iff_ne]; omega
    have hf : listB (listB eqEl) p q = false := by simp [listB, hlen]
    rw [hf] at hR'
    clear hf
    go_enter Tryz.func70, Tryz.ntmps70
    go_wp2_with fail
    exact hR'.out w (Ext.refl w)

theorem equalSets_c {G : PEl → Prop} (ho : Cmpr cmpPe G) (hGb : ∀ x, G x → FromEl x) {w : World} {X : List Nat} {va vb : Value} {p q : List (List EL)} (hX : Old X w) (ha : IsSl kPth 24 w X va p) (hb : IsSl kPth 24 w X vb q) (hGp : ∀ r ∈ p, GP G (r.map toE)) (hGq : ∀ r ∈ q, GP G (r.map toE)) (h1 : (p.length + 1) * 24 ≤ 140737488351232) (h2 : (q.length + 1) * 24 ≤ 140737488351232)
    (R : Ending → World → Prop) (hR : Ends R w (.bool (listB (listB eqEl) ((setOf (p.map (·.map toE))).map (·.map backE)) ((setOf (q.map (·.map toE))).map (·.map backE))))) :
    Calls Tryz.prog 27 #[va, vb] w R := by
  have hao := ha.one
  have hbo := hb.one
  have ha' := Lib.hid ha
  have hb' := Lib.hid hb
  have hX' := Lib.hid hX
  have hGp' := Lib.hid hGp
  have hGq' := Lib.hid hGq
  have hGb' := Lib.hid hGb
  have ho' : Hid (Cmpr cmpPe G) := Lib.hid ho
  have h1' := Lib.hid h1
  have h2' := Lib.hid h2
  have hR' := Lib.hid hR
  clear ha hb hX hGp hGq hGb ho h1 h2 hR
  go_enter Tryz.func27, Tryz.ntmps27
  go_wp2_with fail
  refine specSetOf_c ho'.out hGb'.out ha'.out hX'.out hGp'.out h1'.out _ ?_
  intro w1 v1 hE1 hv1
  have hv1o := hv1.one
  have hv1' := Lib.hid hv1
  clear hv1
  dsimp only
  go_wp2_with fail
  refine specSetOf_c ho'.out hGb'.out (hb'.out.mv (hE1.mv X) (by decide)) (hX'.out.le hE1.size) hGq'.out h2'.out _ ?_
  intro w2 v2 hE2 hv2
  have hv2o := hv2.one
  have hv2' := Lib.hid hv2
  clear hv2
  dsimp only
  go_wp2_with fail
  refine listed_c (hv1'.out.mv (hE2.mv X) (by decide)) hv2'.out _ ?_
  intro w3 hE3
  dsimp only
  go_wp2_with fail
  exact hR'.out w3 ((hE1.trans hE2).trans hE3)

theorem lists_c {G : PEl → Prop} (ho : Cmpr cmpPe G) (hGb : ∀ x, G x → FromEl x) {w : World} {X : List Nat} {va vb : Value} {p q : List (List EL)} (hX : Old X w) (ha : IsSl kPth 24 w X va p) (hb : IsSl kPth 24 w X vb q) (hGp : ∀ r ∈ p, GP G (r.map toE)) (hGq : ∀ r ∈ q, GP G (r.map toE)) (h1 : (p.length + 1) * 24 ≤ 140737488351232) (h2 : (q.length + 1) * 24 ≤ 140737488351232)
    (hlen : p.length = q.length) (heq : listB (listB eqEl) ((setOf (p.map (·.map toE))).map (·.map backE)) ((setOf (q.map (·.map toE))).map (·.map backE)) = true)
    (R : Ending → World → Prop) (hR : Ends R w (.bool true)) :
    Calls Tryz.prog 16 #[va, vb] w R := by
  have ha' := Lib.hid ha
  have hb' := Lib.hid hb
  obtain ⟨o, c, b, off, rfl, -⟩ := ha.ex
  obtain ⟨o2, c2, b2, off2, rfl, -⟩ := hb.ex
  have hX' := Lib.hid hX
  have hGp' := Lib.hid hGp
  have hGq' := Lib.hid hGq
  have hGb' := Lib.hid hGb
  have ho' : Hid (Cmpr cmpPe G) := Lib.hid ho
  have h1' := Lib.hid h1
  have h2' := Lib.hid h2
  have hR' := Lib.hid hR
  have heq' := Lib.hid heq
  have hlI : ((p.length : Int) == (q.length : Int)) = true := by simp [hlen]
  have hlI2 : (p.length : Int) = (q.length : Int) := by rw [hlen]
  clear ha hb hX hGp hGq hGb ho h1 h2 hR heq hlen
  go_enter Tryz.func16, Tryz.ntmps16
  go_wp2_with fail
  refine equalSets_c ho'.out hGb'.out hX'.out ha'.out hb'.out hGp'.out hGq'.out h1'.out h2'.out _ ?_
  rw [heq'.out]
  intro w1 hE1
  dsimp only
  go_wp2_with fail
  exact hR'.out w1 hE1
end Go.Proofs.YtihapgangilncaaGreat
namespace Go.Proofs.YtihapgangilncaaGreat
open Go.RowKit Go.Deep Go.ChangeShapes Go.WideShapes
set_option linter.unusedSimpArgs false

section
variable {H : Type} {enc : TypeId × Value → H} {w : World} {base : Nat} {spare : Nat → Bool} {held : Bool}
theorem eleven_ofP {cs : List Value} (h : cs.length = 11) : ∃ c0 c1 c2 c3 c4 c5 c6 c7 c8 c9 c10, cs = [c0, c1, c2, c3, c4, c5, c6, c7, c8, c9, c10] := by
  match cs, h with
  | [c0, c1, c2, c3, c4, c5, c6, c7, c8, c9, c10], _ => exact ⟨_, _, _, _, _, _, _, _, _, _, _, rfl⟩
theorem read_elP {fuel : Nat} {cs : List Value} {x : DataW H × List MemPlace} (h : DataW.trod enc Tryz.prog w base spare held fuel 47 cs = some x)
    (hw : (x.1.weights Tryz.prog 47).all (· ≤ reachBytes) = true) : ∃ e, kEl.is w [] cs e := by
  obtain ⟨hlen, n, hn, hf⟩ := read_fields Tryz.underlying47 h hw
  have q : Tryz.prog.cellsOf 47 = 11 := by kernel_rfl
  have q0 : Tryz.prog.cellsOf 3 = 1 := by kernel_rfl
  have q1 : Tryz.prog.cellsOf 9 = 1 := by kernel_rfl
  have q2 : Tryz.prog.cellsOf 41 = 1 := by kernel_rfl
  have q3 : Tryz.prog.cellsOf 42 = 1 := by kernel_rfl
  have q4 : Tryz.prog.cellsOf 45 = 6 := by kernel_rfl
  rw [q] at hlen
  obtain ⟨c0, c1, c2, c3, c4, c5, c6, c7, c8, c9, c10, rfl⟩ := eleven_ofP hlen
  have e0 := hf 0
  have e1 := hf 1
  have e2 := hf 2
  have e3 := hf 3
  have e4 := hf 4
  have e5 := hf 5
  simp only [List.getElem?_toArray, List.getElem?_cons_zero, List.getElem?_cons_succ, Option.some.injEq, forall_eq', q0, q1, q2, q3, q4, List.drop_zero, List.drop_succ_cons, List.take_succ_cons, List.take_zero] at e0 e1 e2 e3 e4 e5
  obtain ⟨y0, t0, w0⟩ := e0
  obtain ⟨y1, t1, w1⟩ := e1
  obtain ⟨y2, t2, w2⟩ := e2
  obtain ⟨y3, t3, w3⟩ := e3
  obtain ⟨y4, t4, w4⟩ := e4
  obtain ⟨y5, t5, w5⟩ := e5
  obtain ⟨k0, h0, -, wf0⟩ := DataW.trod_int Tryz.underlying3 t0
  obtain ⟨s1, h1, hs1⟩ := read_str t1 w1
  obtain ⟨v2, ss, h2, hss⟩ := read_strs t2 w2
  obtain ⟨v3, vs, h3, hvs⟩ := read_vs t3 w3
  obtain ⟨v, hv⟩ := read_v n _ _ t4 w4
  obtain ⟨k5, h5, -, wf5⟩ := DataW.trod_int Tryz.underlying3 t5
  simp only [List.cons.injEq, and_true] at h0 h1 h2 h3 h5
  subst h0 h1 h2 h3 h5
  exact ⟨⟨k0, s1, ss, vs, v, k5⟩, _, _, [c4, c5, c6, c7, c8, c9], rfl, wf0, wf5, hs1, hss, hvs, hv⟩
theorem read_path1 {fuel : Nat} {cs : List Value} {x : DataW H × List MemPlace} (h : DataW.trod enc Tryz.prog w base spare held fuel 22 cs = some x)
    (hw : (x.1.weights Tryz.prog 22).all (· ≤ reachBytes) = true) : ∃ v p, cs = [v] ∧ IsSl kEl 168 w [] v p :=
  read_sl (k := kEl) (bytes := 168) (by simp [kEl]) Tryz.underlying22 (by kernel_rfl) (by kernel_rfl) (fun f _ cs x h hw => read_elP h hw) h hw
theorem read_paths {fuel : Nat} {cs : List Value} {x : DataW H × List MemPlace} (h : DataW.trod enc Tryz.prog w base spare held fuel 24 cs = some x)
    (hw : (x.1.weights Tryz.prog 24).all (· ≤ reachBytes) = true) : ∃ v p, cs = [v] ∧ IsSl kPth 24 w [] v p :=
  read_sl (k := kPth) (bytes := 24) (by simp [kPth]) Tryz.underlying24 (by kernel_rfl) (by kernel_rfl) (fun f _ cs x h hw => by
    obtain ⟨v, p, h1, h2⟩ := read_path1 h hw
    exact ⟨p, v, h1, h2⟩) h hw
end

theorem good_list {w : World} {X : List Nat} {va : Value} {l : List (List EL)} (ha : IsSl kPth 24 w X va l) (ht : ∀ p ∈ l, ∀ e ∈ p, tameEl e) : ∀ p ∈ l, GP GoodE (p.map toE) := by
  obtain ⟨o, c, b, off, -, -, -, -, l5⟩ := ha.ex
  intro p hp x hx
  obtain ⟨e, he, rfl⟩ := List.mem_map.1 hx
  refine ⟨e, ht p hp e he, ?_, rfl⟩
  obtain ⟨i, hi, rfl⟩ := List.getElem_of_mem hp
  obtain ⟨cs, -, v, -, hv⟩ := l5 i hi
  obtain ⟨o2, c2, b2, off2, -, -, -, -, m5⟩ := hv.ex
  obtain ⟨j, hj, rfl⟩ := List.getElem_of_mem he
  obtain ⟨ds, -, vk, vl, vs, -, -, -, -, -, hl, -⟩ := m5 j hj
  obtain ⟨_, _, _, _, -, -, hb, -⟩ := hl.ex
  exact hb
/-- the paths of a set made of a list are no longer than those of the list -/
theorem paths_bytes {G : PEl → Prop} {β : Type} {w : World} {X : List Nat} {va : Value} {l : List (List EL)} {t : Tr β PEl} (ha : IsSl kPth 24 w X va l) (hhas : ∀ q, GP G q → (Tr.has cmpPe t q ↔ ∃ p ∈ l.map (·.map toE), p ≠ [] ∧ wc cmpPe p q = 0)) (hwf : Tr.Wf cmpPe G t) (ho : Cmpr cmpPe G) : ∀ q ∈ t.paths, q.length * 168 ≤ 140737488351232 := by
  intro q hq
  obtain ⟨p, hp, -, h0⟩ := (hhas q (Tr.paths_good hwf q hq)).1 ⟨q, hq, (wc_ord ho).self q⟩
  rw [← wc_len h0]
  obtain ⟨r, hr, rfl⟩ := List.mem_map.1 hp
  obtain ⟨o, c, b, off, -, -, -, -, l5⟩ := ha.ex
  obtain ⟨i, hi, rfl⟩ := List.getElem_of_mem hr
  obtain ⟨cs, -, v, -, hv⟩ := l5 i hi
  obtain ⟨_, _, _, _, -, -, hb, -⟩ := hv.ex
  rw [List.length_map]
  exact hb
theorem back_toE {L : List (List PEl)} (hL : ∀ p ∈ L, GP GoodE p) : ∀ p ∈ L.map (·.map backE), GP GoodE (p.map toE) := by
  intro p hp x hx
  obtain ⟨q, hq, rfl⟩ := List.mem_map.1 hp
  rw [List.map_map] at hx
  obtain ⟨y, hy, rfl⟩ := List.mem_map.1 hx
  exact goodE_back (hL q hq y hy)
/-- the set of a list of paths, written out and made again, is the same -/
theorem setOf_again {L : List (List PEl)} (hL : ∀ p ∈ L, GP GoodE p) (hne : ∀ p ∈ L, p ≠ []) {q : List PEl} (hq : GP GoodE q) : hasC (wc cmpPe) (setOf ((L.map (·.map backE)).map (·.map toE))) q ↔ hasC (wc cmpPe) L q := by
  rw [(setOf_facts goodE_ord (l := (L.map (·.map backE)).map (·.map toE)) (fun p hp => by
    obtain ⟨r, hr, rfl⟩ := List.mem_map.1 hp
    exact back_toE hL r hr)).2.2.2.1 q hq]
  have hw : ∀ p ∈ L, wc cmpPe ((p.map backE).map toE) q = wc cmpPe p q := fun p hp => by
    rw [List.map_map]
    have := wc_map (d := cmpPe) (f := toE ∘ backE) (g := id) (q := q) (p := p) (fun x hx y => cmpPe_back (goodE_from (hL p hp x hx)) y)
    simpa using this
  constructor
  · rintro ⟨p, hp, -, h0⟩
    obtain ⟨r, hr, rfl⟩ := List.mem_map.1 hp
    obtain ⟨s, hs, rfl⟩ := List.mem_map.1 hr
    exact ⟨s, hs, by rw [← hw s hs]; exact h0⟩
  · rintro ⟨s, hs, h0⟩
    refine ⟨(s.map backE).map toE, List.mem_map.2 ⟨_, List.mem_map.2 ⟨s, hs, rfl⟩, rfl⟩, fun h => hne s hs (by simpa using h), by rw [hw s hs]; exact h0⟩
/-- two lists of paths that hold the same are made into equal sets -/
theorem sets_equal {A B : List (List PEl)} (hA : ∀ p ∈ A, GP GoodE p) (hB : ∀ p ∈ B, GP GoodE p) (hnA : ∀ p ∈ A, p ≠ []) (hnB : ∀ p ∈ B, p ≠ []) :
    listB (listB eqEl) ((setOf ((A.map (·.map backE)).map (·.map toE))).map (·.map backE)) ((setOf ((B.map (·.map backE)).map (·.map toE))).map (·.map backE)) = true ↔ ∀ q, GP GoodE q → (hasC (wc cmpPe) A q ↔ hasC (wc cmpPe) B q) := by
  have fA := setOf_facts goodE_ord (l := (A.map (·.map backE)).map (·.map toE)) (fun p hp => by
    obtain ⟨r, hr, rfl⟩ := List.mem_map.1 hp
    exact back_toE hA r hr)
  have fB := setOf_facts goodE_ord (l := (B.map (·.map backE)).map (·.map toE)) (fun p hp => by
    obtain ⟨r, hr, rfl⟩ := List.mem_map.1 hp
    exact back_toE hB r hr)
  have gA : ∀ p ∈ setOf ((A.map (·.map backE)).map (·.map toE)), GP GoodE p := fun p hp => by
    obtain ⟨r, hr, rfl⟩ := List.mem_map.1 (fA.2.1 p hp)
    exact back_toE hA r hr
  have gB : ∀ p ∈ setOf ((B.map (·.map backE)).map (·.map toE)), GP GoodE p := fun p hp => by
    obtain ⟨r, hr, rfl⟩ := List.mem_map.1 (fB.2.1 p hp)
    exact back_toE hB r hr
  rw [goodE_lists gA gB]
  constructor
  · intro h q hq
    rw [← setOf_again hA hnA hq, ← setOf_again hB hnB hq]
    have hh := wc_ord goodE_ord
    generalize setOf ((A.map (·.map backE)).map (·.map toE)) = a at h gA
    generalize setOf ((B.map (·.map backE)).map (·.map toE)) = b at h gB
    clear fA fB
    induction h with
    | nil => rfl
    | cons h1 _ ih =>
      have e := ih (fun p hp => gA p (List.mem_cons_of_mem _ hp)) (fun p hp => gB p (List.mem_cons_of_mem _ hp))
      rw [hasC_cons, hasC_cons, hh.congr (gA _ (by simp)) (gB _ (by simp)) hq h1]
      exact or_congr Iff.rfl e
  · intro h
    refine srt_uniq (wc_ord goodE_ord) fA.1 fB.1 gA gB (fun x hx => ?_) (fun x hx => ?_)
    · rw [setOf_again hB hnB (gA x hx), ← h x (gA x hx), ← setOf_again hA hnA (gA x hx)]
      exact hasC_self (wc_ord goodE_ord) hx
    · rw [setOf_again hA hnA (gB x hx), h x (gB x hx), ← setOf_again hB hnB (gB x hx)]
      exact hasC_self (wc_ord goodE_ord) hx
/-- a set's list and the reference's set of the same paths -/
theorem lists_law (ho : Cmpr cmpPe GoodE) {l : List (List EL)} (hG : ∀ p ∈ l, GP GoodE (p.map toE)) {s : St} (hwf : Tr.Wf cmpPe GoodE s) (hhas : ∀ q, GP GoodE q → (Tr.has cmpPe s q ↔ ∃ p ∈ l.map (·.map toE), p ≠ [] ∧ wc cmpPe p q = 0)) :
    (∀ r ∈ s.paths.map (·.map backE), GP GoodE (r.map toE)) ∧ (∀ r ∈ (setOf (l.map (·.map toE))).map (·.map backE), GP GoodE (r.map toE)) ∧ (s.paths.map (·.map backE)).length = ((setOf (l.map (·.map toE))).map (·.map backE)).length ∧
    (s.paths.map (·.map backE)).length ≤ l.length ∧ ((setOf (l.map (·.map toE))).map (·.map backE)).length ≤ l.length ∧
    listB (listB eqEl) ((setOf ((s.paths.map (·.map backE)).map (·.map toE))).map (·.map backE)) ((setOf (((setOf (l.map (·.map toE))).map (·.map backE)).map (·.map toE))).map (·.map backE)) = true := by
  have hGL : ∀ p ∈ l.map (·.map toE), GP GoodE p := fun p hp => by
    obtain ⟨r, hr, rfl⟩ := List.mem_map.1 hp
    exact hG r hr
  have f := setOf_facts ho hGL
  have hgs := Tr.paths_good hwf
  have hgo : ∀ p ∈ setOf (l.map (·.map toE)), GP GoodE p := fun p hp => hGL p (f.2.1 p hp)
  have hsame : ∀ q, GP GoodE q → (hasC (wc cmpPe) s.paths q ↔ hasC (wc cmpPe) (setOf (l.map (·.map toE))) q) := fun q hq => (hhas q hq).trans (f.2.2.2.1 q hq).symm
  have hl := dst_len (wc_ord ho) (Tr.paths_srt ho hwf).dst f.1.dst hgs hgo hsame
  have h3 := f.2.2.1
  rw [List.length_map] at h3
  refine ⟨back_toE hgs, back_toE hgo, by simpa using hl, by rw [List.length_map, hl]; exact h3, by rw [List.length_map]; exact h3, ?_⟩
  exact (sets_equal hgs hgo (fun p hp => Tr.paths_ne hp) f.2.2.2.2).2 hsame
end Go.Proofs.YtihapgangilncaaGreat
namespace Go.Proofs.YtihapgangilncaaGreat
open Go.RowKit
set_option linter.unusedSimpArgs false

section
variable {P : Program}
/-- v = append(v, s...) -/
theorem wpL_rowAppS {α : Type} {k : Kind α} {bytes : Nat} {w w2 : World} {X : List Nat} {v sv : Value} {us ts : List α} {e : TypeId} {ops : Array Oper} {rest : List Oper} {o : Oper} {a : Act} {Q : Exit → Act → World → Prop} (hgd : o.guard = none)
    (hrow : Row k e w X v us) (hE : Ext w w2) (hX : Old X w2) (hs2 : IsSl k bytes w2 (vb v ++ X) sv ts) (s x : Operand) (t : TypeId)
    (ho : o.op = .call { callee := .builtin .append, args := #[s, x], argTypes := #[t, t] })
    {z : Value} (ht : P.underlying t = some (.slice e)) (hi : (P.info? e).map (fun i => (i.zero, i.size, i.bytes)) = some (some z, k.size, bytes))
    (hzs : z.cells.size = k.size) (hsz : 0 < k.size) (hs : a.eval s = v) (hx : a.eval x = sv)
    (hbytes : (us.length + ts.length) * bytes ≤ 140737488355328) (h63 : us.length + ts.length ≤ maxLen)
    (h : ∀ v' w', Row k e w' X v' (us ++ ts) → w2.grownBy w' v.ownBlock → (∀ g, v'.ownBlock = some g → v.ownBlock = some g ∨ w2.heap.size ≤ g) → wpList P ops Q rest (a.put o.dst v') w') : wpList P ops Q (o :: rest) a w2 := by
  obtain ⟨rows, h1, h2, h3⟩ := hrow.ex
  obtain ⟨so, c, b, off, rs, rfl, l2, l3, l4, r1, r2⟩ := hs2.rows
  have hml := All2.mem_len (s := k.size) (fun r a h => k.len h) r1
  have hrl : rs.flatten.length = ts.length * k.size := by rw [flat_len hml, r1.length]
  refine wpL_appendG hgd s x t ho e ht hi hzs hsz (h1.ext hE) hs so ts.length c rs.flatten hx hrl (fun hn => ?_) (fun ad had j u hj => ?_) (Row.flat r1) h63 hbytes ?_
  · rcases Nat.eq_zero_or_pos ts.length with h0 | h0
    · exact h0
    · have := (l4 h0).1; rw [hn] at this; cases this
  · have hp : 0 < ts.length := by
      rcases Nat.eq_zero_or_pos ts.length with h0 | h0
      · rw [h0, Nat.zero_mul] at hrl
        rw [List.eq_nil_of_length_eq_zero hrl] at hj
        simp at hj
      · exact h0
    have := (l4 hp).1
    rw [had] at this
    cases this
    rw [addr_add]
    exact r2 j u hj
  · intro v' w' k1 k2 _ k4
    have hd : ∀ g, v'.ownBlock = some g → v.ownBlock = some g ∨ w2.heap.size ≤ g := fun g hg => (k4 g hg).imp id (fun e => Nat.le_of_eq e.symm)
    have hmv : Mv w2 (vb v ++ X) w' (vb v' ++ X) := Mv.app k2 hd
    refine h v' w' ⟨rows ++ rs, by simpa using k1, (h2.imp fun _ _ h => k.mv (k.mv h (hE.mv _)) hmv).glue (r1.imp fun _ _ h => k.mv h hmv), fun g hg hx => ?_⟩ k2 hd
    rcases hd g hg with h | h
    · exact h3 g h hx
    · have := hX g hx; omega
end

set_option maxRecDepth 100000 in
set_option maxHeartbeats 4000000 in
set_option pp.maxSteps 1000000 in
set_option pp.deepTerms true in
theorem both_c {w : World} {X : List Nat} {va vb' : Value} {a b : List (List EL)} (ha : IsSl kPth 24 w X va a) (hb : IsSl kPth 24 w X vb' b) (hX : Old X w) (hbytes : (a.length + b.length) * 24 ≤ 140737488351232) (R : Ending → World → Prop)
    (hR : ∀ w' v, Ext w w' → IsSl kPth 24 w' X v (a ++ b) → R (.returned v) w') : Calls Tryz.prog 25 #[va, vb'] w R := by
  obtain ⟨ao, ac, -, -, rfl, -⟩ := id ha.ex
  obtain ⟨bo, bc, -, -, rfl, -⟩ := id hb.ex
  have ha' := Lib.hid ha
  have hb' := Lib.hid hb
  have hX' := Lib.hid hX
  have hbytes' := Lib.hid hbytes
  have hR' := Lib.hid hR
  clear ha hb hX hbytes hR
  go_enter Tryz.func25, Tryz.ntmps25
  have hb0 : (0 + a.length) * 24 ≤ 140737488355328 := by have := hbytes'.out; omega
  have hm0 : 0 + a.length ≤ maxLen := by rw [maxLen_eq]; have := hbytes'.out; omega
  have hb1 : (a.length + b.length) * 24 ≤ 140737488355328 := by have := hbytes'.out; omega
  have hm1 : a.length + b.length ≤ maxLen := by rw [maxLen_eq]; have := hbytes'.out; omega
  go_wp2_with (at_builtin; first
    | (refine wpL_rowAppS (k := kPth) (bytes := 24) (w := w.alloc (.cells #[] 22)) (X := X) (v := .slice (some ⟨w.heap.size, 0, none⟩) 0 0) (us := []) (ts := a) rfl (Row.made ((push_get _ _ _).trans (if_pos rfl)) (fun h => by have := hX'.out _ h; omega)) (Ext.refl _) (hX'.out.le (Ext.alloc w _).size) (ha'.out.mv (((Ext.alloc w _).mv X).moreL (fun z hz => by simp [vb, Value.ownBlock] at hz; omega)) (by decide)) _ _ _ rfl Tryz.underlying24 Tryz.info22 rfl (by decide) rfl rfl hb0 hm0 ?_; intro v2 w2 hr2 hg2 hd2; have hr2' := Lib.hid hr2; have hE2 : Ext w w2 := (Ext.alloc w _).grown hg2 (fun k hk => by cases hk; exact Nat.le_refl _); have hd2' : Hid (∀ g ∈ vb v2, w.heap.size ≤ g) := Lib.hid (fun g hg => (hd2 g (by simpa [vb] using hg)).elim (fun h => by simp [Value.ownBlock] at h; omega) (fun h => Nat.le_trans (Ext.alloc w _).size h)); clear hr2 hg2 hd2)
    | (refine wpL_rowAppS (k := kPth) (bytes := 24) (w := w2) (X := X) (ts := b) rfl hr2'.out (Ext.refl _) (hX'.out.le hE2.size) (hb'.out.mv ((hE2.mv X).moreL hd2'.out) (by decide)) _ _ _ rfl Tryz.underlying24 Tryz.info22 rfl (by decide) rfl rfl hb1 hm1 ?_; intro v3 w3 hr3 hg3 hd3; have hr3' := Lib.hid hr3; have hE3 := Lib.hid (hE2.grown hg3 (fun k hk => hd2'.out k (by simp [vb, hk]))); have hv3 := hr3.one; clear hr3 hg3 hd3))
  exact hR'.out w3 v3 hE3.out (hr3'.out.isSl (by rw [List.length_append]; exact hbytes'.out))
end Go.Proofs.YtihapgangilncaaGreat
