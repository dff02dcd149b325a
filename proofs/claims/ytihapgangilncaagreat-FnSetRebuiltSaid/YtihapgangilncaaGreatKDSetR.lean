/- Set.Size and Set.Empty. Sets that paths were put into, as sets to read; spec.Listed, spec.EqualSets, laws.lists. -/
import Derived.Test.YtihapgangilncaaGreatKDSetEq
import Derived.Test.YtihapgangilncaaGreatKDToSet
import Derived.Test.YtihapgangilncaaGreatKDFromSet
namespace Go.Proofs.YtihapgangilncaaGreat
open Go.RowKit
set_option linter.unusedSimpArgs false

set_option maxRecDepth 100000 in
set_option maxHeartbeats 4000000 in
theorem peSetSize_c {w : World} {X : List Nat} {b o : Nat} {sv : Value} {us : List PEl} (h1 : w.cell? ⟨b, o, none⟩ = some sv) (hs : IsSl kPe 32 w X sv us) (R : Ending → World → Prop) (hR : Ends R w (.int .i64 us.length)) :
    Calls Tryz.prog 128 #[.pointer (some ⟨b, o, none⟩)] w R := by
  obtain ⟨oo, c, _, _, rfl, -⟩ := id hs.ex
  have hR' := Lib.hid hR
  clear hR hs
  go_enter Tryz.func128, Tryz.ntmps128
  go_wp2_with fail
  exact hR'.out w (Ext.refl w)

/-- Set.Size over a pointer to a set -/
def SzC (k : Kind St) : Prop := ∀ {w : World} {X : List Nat} {sv : Value} {s : St}, k.is w X [sv] s → s.paths.length ≤ 1099511627776 → ∀ R : Ending → World → Prop, Ends R w (.int .i64 s.paths.length) →
  Calls Tryz.prog 73 #[sv] w R

theorem flat_len_take {cs : List (PEl × St)} (m : Nat) : ((cs.take m).flatMap fun p => p.2.paths.map (p.1 :: ·)).length ≤ (cs.flatMap fun p => p.2.paths.map (p.1 :: ·)).length := by
  conv => rhs; rw [← List.take_append_drop m cs, List.flatMap_append, List.length_append]
  exact Nat.le_add_right _ _
theorem flat_len_succ {cs : List (PEl × St)} {m : Nat} (h : m < cs.length) : ((cs.take (m + 1)).flatMap fun p => p.2.paths.map (p.1 :: ·)).length = ((cs.take m).flatMap fun p => p.2.paths.map (p.1 :: ·)).length + (cs[m]'h).2.paths.length := by
  rw [List.take_succ_eq_append_getElem h, List.flatMap_append, List.length_append]
  simp

set_option maxRecDepth 100000 in
set_option maxHeartbeats 4000000 in
set_option pp.maxSteps 1000000 in
set_option pp.deepTerms true in
theorem nodeSize_c {d : Nat} (ih : SzC (kSt d)) {w : World} {X : List Nat} {b1 o1 : Nat} {sv : Value} {cs : List (PEl × St)} (h1 : w.cell? ⟨b1, o1, none⟩ = some sv) (hs : IsSl (kNd (kSt d)) 40 w X sv cs) (hlen : (cs.flatMap fun p => p.2.paths.map (p.1 :: ·)).length ≤ 1099511627776)
    (R : Ending → World → Prop) (hR : Ends R w (.int .i64 (cs.flatMap fun p => p.2.paths.map (p.1 :: ·)).length)) : Calls Tryz.prog 129 #[.pointer (some ⟨b1, o1, none⟩)] w R := by
  obtain ⟨o, c, b, off, rfl, l2, l3, l4, l5⟩ := id hs.ex
  have l4' := Lib.hid l4
  have l5' := Lib.hid l5
  have hR' := Lib.hid hR
  have ih' : Hid (SzC (kSt d)) := Lib.hid ih
  have hlen' := Lib.hid hlen
  have hpI : (cs.length : Int) ≤ 140737488351232 := by omega
  clear hR hs l4 l5 l3 l2 ih hlen
  go_enter Tryz.func129, Tryz.ntmps129
  go_wp2_with fail
  go_loopw [3, 5, 11] (fun n _ i wr => ∃ m a : Nat, m ≤ cs.length ∧ i = .int .i64 m ∧ n = .int .i64 a ∧ Ext w wr ∧ Hid (a = ((cs.take m).flatMap fun p => p.2.paths.map (p.1 :: ·)).length)) (fun _ _ i _ => cs.length - (intOf i).toNat)
  case atStart => exact ⟨0, 0, Nat.zero_le _, rfl, rfl, Ext.refl _, Lib.hid (by simp)⟩
  case round =>
    obtain ⟨m, a, hm, rfl, rfl, hEr, ha⟩ := hrel
    rename World => wr
    by_cases hlt : m < cs.length
    · obtain ⟨ds, hc, hds⟩ := l5'.out m hlt
      obtain ⟨rfl, -⟩ := l4'.out (by omega)
      rw [kNd_size] at hc
      have hone := (kNd (kSt d)).one hds
      obtain ⟨c0, c1, c2, c3, c4, rfl, -, hst, u0, u1, u2, u3, u4⟩ := node5 hds
      have q0 := hEr.keep (hc 0 (by decide))
      have q1 := hEr.keep (hc 1 (by decide))
      have q2 := hEr.keep (hc 2 (by decide))
      have q3 := hEr.keep (hc 3 (by decide))
      have q4 := hEr.keep (hc 4 (by decide))
      simp only [Nat.add_zero] at q0
      have hi2 : (m : Int) < (cs.length : Int) := by omega
      have hkm : (m : Int) + 1 ≤ 9223372036854775807 := by omega
      have hst' := Lib.hid hst
      have hone' := Lib.hid hone
      have hfs := flat_len_succ hlt
      have hft := flat_len_take (cs := cs) (m + 1)
      obtain ⟨n, hn⟩ : ∃ n, (cs[m]'hlt).2.paths.length = n := ⟨_, rfl⟩
      rw [hn, ← ha.out] at hfs
      have hsum : a + n ≤ 1099511627776 := by have := hlen'.out; omega
      have hwr : IntKind.i64.wrap ((a : Int) + (n : Int)) = (a : Int) + (n : Int) := IntWalk.i64_in _ (by omega)
      have hfs' := Lib.hid hfs
      have hn' := Lib.hid hn
      clear hc hds hst hone hfs hft hn u0 u1 u2 u3 u4
      go_wp2_with (refine wpL_storeRow (cells := #[c0, c1, c2, c3, c4]) (b := wr.heap.size) rfl 183 _ _ rfl Tryz.size183 rfl rfl (alloc_new wr _ rfl) rfl (by simpa using hone'.out) ?_; intro w5 h5 g5; have hEx : Ext wr w5 := ((Ext.refl wr).push _).grown g5 (fun k hk => by cases hk; exact Nat.le_refl _); have s0 : w5.cell? ⟨wr.heap.size, 0, none⟩ = some (c0) := cells_of h5 0; have s1 : w5.cell? ⟨wr.heap.size, 1, none⟩ = some (c1) := cells_of h5 1; have s2 : w5.cell? ⟨wr.heap.size, 2, none⟩ = some (c2) := cells_of h5 2; have s3 : w5.cell? ⟨wr.heap.size, 3, none⟩ = some (c3) := cells_of h5 3; have s4 : w5.cell? ⟨wr.heap.size, 4, none⟩ = some (c4) := cells_of h5 4; clear q0 q1 q2 q3 q4 h5 g5 s0 s1 s2 s3)
      refine ih'.out ((kSt d).mv hst'.out ((hEr.trans hEx).mv X)) (by rw [hn'.out]; omega) _ ?_
      rw [hn'.out]
      intro w6 hE6
      have hE' := Lib.hid ((hEr.trans hEx).trans hE6)
      clear hE6 hEx hEr s4
      dsimp only
      go_wp2_with fail
      go_roundw
      case rel => exact ⟨m + 1, a + n, by omega, by go_num, by go_num, hE'.out, Lib.hid hfs'.out.symm⟩
      case measure => simp [intOf]; omega
    · have ek : m = cs.length := by omega
      subst ek
      have hi2 : ¬ (cs.length : Int) < (cs.length : Int) := by omega
      have hae := ha.out
      rw [List.take_of_length_le (Nat.le_refl _)] at hae
      have hae' := Lib.hid hae
      clear ha hae
      go_wp2_with fail
      have := hR'.out
      rw [← hae'.out] at this
      exact this wr hEr

set_option maxRecDepth 100000 in
set_option maxHeartbeats 4000000 in
set_option pp.maxSteps 1000000 in
set_option pp.deepTerms true in
theorem setSize_step {d : Nat} (ih : SzC (kSt d)) : SzC (kSt (d + 1)) := by
  intro w X sv s hs hlen R hR
  obtain ⟨b, vm, vc, hsv, hbX, c0, c1, hms, hcs⟩ := hs
  cases hsv
  have hpl : s.paths.length = s.ms.length + (s.cs.flatMap fun p => p.2.paths.map (p.1 :: ·)).length := by rw [Tr.paths_eq, List.length_append, List.length_map]
  rw [hpl] at hlen hR
  obtain ⟨a, ha⟩ : ∃ a, (Tr.ms s).length = a := ⟨_, rfl⟩
  obtain ⟨n, hn⟩ : ∃ n, (s.cs.flatMap fun p => p.2.paths.map (p.1 :: ·)).length = n := ⟨_, rfl⟩
  rw [ha, hn] at hlen hR
  have hwr : IntKind.i64.wrap ((a : Int) + (n : Int)) = (a : Int) + (n : Int) := IntWalk.i64_in _ (by omega)
  have ha' := Lib.hid ha
  have hn' := Lib.hid hn
  have hms' := Lib.hid hms
  have hcs' := Lib.hid hcs
  have hR' := Lib.hid hR
  have ih' : Hid (SzC (kSt d)) := Lib.hid ih
  clear hms hcs hR ih hbX ha hn hpl
  go_enter Tryz.func73, Tryz.ntmps73
  go_wp2_with fail
  refine wp_region_script [0, 1, 2, 4, 5, 6, 8, 9] [3] (fun w' => Ext w w') [(.pure, 0), (.pure, 1), (.pure, 2), (.pure, 4), (.pure, 5), (.pure, 6), (.one, 3), (.one, 7), (.pure, 8), (.pure, 9)] (by kernel_rfl) (by kernel_rfl) ?_
  have hC : Ext w w.drew := (Ext.refl w).drew
  iterate 6 (apply scr_pure'; (· rfl); (· rfl); (· (intro w'; go_simp; try rfl)); (· (simp [go_sem]; try rfl)))
  refine scr_one rfl rfl (fun K hK => ?_)
  go_simp
  refine peSetSize_c (hC.keep c0) (hms'.out.mv (hC.mv X) (by decide)) _ ?_
  rw [ha'.out]
  intro w3 hE3
  have hE3' := Lib.hid (hC.trans hE3)
  refine hK _ _ (fun _ => hE3'.out) ?_
  clear hK hE3 hC
  refine scr_one rfl rfl (fun K hK => ?_)
  go_simp
  refine nodeSize_c ih'.out (hE3'.out.keep c1) (hcs'.out.mv (hE3'.out.mv X) (by rw [kNd_size]; decide)) (by rw [hn'.out]; omega) _ ?_
  rw [hn'.out]
  intro w4 hE4
  have hE4' := Lib.hid (hE3'.out.trans hE4)
  refine hK _ _ (fun h => by simp at h) ?_
  clear hK hE4
  iterate 2 (apply scr_pure'; (· rfl); (· rfl); (· (intro w'; go_simp; try rfl)); (· (simp [go_sem]; try rfl)))
  refine scr_end ?_
  simp only [Exit.then]
  go_wp2_with fail
  have := hR'.out w4 hE4'.out
  first | exact this | simpa using this
theorem setSize_all : ∀ d, SzC (kSt d)
  | 0 => fun h => False.elim h
  | d + 1 => setSize_step (setSize_all d)
end Go.Proofs.YtihapgangilncaaGreat
namespace Go.Proofs.YtihapgangilncaaGreat
open Go.RowKit
set_option linter.unusedSimpArgs false

mutual
def Tr.erase {β α : Type} : Tr β α → Tr Unit α
  | .mk _ ms cs => .mk () ms (Tr.eraseL cs)
def Tr.eraseL {β α : Type} : List (α × Tr β α) → List (α × Tr Unit α)
  | [] => []
  | p :: cs => Tr.eraseP p :: Tr.eraseL cs
def Tr.eraseP {β α : Type} : α × Tr β α → α × Tr Unit α
  | (e, s) => (e, Tr.erase s)
end
theorem Tr.eraseL_eq {β α : Type} (cs : List (α × Tr β α)) : Tr.eraseL cs = cs.map fun p => (p.1, p.2.erase) := by
  induction cs with
  | nil => simp [Tr.eraseL]
  | cons p cs ih => obtain ⟨e, s⟩ := p; simp [Tr.eraseL, Tr.eraseP, ih]
theorem Tr.erase_eq {β α : Type} (t : β) (ms : List α) (cs : List (α × Tr β α)) : (Tr.mk t ms cs).erase = .mk () ms (cs.map fun p => (p.1, p.2.erase)) := by rw [Tr.erase, Tr.eraseL_eq]
theorem Tr.erase_paths {β α : Type} (s : Tr β α) : s.erase.paths = s.paths := by
  induction s using Tr.ind with
  | h t ms cs ih =>
    rw [Tr.erase_eq, Tr.paths_eq, Tr.paths_eq (.mk t ms cs)]
    simp only [Tr.ms, Tr.cs, List.flatMap_map]
    congr 1
    have : ∀ l : List (α × Tr β α), (∀ p ∈ l, p.2.erase.paths = p.2.paths) → (l.flatMap fun p => p.2.erase.paths.map (p.1 :: ·)) = l.flatMap fun p => p.2.paths.map (p.1 :: ·) := by
      intro l
      induction l with
      | nil => simp
      | cons p l ihl =>
        intro h
        rw [List.flatMap_cons, List.flatMap_cons, h p (by simp), ihl fun q hq => h q (by simp [hq])]
    exact this cs ih
theorem Tr.erase_wf {β α : Type} {c : α → α → Int} {G : α → Prop} {s : Tr β α} (h : s.Wf c G) : s.erase.Wf c G := by
  induction s using Tr.ind with
  | h t ms cs ih =>
    cases h with
    | mk h1 h2 h3 h4 h5 h6 =>
      rw [Tr.erase_eq]
      refine .mk h1 h2 (by rw [List.map_map]; exact h3) (fun p hp => ?_) (fun p hp => ?_) (fun p hp => ?_) <;> obtain ⟨q, hq, rfl⟩ := List.mem_map.1 hp
      · exact h4 q hq
      · rw [Tr.erase_paths]; exact h5 q hq
      · exact ih q hq (h6 q hq)
theorem Tr.erase_has {β α : Type} {c : α → α → Int} {s : Tr β α} {q : List α} : s.erase.has c q ↔ s.has c q := by unfold Tr.has; rw [Tr.erase_paths]

theorem kid_len' {ms : List PEl} {t0 : Nat × Value × Value} {cs : List (PEl × BT)} {p : PEl × BT} (hp : p ∈ cs) : p.2.paths.length ≤ (Tr.mk t0 ms cs).paths.length := by
  obtain ⟨A, B, rfl⟩ := List.append_of_mem hp
  obtain ⟨x, s⟩ := p
  exact kid_len
theorem flat_kid {cs : List (PEl × BT)} {p : PEl × BT} (hp : p ∈ cs) : ∀ n ∈ BT.flat p.2, n ∈ BT.flatL cs := fun n hn => by
  obtain ⟨A, B, rfl⟩ := List.append_of_mem hp
  obtain ⟨x, s⟩ := p
  rw [BT.flatL_mid]
  simp [hn]
/-- a set that paths were put into can be read -/
theorem store_read {G : PEl → Prop} {w : World} {X : List Nat} {Γ : List Nd} (hs : Store w X Γ) (t : BT) : (∀ n ∈ BT.flat t, n ∈ Γ) → Tr.Wf cmpPe G t → t.paths.length * 40 ≤ 140737488351232 → ∃ d, (kSt d).is w X [.pointer (some ⟨BT.b t, 0, none⟩)] t.erase := by
  induction t using Tr.ind with
  | h tg ms cs ih =>
    intro hin hwf hlen
    obtain ⟨b, vm, vc⟩ := tg
    obtain ⟨s1, s2, s3, s4, s5, s6⟩ := Tr.wf_parts hwf
    simp only [Tr.cs] at s6
    have hn := hin ⟨b, vm, vc, ms, ksOf cs⟩ (by rw [BT.flat_eq]; simp)
    have hnd := hs.each _ hn
    have hbl : ∀ g ∈ Nd.bl ⟨b, vm, vc, ms, ksOf cs⟩, g ∉ X := fun g hg => hs.out g (List.mem_flatMap.2 ⟨_, hn, hg⟩)
    have hml : ms.length ≤ (Tr.mk (b, vm, vc) ms cs).paths.length := ms_len (s := .mk (b, vm, vc) ms cs)
    have hcl : cs.length ≤ (Tr.mk (b, vm, vc) ms cs).paths.length := cs_len hwf
    have hkid : ∃ d, ∀ p ∈ cs, (kSt d).is w X [.pointer (some ⟨BT.b p.2, 0, none⟩)] p.2.erase := by
      have hk : ∀ p ∈ cs, ∃ d, (kSt d).is w X [.pointer (some ⟨BT.b p.2, 0, none⟩)] p.2.erase := fun p hp => ih p hp (fun n hnn => hin n (by rw [BT.flat_eq]; exact List.mem_cons_of_mem _ (flat_kid hp n hnn))) (s6 p hp) (Nat.le_trans (Nat.mul_le_mul_right 40 (kid_len' hp)) hlen)
      clear ih hin hwf s3 s4 s5 s6 hn hnd hbl hcl hml hlen s1 s2
      induction cs with
      | nil => exact ⟨0, by simp⟩
      | cons p cs ihc =>
        obtain ⟨d1, h1⟩ := ihc (fun q hq => hk q (by simp [hq]))
        obtain ⟨d2, h2⟩ := hk p (by simp)
        refine ⟨max d1 d2, fun q hq => ?_⟩
        rcases List.mem_cons.1 hq with rfl | hq
        · exact (kSt_le (Nat.le_max_right d1 d2)).2 h2
        · exact (kSt_le (Nat.le_max_left d1 d2)).2 (h1 q hq)
    obtain ⟨d, hd⟩ := hkid
    obtain ⟨r1, m1, m2⟩ := hnd.ms
    obtain ⟨r2, k1, k2⟩ := hnd.ks
    have hrm : Row kPe 89 w X vm ms := ⟨r1, m1, m2.imp fun _ _ h => kPe.mv h ((Mv.refl _ _).less fun g hg => by
      rcases List.mem_append.1 hg with hg | hg
      · exact List.mem_append_left _ (List.mem_flatMap.2 ⟨_, hn, by simp [Nd.bl, hg]⟩)
      · exact List.mem_append_right _ hg), fun g hg => hbl g (by simp [Nd.bl, vb, hg])⟩
    have hrk : Row kBk 183 w X vc (ksOf cs) := ⟨r2, k1, k2.imp fun _ _ h => kBk.mv h ((Mv.refl _ _).less fun g hg => by
      rcases List.mem_append.1 hg with hg | hg
      · exact List.mem_append_left _ (List.mem_flatMap.2 ⟨_, hn, by simp [Nd.bl, hg]⟩)
      · exact List.mem_append_right _ hg), fun g hg => hbl g (by simp [Nd.bl, vb, hg])⟩
    refine ⟨d + 1, b, vm, vc, rfl, hbl b (by simp [Nd.bl]), cells_of hnd.cell 0, cells_of hnd.cell 1, ?_, ?_⟩
    · rw [Tr.erase_eq]
      exact hrm.isSl (Nat.le_trans (Nat.mul_le_mul hml (by decide : 32 ≤ 40)) hlen)
    · rw [Tr.erase_eq]
      obtain ⟨o, c, b2, off, rfl, l2, l3, l4, l5⟩ := (hrk.isSl (bytes := 40) (by simp only [ksOf, List.length_map]; exact Nat.le_trans (Nat.mul_le_mul_right 40 hcl) hlen)).ex
      simp only [Tr.cs]
      have hkl : (ksOf cs).length = cs.length := by simp [ksOf]
      refine ⟨o, c, b2, off, by simp [ksOf], by simpa [ksOf] using l2, by simpa [ksOf] using l3, fun hp => l4 (by simpa [ksOf] using hp), fun i hi => ?_⟩
      have hi' : i < cs.length := by simpa using hi
      obtain ⟨ds, h1, pc, rfl, h2⟩ := l5 i (by rw [hkl]; exact hi')
      rw [kNd_size]
      refine ⟨_, h1, pc, [_], rfl, ?_, ?_⟩
      · have e : (ksOf cs)[i]'(by rw [hkl]; exact hi') = (cs[i].1, BT.b cs[i].2) := by simp [ksOf]
        rw [e] at h2
        rw [List.getElem_map]
        exact h2
      · have e : (ksOf cs)[i]'(by rw [hkl]; exact hi') = (cs[i].1, BT.b cs[i].2) := by simp [ksOf]
        rw [List.getElem_map, e]
        exact hd _ (List.getElem_mem hi')

end Go.Proofs.YtihapgangilncaaGreat
