/- Sets that paths were put into, as sets to read; spec.Listed, spec.EqualSets, laws.lists. Lists of paths as arguments; what a set made of them lists (plain). append of a whole slice to a row; laws.both. Managers as they lie in memory: tameManagers, managerIndex, withManager, CleanManagers, spec.EqualManagers. Sets of paths made of lists: what is in them; impl.SetEqual. -/
import Derived.Test.YtihapgangilncaaGreatKGToSet
import Derived.Test.YtihapgangilncaaGreatKGSpecSet
import Derived.Test.YtihapgangilncaaGreatKGUniP
import Derived.Test.YtihapgangilncaaGreatKGFromS
import Derived.Test.YtihapgangilncaaGreatKGOrdP
import Derived.Test.YtihapgangilncaaGreatKGGrd
import Derived.Test.YtihapgangilncaaGreatKGSetEq
namespace Go.Proofs.YtihapgangilncaaGreat
open Go.RowKit
set_option linter.unusedSimpArgs false

mutual
def Tr.erase {β α : Type} : Tr β α → Tr Unit α
  | .mk _ ms cs => .mk () ms (Tr.eraseL cs)
def Tr.eraseL {β α : Type} : List (α × Tr β α) → List (α × Tr Unit α)
  | [] => []
  | p :: cs => Tr.eraseP p :: Tr.eraseL cs
def Tr.eraseP {β α : Type} : α × Tr β α → α × Tr Unit α
  | (e, s) => (e, Tr.erase s)
end
theorem Tr.eraseL_eq {β α : Type} (cs : List (α × Tr β α)) : Tr.eraseL cs = cs.map fun p => (p.1, p.2.erase) := by
  induction cs with
  | nil => simp [Tr.eraseL]
  | cons p cs ih => obtain ⟨e, s⟩ := p; simp [Tr.eraseL, Tr.eraseP, ih]
theorem Tr.erase_eq {β α : Type} (t : β) (ms : List α) (cs : List (α × Tr β α)) : (Tr.mk t ms cs).erase = .mk () ms (cs.map fun p => (p.1, p.2.erase)) := by rw [Tr.erase, Tr.eraseL_eq]
theorem Tr.erase_paths {β α : Type} (s : Tr β α) : s.erase.paths = s.paths := by
  induction s using Tr.ind with
  | h t ms cs ih =>
    rw [Tr.erase_eq, Tr.paths_eq, Tr.paths_eq (.mk t ms cs)]
    simp only [Tr.ms, Tr.cs, List.flatMap_map]
    congr 1
    have : ∀ l : List (α × Tr β α), (∀ p ∈ l, p.2.erase.paths = p.2.paths) → (l.flatMap fun p => p.2.erase.paths.map (p.1 :: ·)) = l.flatMap fun p => p.2.paths.map (p.1 :: ·) := by
      intro l
      induction l with
      | nil => simp
      | cons p l ihl =>
        intro h
        rw [List.flatMap_cons, List.flatMap_cons, h p (by simp), ihl fun q hq => h q (by simp [hq])]
    exact this cs ih
theorem Tr.erase_wf {β α : Type} {c : α → α → Int} {G : α → Prop} {s : Tr β α} (h : s.Wf c G) : s.erase.Wf c G := by
  induction s using Tr.ind with
  | h t ms cs ih =>
    cases h with
    | mk h1 h2 h3 h4 h5 h6 =>
      rw [Tr.erase_eq]
      refine .mk h1 h2 (by rw [List.map_map]; exact h3) (fun p hp => ?_) (fun p hp => ?_) (fun p hp => ?_) <;> obtain ⟨q, hq, rfl⟩ := List.mem_map.1 hp
      · exact h4 q hq
      · rw [Tr.erase_paths]; exact h5 q hq
      · exact ih q hq (h6 q hq)
theorem Tr.erase_has {β α : Type} {c : α → α → Int} {s : Tr β α} {q : List α} : s.erase.has c q ↔ s.has c q := by unfold Tr.has; rw [Tr.erase_paths]

theorem kid_len' {ms : List PEl} {t0 : Nat × Value × Value} {cs : List (PEl × BT)} {p : PEl × BT} (hp : p ∈ cs) : p.2.paths.length ≤ (Tr.mk t0 ms cs).paths.length := by
  obtain ⟨A, B, rfl⟩ := List.append_of_mem hp
  obtain ⟨x, s⟩ := p
  exact kid_len
theorem flat_kid {cs : List (PEl × BT)} {p : PEl × BT} (hp : p ∈ cs) : ∀ n ∈ BT.flat p.2, n ∈ BT.flatL cs := fun n hn => by
  obtain ⟨A, B, rfl⟩ := List.append_of_mem hp
  obtain ⟨x, s⟩ := p
  rw [BT.flatL_mid]
  simp [hn]
/-- a set that paths were put into can be read -/
theorem store_read {G : PEl → Prop} {w : World} {X : List Nat} {Γ : List Nd} (hs : Store w X Γ) (t : BT) : (∀ n ∈ BT.flat t, n ∈ Γ) → Tr.Wf cmpPe G t → t.paths.length * 40 ≤ 140737488351232 → ∃ d, (kSt d).is w X [.pointer (some ⟨BT.b t, 0, none⟩)] t.erase := by
  induction t using Tr.ind with
  | h tg ms cs ih =>
    intro hin hwf hlen
    obtain ⟨b, vm, vc⟩ := tg
    obtain ⟨s1, s2, s3, s4, s5, s6⟩ := Tr.wf_parts hwf
    simp only [Tr.cs] at s6
    have hn := hin ⟨b, vm, vc, ms, ksOf cs⟩ (by rw [BT.flat_eq]; simp)
    have hnd := hs.each _ hn
    have hbl : ∀ g ∈ Nd.bl ⟨b, vm, vc, ms, ksOf cs⟩, g ∉ X := fun g hg => hs.out g (List.mem_flatMap.2 ⟨_, hn, hg⟩)
    have hml : ms.length ≤ (Tr.mk (b, vm, vc) ms cs).paths.length := ms_len (s := .mk (b, vm, vc) ms cs)
    have hcl : cs.length ≤ (Tr.mk (b, vm, vc) ms cs).paths.length := cs_len hwf
    have hkid : ∃ d, ∀ p ∈ cs, (kSt d).is w X [.pointer (some ⟨BT.b p.2, 0, none⟩)] p.2.erase := by
      have hk : ∀ p ∈ cs, ∃ d, (kSt d).is w X [.pointer (some ⟨BT.b p.2, 0, none⟩)] p.2.erase := fun p hp => ih p hp (fun n hnn => hin n (by rw [BT.flat_eq]; exact List.mem_cons_of_mem _ (flat_kid hp n hnn))) (s6 p hp) (Nat.le_trans (Nat.mul_le_mul_right 40 (kid_len' hp)) hlen)
      clear ih hin hwf s3 s4 s5 s6 hn hnd hbl hcl hml hlen s1 s2
      induction cs with
      | nil => exact ⟨0, by simp⟩
      | cons p cs ihc =>
        obtain ⟨d1, h1⟩ := ihc (fun q hq => hk q (by simp [hq]))
        obtain ⟨d2, h2⟩ := hk p (by simp)
        refine ⟨max d1 d2, fun q hq => ?_⟩
        rcases List.mem_cons.1 hq with rfl | hq
        · exact (kSt_le (Nat.le_max_right d1 d2)).2 h2
        · exact (kSt_le (Nat.le_max_left d1 d2)).2 (h1 q hq)
    obtain ⟨d, hd⟩ := hkid
    obtain ⟨r1, m1, m2⟩ := hnd.ms
    obtain ⟨r2, k1, k2⟩ := hnd.ks
    have hrm : Row kPe 89 w X vm ms := ⟨r1, m1, m2.imp fun _ _ h => kPe.mv h ((Mv.refl _ _).less fun g hg => by
      rcases List.mem_append.1 hg with hg | hg
      · exact List.mem_append_left _ (List.mem_flatMap.2 ⟨_, hn, by simp [Nd.bl, hg]⟩)
      · exact List.mem_append_right _ hg), fun g hg => hbl g (by simp [Nd.bl, vb, hg])⟩
    have hrk : Row kBk 183 w X vc (ksOf cs) := ⟨r2, k1, k2.imp fun _ _ h => kBk.mv h ((Mv.refl _ _).less fun g hg => by
      rcases List.mem_append.1 hg with hg | hg
      · exact List.mem_append_left _ (List.mem_flatMap.2 ⟨_, hn, by simp [Nd.bl, hg]⟩)
      · exact List.mem_append_right _ hg), fun g hg => hbl g (by simp [Nd.bl, vb, hg])⟩
    refine ⟨d + 1, b, vm, vc, rfl, hbl b (by simp [Nd.bl]), cells_of hnd.cell 0, cells_of hnd.cell 1, ?_, ?_⟩
    · rw [Tr.erase_eq]
      exact hrm.isSl (Nat.le_trans (Nat.mul_le_mul hml (by decide : 32 ≤ 40)) hlen)
    · rw [Tr.erase_eq]
      obtain ⟨o, c, b2, off, rfl, l2, l3, l4, l5⟩ := (hrk.isSl (bytes := 40) (by simp only [ksOf, List.length_map]; exact Nat.le_trans (Nat.mul_le_mul_right 40 hcl) hlen)).ex
      simp only [Tr.cs]
      have hkl : (ksOf cs).length = cs.length := by simp [ksOf]
      refine ⟨o, c, b2, off, by simp [ksOf], by simpa [ksOf] using l2, by simpa [ksOf] using l3, fun hp => l4 (by simpa [ksOf] using hp), fun i hi => ?_⟩
      have hi' : i < cs.length := by simpa using hi
      obtain ⟨ds, h1, pc, rfl, h2⟩ := l5 i (by rw [hkl]; exact hi')
      rw [kNd_size]
      refine ⟨_, h1, pc, [_], rfl, ?_, ?_⟩
      · have e : (ksOf cs)[i]'(by rw [hkl]; exact hi') = (cs[i].1, BT.b cs[i].2) := by simp [ksOf]
        rw [e] at h2
        rw [List.getElem_map]
        exact h2
      · have e : (ksOf cs)[i]'(by rw [hkl]; exact hi') = (cs[i].1, BT.b cs[i].2) := by simp [ksOf]
        rw [List.getElem_map, e]
        exact hd _ (List.getElem_mem hi')

set_option maxRecDepth 100000 in
set_option maxHeartbeats 4000000 in
set_option pp.maxSteps 1000000 in
set_option pp.deepTerms true in
theorem listed_c {w : World} {X Y : List Nat} {va vb : Value} {p q : List (List EL)} (ha : IsSl kPth 24 w X va p) (hb : IsSl kPth 24 w Y vb q) (R : Ending → World → Prop) (hR : Ends R w (.bool (listB (listB eqEl) p q))) :
    Calls Tryz.prog 70 #[va, vb] w R := by
  obtain ⟨o, c, b, off, rfl, l2, l3, l4, l5⟩ := id ha.ex
  obtain ⟨o2, c2, b2, off2, rfl, m2, m3, m4, m5⟩ := id hb.ex
  have l4' := Lib.hid l4
  have l5' := Lib.hid l5
  have m4' := Lib.hid m4
  have m5' := Lib.hid m5
  have hR' := Lib.hid hR
  have hpI : (p.length : Int) ≤ 140737488351232 := by omega
  clear hR ha hb l4 l5 m4 m5 l3 m3 l2 m2
  by_cases hlen : p.length = q.length
  · have hlenI : ((p.length : Int) != (q.length : Int)) = false := by simp [hlen]
    have hlen' := Lib.hid hlen
    clear hlen
    go_enter Tryz.func70, Tryz.ntmps70
    go_wp2_with fail
    go_loopw [5, 13] (fun _ i wr => ∃ k : Nat, k ≤ p.length ∧ i = .int .i64 k ∧ Ext w wr ∧ Hid (∀ j (h : j < p.length) (h2 : j < q.length), j < k → listB eqEl p[j] q[j] = true)) (fun _ i _ => p.length - (intOf i).toNat)
    case atStart => exact ⟨0, Nat.zero_le _, rfl, Ext.refl _, Lib.hid fun j _ _ hj => by omega⟩
    case round =>
      obtain ⟨k, hk, rfl, hEr, hall⟩ := hrel
      rename World => wr
      by_cases hlt : k < p.length
      · have hlt2 : k < q.length := by have := hlen'.out; omega
        obtain ⟨cs, hc, hcs⟩ := l5'.out k hlt
        obtain ⟨ds, hd, hds⟩ := m5'.out k hlt2
        obtain ⟨rfl, -⟩ := l4'.out (by omega)
        obtain ⟨rfl, -⟩ := m4'.out (by omega)
        obtain ⟨pv, rfl, hpv⟩ := hcs
        obtain ⟨qv, rfl, hqv⟩ := hds
        have x0 := hEr.keep (hc 0 (by decide))
        have y0 := hEr.keep (hd 0 (by decide))
        simp only [show kPth.size = 1 from rfl, Nat.add_zero, Nat.mul_one, List.getElem?_cons_zero] at x0 y0
        have hpo := hpv.one
        have hqo := hqv.one
        have hpv' := Lib.hid hpv
        have hqv' := Lib.hid hqv
        have hi1 : (k : Int) < (p.length : Int) := by omega
        have hi2 : (k : Int) < (q.length : Int) := by omega
        have hkm : (k : Int) + 1 ≤ 9223372036854775807 := by omega
        have hEr' := Lib.hid hEr
        clear hc hd hpv hqv
        go_wp2_with fail
        refine wp_region_script [0, 1, 2, 3, 4, 5, 6, 7, 9] [] (fun w' => Ext wr w') [(.pure, 0), (.pure, 1), (.pure, 2), (.read, 3), (.pure, 4), (.pure, 5), (.pure, 6), (.read, 7), (.one, 8), (.pure, 9)] (by kernel_rfl) (by kernel_rfl) ?_
        have hC : Ext wr wr.drew := (Ext.refl wr).drew
        iterate 3 (apply scr_pure'; (· rfl); (· rfl); (· (intro w'; go_simp; try rfl)); (· (simp [go_sem]; try rfl)))
        (apply scr_read'; (· rfl); (· rfl); (· first | exact hC | exact (Ext.refl _).drew); (· (intro w' hw'; have x0_ := hw'.keep x0; go_simp; try rfl)); (· (simp [go_sem]; try rfl)))
        iterate 3 (apply scr_pure'; (· rfl); (· rfl); (· (intro w'; go_simp; try rfl)); (· (simp [go_sem]; try rfl)))
        (apply scr_read'; (· rfl); (· rfl); (· first | exact hC | exact (Ext.refl _).drew); (· (intro w' hw'; have y0_ := hw'.keep y0; go_simp; try rfl)); (· (simp [go_sem]; try rfl)))
        refine scr_one rfl rfl (fun K hK => ?_)
        go_simp
        refine specEqualPaths_c (hpv'.out.mv ((hEr'.out.trans hC).mv X) (by decide)) (hqv'.out.mv ((hEr'.out.trans hC).mv Y) (by decide)) _ ?_
        obtain ⟨bb, hbb⟩ : ∃ bb, listB eqEl p[k] q[k] = bb := ⟨_, rfl⟩
        rw [hbb]
        intro w3 hE3
        refine hK _ _ (fun h => by simp at h) ?_
        have hbb' := Lib.hid hbb
        have hE3' := Lib.hid ((hEr'.out.trans hC).trans hE3)
        clear hK hbb hE3 hC x0 y0 hEr
        cases bb
        · (apply scr_pure'; (· rfl); (· rfl); (· (intro w'; go_simp; try rfl)); (· (simp [go_sem]; try rfl)))
          refine scr_end ?_
          simp only [Exit.then]
          go_wp2_with fail
          have hf : listB (listB eqEl) p q = false := by
            rw [← Bool.not_eq_true]
            intro h
            simp only [listB, Bool.and_eq_true, decide_eq_true_eq] at h
            have := (pairB_iff (f := listB eqEl) h.1).1 h.2 k hlt hlt2
            rw [hbb'.out] at this
            cases this
          have := hR'.out
          rw [hf] at this
          exact this _ hE3'.out
        · (apply scr_pure'; (· rfl); (· rfl); (· (intro w'; go_simp; try rfl)); (· (simp [go_sem]; try rfl)))
          refine scr_end ?_
          simp only [Exit.then]
          go_wp2_with fail
          go_roundw
          case rel =>
            refine ⟨k + 1, by omega, by go_num, hE3'.out, Lib.hid fun j h h2 hj => ?_⟩
            by_cases e : j = k
            · subst e; exact hbb'.out
            · exact hall.out j h h2 (by omega)
          case measure => simp [intOf]; omega
      · have hi1 : ¬ (k : Int) < (p.length : Int) := by omega
        have hf : listB (listB eqEl) p q = true := by
          simp only [listB, Bool.and_eq_true, decide_eq_true_eq]
          exact ⟨hlen'.out, (pairB_iff hlen'.out).2 fun j h h2 => hall.out j h h2 (by omega)⟩
        rw [hf] at hR'
        clear hf hall
        go_wp2_with fail
        exact hR'.out _ hEr
  · have hlenI : ((p.length : Int) != (q.length : Int)) = true := by rw [bne_iff_ne]; omega
    have hf : listB (listB eqEl) p q = false := by simp [listB, hlen]
    rw [hf] at hR'
    clear hf
    go_enter Tryz.func70, Tryz.ntmps70
    go_wp2_with fail
    exact hR'.out w (Ext.refl w)

end Go.Proofs.YtihapgangilncaaGreat
namespace Go.Proofs.YtihapgangilncaaGreat
open Go.RowKit Go.Deep Go.ChangeShapes Go.WideShapes
set_option linter.unusedSimpArgs false

section
variable {H : Type} {enc : TypeId × Value → H} {w : World} {base : Nat} {spare : Nat → Bool} {held : Bool}
theorem eleven_ofP {cs : List Value} (h : cs.length = 11) : ∃ c0 c1 c2 c3 c4 c5 c6 c7 c8 c9 c10, cs = [c0, c1, c2, c3, c4, c5, c6, c7, c8, c9, c10] := by
  match cs, h with
  | [c0, c1, c2, c3, c4, c5, c6, c7, c8, c9, c10], _ => exact ⟨_, _, _, _, _, _, _, _, _, _, _, rfl⟩
theorem read_elP {fuel : Nat} {cs : List Value} {x : DataW H × List MemPlace} (h : DataW.trod enc Tryz.prog w base spare held fuel 47 cs = some x)
    (hw : (x.1.weights Tryz.prog 47).all (· ≤ reachBytes) = true) : ∃ e, kEl.is w [] cs e := by
  obtain ⟨hlen, n, hn, hf⟩ := read_fields Tryz.underlying47 h hw
  have q : Tryz.prog.cellsOf 47 = 11 := by kernel_rfl
  have q0 : Tryz.prog.cellsOf 3 = 1 := by kernel_rfl
  have q1 : Tryz.prog.cellsOf 9 = 1 := by kernel_rfl
  have q2 : Tryz.prog.cellsOf 41 = 1 := by kernel_rfl
  have q3 : Tryz.prog.cellsOf 42 = 1 := by kernel_rfl
  have q4 : Tryz.prog.cellsOf 45 = 6 := by kernel_rfl
  rw [q] at hlen
  obtain ⟨c0, c1, c2, c3, c4, c5, c6, c7, c8, c9, c10, rfl⟩ := eleven_ofP hlen
  have e0 := hf 0
  have e1 := hf 1
  have e2 := hf 2
  have e3 := hf 3
  have e4 := hf 4
  have e5 := hf 5
  simp only [List.getElem?_toArray, List.getElem?_cons_zero, List.getElem?_cons_succ, Option.some.injEq, forall_eq', q0, q1, q2, q3, q4, List.drop_zero, List.drop_succ_cons, List.take_succ_cons, List.take_zero] at e0 e1 e2 e3 e4 e5
  obtain ⟨y0, t0, w0⟩ := e0
  obtain ⟨y1, t1, w1⟩ := e1
  obtain ⟨y2, t2, w2⟩ := e2
  obtain ⟨y3, t3, w3⟩ := e3
  obtain ⟨y4, t4, w4⟩ := e4
  obtain ⟨y5, t5, w5⟩ := e5
  obtain ⟨k0, h0, -, wf0⟩ := DataW.trod_int Tryz.underlying3 t0
  obtain ⟨s1, h1, hs1⟩ := read_str t1 w1
  obtain ⟨v2, ss, h2, hss⟩ := read_strs t2 w2
  obtain ⟨v3, vs, h3, hvs⟩ := read_vs t3 w3
  obtain ⟨v, hv⟩ := read_v n _ _ t4 w4
  obtain ⟨k5, h5, -, wf5⟩ := DataW.trod_int Tryz.underlying3 t5
  simp only [List.cons.injEq, and_true] at h0 h1 h2 h3 h5
  subst h0 h1 h2 h3 h5
  exact ⟨⟨k0, s1, ss, vs, v, k5⟩, _, _, [c4, c5, c6, c7, c8, c9], rfl, wf0, wf5, hs1, hss, hvs, hv⟩
theorem read_path1 {fuel : Nat} {cs : List Value} {x : DataW H × List MemPlace} (h : DataW.trod enc Tryz.prog w base spare held fuel 22 cs = some x)
    (hw : (x.1.weights Tryz.prog 22).all (· ≤ reachBytes) = true) : ∃ v p, cs = [v] ∧ IsSl kEl 168 w [] v p :=
  read_sl (k := kEl) (bytes := 168) (by simp [kEl]) Tryz.underlying22 (by kernel_rfl) (by kernel_rfl) (fun f _ cs x h hw => read_elP h hw) h hw
end

theorem good_list {w : World} {X : List Nat} {va : Value} {l : List (List EL)} (ha : IsSl kPth 24 w X va l) (ht : ∀ p ∈ l, ∀ e ∈ p, tameEl e) : ∀ p ∈ l, GP GoodE (p.map toE) := by
  obtain ⟨o, c, b, off, -, -, -, -, l5⟩ := ha.ex
  intro p hp x hx
  obtain ⟨e, he, rfl⟩ := List.mem_map.1 hx
  refine ⟨e, ht p hp e he, ?_, rfl⟩
  obtain ⟨i, hi, rfl⟩ := List.getElem_of_mem hp
  obtain ⟨cs, -, v, -, hv⟩ := l5 i hi
  obtain ⟨o2, c2, b2, off2, -, -, -, -, m5⟩ := hv.ex
  obtain ⟨j, hj, rfl⟩ := List.getElem_of_mem he
  obtain ⟨ds, -, vk, vl, vs, -, -, -, -, -, hl, -⟩ := m5 j hj
  obtain ⟨_, _, _, _, -, -, hb, -⟩ := hl.ex
  exact hb
end Go.Proofs.YtihapgangilncaaGreat
namespace Go.Proofs.YtihapgangilncaaGreat
open Go.RowKit
set_option linter.unusedSimpArgs false

section
variable {P : Program}
/-- v = append(v, s...) -/
theorem wpL_rowAppS {α : Type} {k : Kind α} {bytes : Nat} {w w2 : World} {X : List Nat} {v sv : Value} {us ts : List α} {e : TypeId} {ops : Array Oper} {rest : List Oper} {o : Oper} {a : Act} {Q : Exit → Act → World → Prop} (hgd : o.guard = none)
    (hrow : Row k e w X v us) (hE : Ext w w2) (hX : Old X w2) (hs2 : IsSl k bytes w2 (vb v ++ X) sv ts) (s x : Operand) (t : TypeId)
    (ho : o.op = .call { callee := .builtin .append, args := #[s, x], argTypes := #[t, t] })
    {z : Value} (ht : P.underlying t = some (.slice e)) (hi : (P.info? e).map (fun i => (i.zero, i.size, i.bytes)) = some (some z, k.size, bytes))
    (hzs : z.cells.size = k.size) (hsz : 0 < k.size) (hs : a.eval s = v) (hx : a.eval x = sv)
    (hbytes : (us.length + ts.length) * bytes ≤ 140737488355328) (h63 : us.length + ts.length ≤ maxLen)
    (h : ∀ v' w', Row k e w' X v' (us ++ ts) → w2.grownBy w' v.ownBlock → (∀ g, v'.ownBlock = some g → v.ownBlock = some g ∨ w2.heap.size ≤ g) → wpList P ops Q rest (a.put o.dst v') w') : wpList P ops Q (o :: rest) a w2 := by
  obtain ⟨rows, h1, h2, h3⟩ := hrow.ex
  obtain ⟨so, c, b, off, rs, rfl, l2, l3, l4, r1, r2⟩ := hs2.rows
  have hml := All2.mem_len (s := k.size) (fun r a h => k.len h) r1
  have hrl : rs.flatten.length = ts.length * k.size := by rw [flat_len hml, r1.length]
  refine wpL_appendG hgd s x t ho e ht hi hzs hsz (h1.ext hE) hs so ts.length c rs.flatten hx hrl (fun hn => ?_) (fun ad had j u hj => ?_) (Row.flat r1) h63 hbytes ?_
  · rcases Nat.eq_zero_or_pos ts.length with h0 | h0
    · exact h0
    · have := (l4 h0).1; rw [hn] at this; cases this
  · have hp : 0 < ts.length := by
      rcases Nat.eq_zero_or_pos ts.length with h0 | h0
      · rw [h0, Nat.zero_mul] at hrl
        rw [List.eq_nil_of_length_eq_zero hrl] at hj
        simp at hj
      · exact h0
    have := (l4 hp).1
    rw [had] at this
    cases this
    rw [addr_add]
    exact r2 j u hj
  · intro v' w' k1 k2 _ k4
    have hd : ∀ g, v'.ownBlock = some g → v.ownBlock = some g ∨ w2.heap.size ≤ g := fun g hg => (k4 g hg).imp id (fun e => Nat.le_of_eq e.symm)
    have hmv : Mv w2 (vb v ++ X) w' (vb v' ++ X) := Mv.app k2 hd
    refine h v' w' ⟨rows ++ rs, by simpa using k1, (h2.imp fun _ _ h => k.mv (k.mv h (hE.mv _)) hmv).glue (r1.imp fun _ _ h => k.mv h hmv), fun g hg hx => ?_⟩ k2 hd
    rcases hd g hg with h | h
    · exact h3 g h hx
    · have := hX g hx; omega
end

end Go.Proofs.YtihapgangilncaaGreat
namespace Go.Proofs.YtihapgangilncaaGreat
open Go.RowKit Go.Deep Go.ChangeShapes Go.WideShapes
set_option linter.unusedSimpArgs false

theorem Tryz.info104 : (Tryz.prog.info? 104).map (fun i => (i.zero, i.size, i.bytes)) = some (some (.agg #[.string ⟨#[]⟩, .string ⟨#[]⟩, .bool false, .slice none 0 0]), 4, 64) := by kernel_rfl
theorem Tryz.size104 : (Tryz.prog.info? 104).map (·.size) = some 4 := by kernel_rfl

structure Mg where
  (name ver : ByteArray) (app : Bool) (set : List (List EL))
/-- impl.Manager -/
def kMg : Kind Mg where
  size := 4
  is := fun w X cs m => ∃ sv, cs = [.string m.name, .string m.ver, .bool m.app, sv] ∧ m.name.size ≤ 140737488351232 ∧ m.ver.size ≤ 140737488351232 ∧ IsSl kPth 24 w X sv m.set
  mv := fun ⟨sv, h1, h2, h3, h4⟩ m => ⟨sv, h1, h2, h3, h4.mv m (by decide)⟩
  len := fun ⟨sv, h1, _⟩ => by rw [h1]; rfl
  one := fun ⟨sv, h1, _, _, h4⟩ u hu => by
    rw [h1] at hu
    simp only [List.mem_cons, List.not_mem_nil, or_false] at hu
    rcases hu with rfl | rfl | rfl | rfl
    · rfl
    · rfl
    · rfl
    · exact h4.one

section
variable {H : Type} {enc : TypeId × Value → H} {w : World} {base : Nat} {spare : Nat → Bool} {held : Bool}
theorem four_ofM {cs : List Value} (h : cs.length = 4) : ∃ c0 c1 c2 c3, cs = [c0, c1, c2, c3] := by
  match cs, h with
  | [c0, c1, c2, c3], _ => exact ⟨_, _, _, _, rfl⟩
end

/-- where the managers begin whose names are not less -/
def mIdx (l : List Mg) (n : ByteArray) : Nat := (l.takeWhile fun m => decide (cmpS m.name n < 0)).length
def mHasAt (l : List Mg) (n : ByteArray) : Bool := match l[mIdx l n]? with
  | some m => m.name == n
  | none => false
def withM (l : List Mg) (m : Mg) : List Mg := l.take (mIdx l m.name) ++ m :: l.drop (if mHasAt l m.name then mIdx l m.name + 1 else mIdx l m.name)

theorem mIdx_le (l : List Mg) (n : ByteArray) : mIdx l n ≤ l.length := (List.takeWhile_sublist _).length_le
theorem mIdx_at {l : List Mg} {n : ByteArray} {i : Nat} (hi : i ≤ l.length) (h1 : ∀ j (h : j < l.length), j < i → cmpS l[j].name n < 0) (h2 : ∀ h : i < l.length, ¬ cmpS l[i].name n < 0) : mIdx l n = i := by
  unfold mIdx
  induction l generalizing i with
  | nil => simp at hi; subst hi; rfl
  | cons x l ih =>
    cases i with
    | zero =>
      have := h2 (by simp)
      simp only [List.getElem_cons_zero] at this
      rw [List.takeWhile_cons_of_neg (by simpa using this)]
      rfl
    | succ i =>
      have := h1 0 (by simp) (by omega)
      simp only [List.getElem_cons_zero] at this
      rw [List.takeWhile_cons_of_pos (by simpa using this), List.length_cons, ih (by simpa using hi) (fun j h hj => by have := h1 (j + 1) (by simpa using h) (by omega); rwa [List.getElem_cons_succ] at this) (fun h => by have := h2 (by simpa using h); rwa [List.getElem_cons_succ] at this)]

set_option maxRecDepth 100000 in
set_option maxHeartbeats 4000000 in
set_option pp.maxSteps 1000000 in
set_option pp.deepTerms true in
theorem tameManagers_c {w : World} {va : Value} {l : List Mg} (ha : IsSl kMg 64 w [] va l) (R : Ending → World → Prop) (hR : ∀ t, (t = true → ∀ m ∈ l, ∀ p ∈ m.set, ∀ e ∈ p, tameEl e) → Ends R w (.bool t)) :
    Calls Tryz.prog 21 #[va] w R := by
  obtain ⟨o, c, b, off, rfl, l2, l3, l4, l5⟩ := id ha.ex
  have l4' := Lib.hid l4
  have l5' := Lib.hid l5
  have hR' := Lib.hid hR
  have hlI : (l.length : Int) ≤ 140737488351232 := by omega
  clear hR ha l4 l5 l3 l2
  go_enter Tryz.func21, Tryz.ntmps21
  go_wp2_with fail
  go_loopw [7] (fun i wr => ∃ k : Nat, k ≤ l.length ∧ i = .int .i64 k ∧ Ext w wr ∧ Hid (∀ m ∈ l.take k, ∀ p ∈ m.set, ∀ e ∈ p, tameEl e)) (fun i _ => l.length - (intOf i).toNat)
  case atStart => exact ⟨0, Nat.zero_le _, rfl, Ext.refl _, Lib.hid (by simp)⟩
  case round =>
    obtain ⟨k, hk, rfl, hEr, hall⟩ := hrel
    rename World => wr
    by_cases hlt : k < l.length
    · obtain ⟨cs, hc, hcs⟩ := l5'.out k hlt
      obtain ⟨rfl, -⟩ := l4'.out (by omega)
      have htk := Lib.hid (show l.take (k + 1) = l.take k ++ [l[k]] from List.take_succ_eq_append_getElem hlt)
      obtain ⟨m, hm⟩ : ∃ m, l[k] = m := ⟨_, rfl⟩
      rw [hm] at hcs htk
      obtain ⟨sv, rfl, n1, n2, hsv⟩ := hcs
      obtain ⟨so, sc, -, -, rfl, -⟩ := id hsv.ex
      have q0 := hEr.keep (hc 0 (by decide))
      have q1 := hEr.keep (hc 1 (by decide))
      have q2 := hEr.keep (hc 2 (by decide))
      have q3 := hEr.keep (hc 3 (by decide))
      simp only [show kMg.size = 4 from rfl, Nat.add_zero] at q0 q1 q2 q3
      have hi1 : (k : Int) < (l.length : Int) := by omega
      have hkm : (k : Int) + 1 ≤ 9223372036854775807 := by omega
      have hone := hsv.one
      have hsv' := Lib.hid hsv
      clear hc hm n1 n2 hsv
      go_wp2_with (refine wpL_storeRow (cells := #[.string m.name, .string m.ver, .bool m.app, .slice so m.set.length sc]) rfl 104 _ _ rfl Tryz.size104 rfl rfl (alloc_new _ _ rfl) rfl (by simp [Value.oneCell']) ?_; intro w5 h5 g5; have hEx : Ext wr w5 := ((Ext.refl wr).push _).grown g5 (fun k hk => by cases hk; exact Nat.le_refl _); have s0 : w5.cell? ⟨wr.heap.size, 0, none⟩ = some (.string m.name) := cells_of h5 0; have s1 : w5.cell? ⟨wr.heap.size, 1, none⟩ = some (.string m.ver) := cells_of h5 1; have s2 : w5.cell? ⟨wr.heap.size, 2, none⟩ = some (.bool m.app) := cells_of h5 2; have s3 : w5.cell? ⟨wr.heap.size, 3, none⟩ = some (.slice so m.set.length sc) := cells_of h5 3; have hEx' := Lib.hid (hEr.trans hEx); clear hEx h5 g5)
      refine orderlyPaths_c (hsv'.out.mv (hEx'.out.mv []) (by decide)) _ ?_
      intro t ht w6 hE6
      have ht' := Lib.hid ht
      have hE6' := Lib.hid (hEx'.out.trans hE6)
      clear ht hE6
      dsimp only
      cases t
      · go_wp2_with fail
        exact hR'.out false (fun h => by cases h) w6 hE6'.out
      · go_wp2_with fail
        go_roundw
        case rel =>
          refine ⟨k + 1, by omega, by go_num, hE6'.out, Lib.hid fun m' hm' => ?_⟩
          rw [htk.out] at hm'
          rcases List.mem_append.1 hm' with h | h
          · exact hall.out m' h
          · rw [List.mem_singleton.1 h]; exact ht'.out rfl
        case measure => simp [intOf]; omega
    · have ek : k = l.length := by omega
      subst ek
      have hn := hall.out
      rw [List.take_of_length_le (Nat.le_refl _)] at hn
      have hn' := Lib.hid hn
      clear hn hall
      go_wp2_with fail
      exact hR'.out true (fun _ => hn'.out) wr hEr

set_option maxRecDepth 100000 in
set_option maxHeartbeats 4000000 in
set_option pp.maxSteps 1000000 in
set_option pp.deepTerms true in
theorem managerIndex_c {w : World} {X : List Nat} {va : Value} {l : List Mg} {n : ByteArray} (ha : IsSl kMg 64 w X va l) (R : Ending → World → Prop) (hR : ∀ w', Ext w w' → R (.returned (.tuple #[.int .i64 (mIdx l n), .bool (mHasAt l n)])) w') :
    Calls Tryz.prog 153 #[va, .string n] w R := by
  obtain ⟨o, c, b, off, rfl, l2, l3, l4, l5⟩ := id ha.ex
  have l4' := Lib.hid l4
  have l5' := Lib.hid l5
  have hR' := Lib.hid hR
  have hlI : (l.length : Int) ≤ 140737488351232 := by omega
  clear hR ha l4 l5 l3 l2
  go_enter Tryz.func153, Tryz.ntmps153
  go_wp2_with fail
  go_loopw [6] (fun i wr => ∃ k : Nat, k ≤ l.length ∧ i = .int .i64 k ∧ Ext w wr ∧ Hid (∀ j (h : j < l.length), j < k → cmpS l[j].name n < 0)) (fun i _ => l.length - (intOf i).toNat)
  case atStart => exact ⟨0, Nat.zero_le _, rfl, Ext.refl _, Lib.hid fun j _ hj => by omega⟩
  case round =>
    obtain ⟨k, hk, rfl, hEr, hall⟩ := hrel
    rename World => wr
    by_cases hlt : k < l.length
    · obtain ⟨cs, hc, hcs⟩ := l5'.out k hlt
      obtain ⟨rfl, -⟩ := l4'.out (by omega)
      have hnx := Lib.hid (show cmpS l[k].name n < 0 → ∀ j (h : j < l.length), j < k + 1 → cmpS l[j].name n < 0 from fun h0 j h hj => by
        by_cases e : j = k
        · subst e; exact h0
        · exact hall.out j h (by omega))
      have hix := Lib.hid (show ¬ cmpS l[k].name n < 0 → mIdx l n = k from fun h0 => mIdx_at hk hall.out fun _ => h0)
      have hha := Lib.hid (show mIdx l n = k → mHasAt l n = (l[k].name.toList == n.toList) from fun h0 => by unfold mHasAt; rw [h0, List.getElem?_eq_getElem hlt, ← beq_bytes])
      obtain ⟨m, hm⟩ : ∃ m, l[k] = m := ⟨_, rfl⟩
      rw [hm] at hcs hnx hix hha
      obtain ⟨sv, rfl, n1, n2, hsv⟩ := hcs
      have a0 := hc 0 (by decide)
      simp only [show kMg.size = 4 from rfl, Nat.add_zero] at a0
      have q0 := hEr.keep a0
      have hi1 : (k : Int) < (l.length : Int) := by omega
      have hkm : (k : Int) + 1 ≤ 9223372036854775807 := by omega
      clear hc hm n2 hsv
      go_wp2_with fail
      refine specCompareStrings_c n1 _ ?_
      obtain ⟨z, hz⟩ : ∃ z, cmpS m.name n = z := ⟨_, rfl⟩
      rw [hz] at hnx hix ⊢
      intro w3 hE3
      have hE03 := Lib.hid (hEr.trans hE3)
      clear hz q0 hE3
      dsimp only
      by_cases hz0 : z < 0
      · go_wp2_with fail
        go_roundw
        case rel => exact ⟨k + 1, by omega, by go_num, hE03.out, Lib.hid (hnx.out hz0)⟩
        case measure => simp [intOf]; omega
      · have q0 := hE03.out.keep a0
        have hq := hE03.out.drew.keep a0
        have e1 := hix.out (by omega)
        have e2 := hha.out e1
        obtain ⟨r, hr⟩ : ∃ r, (m.name.toList == n.toList) = r := ⟨_, rfl⟩
        rw [hr] at e2
        have hR2 := hR'.out w3.drew hE03.out.drew
        rw [e1, e2] at hR2
        have hR2' := Lib.hid hR2
        clear hR2 e1 e2 hix hha hnx
        go_wp2_with fail
        refine wp_region_script (List.range 16) [] (fun w' => w' = w3.drew) [(.read, 0), (.read, 1), (.read, 2), (.read, 3), (.read, 4), (.read, 5), (.read, 6), (.read, 7), (.read, 8), (.read, 9), (.read, 10), (.read, 11), (.read, 12), (.read, 13), (.read, 14), (.read, 15)] (by kernel_rfl) (by kernel_rfl) ?_
        iterate 16 (first | (apply scr_r; (· rfl); (· (first | rfl | (simp [Region.wanted, yielded, go_sem]; done) | (simp [Region.wanted, yielded, go_sem, *]; done))); (· (go_simp; try rfl)); (· (simp [go_sem]; try rfl))) | (apply scr_r0; (· rfl); (· (first | rfl | (simp [Region.wanted, yielded, go_sem]; done) | (simp [Region.wanted, yielded, go_sem, *]; done))); (· (simp [go_sem]; try rfl))))
        refine scr_end ?_
        try simp only [Exit.then]
        go_wp2_with fail
        exact hR2'.out
    · have ek : k = l.length := by omega
      subst ek
      have hi1 : ¬ (l.length : Int) < (l.length : Int) := by omega
      have e1 : mIdx l n = l.length := mIdx_at (Nat.le_refl _) hall.out (fun h => by omega)
      have e2 : mHasAt l n = false := by unfold mHasAt; rw [e1, List.getElem?_eq_none (Nat.le_refl _)]
      have hR2 := hR'.out wr.drew hEr.drew
      rw [e1, e2] at hR2
      have hR2' := Lib.hid hR2
      clear hR2 e1 e2 hall
      go_wp2_with fail
      refine wp_region_script (List.range 16) [] (fun w' => w' = wr.drew) [(.read, 0), (.read, 1), (.read, 2), (.read, 3), (.read, 4), (.read, 5), (.read, 6), (.read, 7), (.read, 8), (.read, 9), (.read, 10), (.read, 11), (.read, 12), (.read, 13), (.read, 14), (.read, 15)] (by kernel_rfl) (by kernel_rfl) ?_
      iterate 16 (first | (apply scr_r; (· rfl); (· (first | rfl | (simp [Region.wanted, yielded, go_sem]; done) | (simp [Region.wanted, yielded, go_sem, *]; done))); (· (go_simp; try rfl)); (· (simp [go_sem]; try rfl))) | (apply scr_r0; (· rfl); (· (first | rfl | (simp [Region.wanted, yielded, go_sem]; done) | (simp [Region.wanted, yielded, go_sem, *]; done))); (· (simp [go_sem]; try rfl))))
      refine scr_end ?_
      try simp only [Exit.then]
      go_wp2_with fail
      exact hR2'.out
end Go.Proofs.YtihapgangilncaaGreat
namespace Go.Proofs.YtihapgangilncaaGreat
open Go.RowKit
set_option linter.unusedSimpArgs false

/-- q is among the paths of l -/
def memP (l : List (List EL)) (q : List PEl) : Prop := ∃ p ∈ l.map (·.map toE), p ≠ [] ∧ wc cmpPe p q = 0
theorem equalSets_iff {a b : List (List EL)} (ha : ∀ p ∈ a, GP GoodE (p.map toE)) (hb : ∀ p ∈ b, GP GoodE (p.map toE)) : listB (listB eqEl) ((setOf (a.map (·.map toE))).map (·.map backE)) ((setOf (b.map (·.map toE))).map (·.map backE)) = true ↔ ∀ q, GP GoodE q → (memP a q ↔ memP b q) := by
  have hA : ∀ p ∈ a.map (·.map toE), GP GoodE p := fun p hp => by obtain ⟨r, hr, rfl⟩ := List.mem_map.1 hp; exact ha r hr
  have hB : ∀ p ∈ b.map (·.map toE), GP GoodE p := fun p hp => by obtain ⟨r, hr, rfl⟩ := List.mem_map.1 hp; exact hb r hr
  have fA := setOf_facts goodE_ord hA
  have fB := setOf_facts goodE_ord hB
  have gA : ∀ p ∈ setOf (a.map (·.map toE)), GP GoodE p := fun p hp => hA p (fA.2.1 p hp)
  have gB : ∀ p ∈ setOf (b.map (·.map toE)), GP GoodE p := fun p hp => hB p (fB.2.1 p hp)
  rw [goodE_lists gA gB]
  constructor
  · intro h q hq
    exact (fA.2.2.2.1 q hq).symm.trans ((All2.has (wc_ord goodE_ord) h gA gB hq).trans (fB.2.2.2.1 q hq))
  · intro h
    exact srt_uniq (wc_ord goodE_ord) fA.1 fB.1 gA gB (fun x hx => (fB.2.2.2.1 x (gA x hx)).2 ((h x (gA x hx)).1 ((fA.2.2.2.1 x (gA x hx)).1 (hasC_self (wc_ord goodE_ord) hx)))) (fun x hx => (fA.2.2.2.1 x (gB x hx)).2 ((h x (gB x hx)).2 ((fB.2.2.2.1 x (gB x hx)).1 (hasC_self (wc_ord goodE_ord) hx))))

/-- toSet, its set to be read -/
theorem toSetR_c {w : World} {X : List Nat} {lv : Value} {l : List (List EL)} (hl : IsSl kPth 24 w X lv l) (hX : Old X w) (hG : ∀ p ∈ l, GP GoodE (p.map toE)) (hbytes : (l.length + 1) * 40 ≤ 140737488351232) (R : Ending → World → Prop)
    (hR : ∀ w' sv (s : St) d, Ext w w' → (kSt d).is w' X [sv] s → Tr.Wf cmpPe GoodE s → (∀ q, GP GoodE q → (Tr.has cmpPe s q ↔ memP l q)) → R (.returned sv) w') :
    Calls Tryz.prog 58 #[lv] w R := by
  refine toSet_c goodE_ord hl hX hG hbytes R ?_
  intro w1 t hE1 hst hbl hwf hhas
  have htl := tree_len goodE_ord hwf (L := l.map (·.map toE)) (fun x hx => by
    obtain ⟨e, he, rfl⟩ := List.mem_map.1 hx
    exact hG e he) hhas
  rw [List.length_map] at htl
  obtain ⟨d, hd⟩ := store_read hst t (fun n hn => hn) hwf (Nat.le_trans (Nat.mul_le_mul_right 40 (Nat.le_trans htl (Nat.le_succ _))) hbytes)
  exact hR w1 _ _ d hE1 hd (Tr.erase_wf hwf) (fun q hq => Tr.erase_has.trans (hhas q hq))

end Go.Proofs.YtihapgangilncaaGreat
