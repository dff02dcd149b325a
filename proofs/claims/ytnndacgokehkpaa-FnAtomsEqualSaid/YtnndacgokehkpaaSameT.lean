/- laws.sameTree: what it computes. -/
import Derived.Test.YtnndacgokehkpaaSchEq
import Derived.Test.YtnndacgokehkpaaEqL
namespace Go.Proofs.Ytnndacgokehkpaa
open Go.RowKit
set_option linter.unusedSimpArgs false

mutual
def V.tree : V → V → Bool
  | .mk k n f s ks l, .mk k2 n2 f2 s2 ks2 l2 => decide (k = k2) && (decide (l.length = l2.length) && (decide (ks = ks2) && (V.treeL l l2 && (decide (n = n2) && (feq f f2 && decide (s = s2))))))
def V.treeL : List V → List V → Bool
  | v :: l, u :: m => v.tree u && V.treeL l m
  | _, _ => true
end
theorem treeL_iff : ∀ {m l : List V}, m.length = l.length → (V.treeL m l = true ↔ ∀ i (h : i < m.length) (h2 : i < l.length), (m[i]).tree l[i] = true)
  | [], [], _ => by simp [V.treeL]
  | [], _ :: _, h => by simp at h
  | _ :: _, [], h => by simp at h
  | x :: m, y :: l, h => by
    simp only [V.treeL, Bool.and_eq_true, treeL_iff (m := m) (l := l) (by simpa using h)]
    constructor
    · rintro ⟨h1, h2⟩ i hi hi2
      cases i with
      | zero => exact h1
      | succ i => exact h2 i (by simpa using hi) (by simpa using hi2)
    · intro h
      exact ⟨h 0 (by simp) (by simp), fun i hi hi2 => h (i + 1) (by simpa using hi) (by simpa using hi2)⟩
/-- what laws.sameTree computes -/
def sT (v u : V) : Bool := v.clean.tree u.clean

theorem kids_clean (v : V) : ∀ {k n : Int} {f : Nat} {s : ByteArray} {ks : List ByteArray} {l : List V}, v.clean = .mk k n f s ks l → ∀ x ∈ l, x.clean = x := by
  obtain ⟨k0, n0, f0, s0, ks0, l0⟩ := v
  intro k n f s ks l h x hx
  have hl : ∀ x ∈ V.cleanL l0, x.clean = x := fun x hx => by
    rw [V.cleanL_eq] at hx
    obtain ⟨y, hy, rfl⟩ := List.mem_map.1 hx
    exact clean_clean y
  simp only [V.clean] at h
  split at h
  · cases h; cases hx
  split at h
  · cases h; cases hx
  split at h
  · cases h; cases hx
  split at h
  · cases h; cases hx
  split at h
  · cases h; exact hl x hx
  split at h
  · cases h
    obtain ⟨p, hp, rfl⟩ := List.mem_map.1 hx
    exact hl _ (List.of_mem_zip (insAll_sub hp)).2
  · cases h; cases hx

def STC (z : V) : Prop := ∀ (w : World) (cs ds : List Value) (v u : V), v.clean = z → IsV w [] cs v → IsV w [] ds u → ∀ R : Ending → World → Prop, Ends R w (.bool (sT v u)) →
  Calls Try.prog 14 #[.agg cs.toArray, .agg ds.toArray] w R

set_option maxRecDepth 100000 in
set_option maxHeartbeats 8000000 in
set_option pp.maxSteps 1000000 in
set_option pp.deepTerms true in
theorem sameTree_step {kind n : Int} {f : Nat} {s : ByteArray} {ks : List ByteArray} {l : List V} (ih : ∀ i (h : i < l.length), STC l[i]) : STC (.mk kind n f s ks l) := by
  intro w cs ds v u hcl hv hu R hR
  obtain ⟨x, rfl⟩ := hv.shape
  obtain ⟨y, rfl⟩ := hu.shape
  obtain ⟨⟨kind2, n2, f2, s2, ks2, l2⟩, hcu⟩ : ∃ q, u.clean = q := ⟨_, rfl⟩
  have hkid := Lib.hid (kids_clean v hcl)
  have hRR : Ends R w (.bool (V.tree (.mk kind n f s ks l) (.mk kind2 n2 f2 s2 ks2 l2))) := by rw [← hcl, ← hcu]; exact hR
  have hv' := Lib.hid hv
  have hu' := Lib.hid hu
  have hcl' := Lib.hid hcl
  have hcu' := Lib.hid hcu
  have ih' := Lib.hid ih
  simp only [V.tree] at hRR
  have hR' := Lib.hid hRR
  clear hv hu hR hcl hcu hRR ih
  simp only [Cells6.list]
  go_enter Try.func14, Try.ntmps14
  go_wp2_with fail
  refine abs2 (G := Code.wp _ _ _ _) ?_
  intro w1 hE1 hb1 hb2 hs1
  have hs1' := Lib.hid hs1
  clear hs1
  have a0 : w1.cell? ⟨w.heap.size, 0, none⟩ = some (.int .i64 x.kind) := cells_of hb1 0; have a1 : w1.cell? ⟨w.heap.size, 1, none⟩ = some (.int .i64 x.n) := cells_of hb1 1; have a2 : w1.cell? ⟨w.heap.size, 2, none⟩ = some (.float .f64 x.f) := cells_of hb1 2; have a3 : w1.cell? ⟨w.heap.size, 3, none⟩ = some (.string x.s) := cells_of hb1 3; have a4 : w1.cell? ⟨w.heap.size, 4, none⟩ = some (.slice x.ko x.kn x.kc) := cells_of hb1 4; have a5 : w1.cell? ⟨w.heap.size, 5, none⟩ = some (.slice x.o x.m x.c) := cells_of hb1 5
  have b0 : w1.cell? ⟨w.heap.size + 1, 0, none⟩ = some (.int .i64 y.kind) := cells_of hb2 0; have b1 : w1.cell? ⟨w.heap.size + 1, 1, none⟩ = some (.int .i64 y.n) := cells_of hb2 1; have b2 : w1.cell? ⟨w.heap.size + 1, 2, none⟩ = some (.float .f64 y.f) := cells_of hb2 2; have b3 : w1.cell? ⟨w.heap.size + 1, 3, none⟩ = some (.string y.s) := cells_of hb2 3; have b4 : w1.cell? ⟨w.heap.size + 1, 4, none⟩ = some (.slice y.ko y.kn y.kc) := cells_of hb2 4; have b5 : w1.cell? ⟨w.heap.size + 1, 5, none⟩ = some (.slice y.o y.m y.c) := cells_of hb2 5
  refine wp_region_script [0, 2] [1] (fun w' => Ext w1 w') [(.read, 0), (.read, 2), (.one, 1), (.one, 3), (.one, 4), (.one, 5)] (by kernel_rfl) (by kernel_rfl) ?_
  (apply scr_read'; (· rfl); (· rfl); (· first | exact hC | exact (Ext.refl _).drew); (· (intro w' hw'; have a0_ := hw'.keep a0; have a1_ := hw'.keep a1; have a2_ := hw'.keep a2; have a3_ := hw'.keep a3; have a4_ := hw'.keep a4; have a5_ := hw'.keep a5; go_simp; try rfl)); (· (simp [go_sem]; try rfl)))
  (apply scr_read'; (· rfl); (· rfl); (· first | exact hC | exact (Ext.refl _).drew); (· (intro w' hw'; have b0_ := hw'.keep b0; have b1_ := hw'.keep b1; have b2_ := hw'.keep b2; have b3_ := hw'.keep b3; have b4_ := hw'.keep b4; have b5_ := hw'.keep b5; go_simp; try rfl)); (· (simp [go_sem]; try rfl)))
  refine scr_one rfl rfl (fun K hK => ?_)
  go_simp
  refine clean_all v _ [w.heap.size, w.heap.size + 1] x.list (hv'.out.mv (((hE1.drew.mv []).more (n := w.heap.size + 1) (by omega)).more (n := w.heap.size) (Nat.le_refl _))) (Old.cons (by have := hs1'.out; show w.heap.size < w1.heap.size; omega) (Old.cons (by have := hs1'.out; show w.heap.size + 1 < w1.heap.size; omega) (Old.nil _))) _ ?_
  rw [hcl'.out]
  intro w2 cs2 hE2 hz
  obtain ⟨ko, kc, o, c, rfl, -, -, -⟩ := id hz.inv
  have hz' := Lib.hid hz
  clear hz
  have hw2 := (Ext.refl w1).drew.trans hE2
  refine hK _ _ (fun _ => hw2) ?_
  clear hK
  refine scr_one rfl rfl (fun K hK => ?_)
  go_simp
  refine clean_all u _ [w.heap.size, w.heap.size + 1] y.list (hu'.out.mv ((((hE1.trans hw2).mv []).more (n := w.heap.size + 1) (by omega)).more (n := w.heap.size) (Nat.le_refl _))) (Old.cons (by have := hs1'.out; have := hw2.size; omega) (Old.cons (by have := hs1'.out; have := hw2.size; omega) (Old.nil _))) _ ?_
  rw [hcu'.out]
  intro w3 ds2 hE3 ht
  obtain ⟨ko2, kc2, o2, c2, rfl, -, -, -⟩ := id ht.inv
  have ht' := Lib.hid ht
  have hz3 := Lib.hid (hz'.out.mv (hE3.mv _))
  clear ht hz'
  refine hK _ _ (fun h => by simp at h) ?_
  clear hK
  have hw3 := hw2.trans hE3
  have hB1 := (hw3.below.block _ (Array.getElem?_eq_some_iff.1 hb1).1).trans hb1
  have hB2 := (hw3.below.block _ (Array.getElem?_eq_some_iff.1 hb2).1).trans hb2
  refine scr_one rfl rfl (fun K hK => ?_)
  refine wp_storeRow (cells := #[.int .i64 kind, .int .i64 n, .float .f64 f, .string s, .slice ko ks.length kc, .slice o l.length c]) 26 _ _ rfl Try.size26 rfl rfl hB1 rfl (by simp [Value.oneCell']) ?_
  intro w4 h4 gr4
  have hB4 := (gr4.block _ (Array.getElem?_eq_some_iff.1 hB2).1 (fun e => by have := Option.some.inj e; omega)).trans hB2
  refine hK _ _ (fun h => by simp at h) ?_
  clear hK
  refine scr_one rfl rfl (fun K hK => ?_)
  refine wp_storeRow (cells := #[.int .i64 kind2, .int .i64 n2, .float .f64 f2, .string s2, .slice ko2 ks2.length kc2, .slice o2 l2.length c2]) 26 _ _ rfl Try.size26 rfl rfl hB4 rfl (by simp [Value.oneCell']) ?_
  intro w5 h5 gr5
  have h45 := (gr5.block _ (Array.getElem?_eq_some_iff.1 h4).1 (fun e => by have := Option.some.inj e; omega)).trans h4
  refine hK _ _ (fun h => by simp at h) ?_
  clear hK
  refine scr_end ?_
  simp only [Exit.then]
  have hM5 : Mv w3 [w.heap.size, w.heap.size + 1] w5 [w.heap.size, w.heap.size + 1] := (((Mv.refl w3 _).grown gr4 (fun j hj => by cases hj; simp))).trans ((Mv.refl w4 _).grown gr5 (fun j hj => by cases hj; simp))
  have hE5 : Ext w w5 := ((hE1.trans hw3).grown gr4 (fun j hj => by cases hj; exact Nat.le_refl _)).grown gr5 (fun j hj => by cases hj; exact Nat.le_succ _)
  have hz5 := hz3.out.mv hM5
  have ht5 := ht'.out.mv hM5
  replace hz5 := hz5.mv ((Mv.refl _ _).less (Z := []) (by simp))
  replace ht5 := ht5.mv ((Mv.refl _ _).less (Z := []) (by simp))
  obtain ⟨_, _, _, _, e1, -, hk1, hl1⟩ := hz5.inv
  obtain ⟨_, _, _, _, e2, -, hk2, hl2⟩ := ht5.inv
  simp only [List.cons.injEq, Value.slice.injEq, and_true, true_and] at e1 e2
  obtain ⟨⟨rfl, rfl⟩, rfl, rfl⟩ := e1
  obtain ⟨⟨rfl, rfl⟩, rfl, rfl⟩ := e2
  have hk1' := Lib.hid hk1
  have hk2' := Lib.hid hk2
  have hl1' := Lib.hid hl1
  have hl2' := Lib.hid hl2
  have e0 : w5.cell? ⟨w.heap.size, 0, none⟩ = some (.int .i64 kind) := cells_of h45 0; have e1 : w5.cell? ⟨w.heap.size, 1, none⟩ = some (.int .i64 n) := cells_of h45 1; have e2 : w5.cell? ⟨w.heap.size, 2, none⟩ = some (.float .f64 f) := cells_of h45 2; have e3 : w5.cell? ⟨w.heap.size, 3, none⟩ = some (.string s) := cells_of h45 3; have e4 : w5.cell? ⟨w.heap.size, 4, none⟩ = some (.slice ko ks.length kc) := cells_of h45 4; have e5 : w5.cell? ⟨w.heap.size, 5, none⟩ = some (.slice o l.length c) := cells_of h45 5
  have g0 : w5.cell? ⟨w.heap.size + 1, 0, none⟩ = some (.int .i64 kind2) := cells_of h5 0; have g1 : w5.cell? ⟨w.heap.size + 1, 1, none⟩ = some (.int .i64 n2) := cells_of h5 1; have g2 : w5.cell? ⟨w.heap.size + 1, 2, none⟩ = some (.float .f64 f2) := cells_of h5 2; have g3 : w5.cell? ⟨w.heap.size + 1, 3, none⟩ = some (.string s2) := cells_of h5 3; have g4 : w5.cell? ⟨w.heap.size + 1, 4, none⟩ = some (.slice ko2 ks2.length kc2) := cells_of h5 4; have g5 : w5.cell? ⟨w.heap.size + 1, 5, none⟩ = some (.slice o2 l2.length c2) := cells_of h5 5
  clear hz5 ht5 hk1 hk2 hl1 hl2 hM5 gr4 gr5 h4 h45 h5 hB1 hB2 hB4 hz3 ht' hE3 hw3 hw2 hE2 hb1 hb2 a0 a1 a2 a3 a4 a5 b0 b1 b2 b3 b4 b5 hE1
  by_cases hk : kind = kind2
  case neg =>
    have hkI : (kind == kind2) = false := by rw [beq_eq_false_iff_ne]; exact hk
    have hk' := Lib.hid hk
    clear hk
    go_wp2_with fail
    exact hR'.out.bool (by simp [hk'.out]) _ hE5
  subst hk
  by_cases hlen : l.length = l2.length
  case neg =>
    go_wp2_with fail
    have hlen' := Lib.hid hlen
    clear hlen
    exact hR'.out.bool (by simp [hlen'.out]) _ hE5
  have hlen' := Lib.hid hlen
  rw [← hlen] at g5
  clear hlen
  go_wp2_with fail
  refine sameStrings_c hk1'.out hk2'.out _ ?_
  obtain ⟨kb, hkb⟩ : ∃ q, decide (ks = ks2) = q := ⟨_, rfl⟩
  rw [hkb]
  have hkb' := Lib.hid hkb
  clear hkb
  intro w6 hE6
  replace e0 := hE6.keep e0; replace e1 := hE6.keep e1; replace e2 := hE6.keep e2; replace e3 := hE6.keep e3; replace e4 := hE6.keep e4; replace e5 := hE6.keep e5; replace g0 := hE6.keep g0; replace g1 := hE6.keep g1; replace g2 := hE6.keep g2; replace g3 := hE6.keep g3; replace g4 := hE6.keep g4; replace g5 := hE6.keep g5
  replace hE5 := hE5.trans hE6
  have hl1 := Lib.hid (hl1'.out.mv (hE6.mv []))
  have hl2 := Lib.hid (hl2'.out.mv (hE6.mv []))
  clear hE6 hl1' hl2'
  dsimp only
  cases kb
  · go_wp2_with fail
    exact hR'.out.bool (by simp [hkb'.out]) _ hE5
  obtain ⟨_, _, vb1, voff1, e, -, hbb, v4, v5⟩ := hl1.out.ex
  simp only [Value.slice.injEq] at e
  obtain ⟨rfl, -, rfl⟩ := e
  obtain ⟨_, _, vb2, voff2, e, -, -, u4, u5⟩ := hl2.out.ex
  simp only [Value.slice.injEq] at e
  obtain ⟨rfl, -, rfl⟩ := e
  have v4' := Lib.hid v4
  have v5' := Lib.hid v5
  have u4' := Lib.hid u4
  have u5' := Lib.hid u5
  clear v4 v5 u4 u5
  go_wp2_with fail
  go_loopw [5, 35] (fun _ i wr => ∃ k : Nat, k ≤ l.length ∧ i = .int .i64 k ∧ Ext w6 wr ∧ Hid (∀ j (h : j < l.length) (h2 : j < l2.length), j < k → (l[j]).tree l2[j] = true)) (fun _ i _ => l.length - (intOf i).toNat)
  case atStart => exact ⟨0, Nat.zero_le _, rfl, Ext.refl _, fun j _ _ hj => by omega⟩
  case round =>
    obtain ⟨k, hk, rfl, hE, hall⟩ := hrel
    replace e0 := hE.keep e0; replace e1 := hE.keep e1; replace e2 := hE.keep e2; replace e3 := hE.keep e3; replace e4 := hE.keep e4; replace e5 := hE.keep e5; replace g0 := hE.keep g0; replace g1 := hE.keep g1; replace g2 := hE.keep g2; replace g3 := hE.keep g3; replace g4 := hE.keep g4; replace g5 := hE.keep g5
    replace hE5 := hE5.trans hE
    by_cases hlt : k < l.length
    · have hlt2 : k < l2.length := by have := hlen'.out; omega
      obtain ⟨rfl, -⟩ := v4'.out (by omega)
      obtain ⟨rfl, -⟩ := u4'.out (by omega)
      obtain ⟨z, p0, p1, p2, p3, p4, p5, pz⟩ := v5'.out k hlt
      obtain ⟨t, q0, q1, q2, q3, q4, q5, qt⟩ := u5'.out k hlt2
      replace p0 := hE.keep p0; replace p1 := hE.keep p1; replace p2 := hE.keep p2; replace p3 := hE.keep p3; replace p4 := hE.keep p4; replace p5 := hE.keep p5; replace q0 := hE.keep q0; replace q1 := hE.keep q1; replace q2 := hE.keep q2; replace q3 := hE.keep q3; replace q4 := hE.keep q4; replace q5 := hE.keep q5
      have pz' := Lib.hid (pz.mv (hE.mv []))
      have qt' := Lib.hid (qt.mv (hE.mv []))
      have hkm : (k : Int) + 1 ≤ 9223372036854775807 := by omega
      have hi1 : (k : Int) < (l.length : Int) := by omega
      have hE' := Lib.hid hE
      have h1c := Lib.hid (hkid.out _ (List.getElem_mem hlt))
      have h2c := Lib.hid (kids_clean u hcu'.out _ (List.getElem_mem hlt2))
      have hst := Lib.hid (show sT l[k] l2[k] = (l[k]).tree l2[k] by unfold sT; rw [h1c.out, h2c.out])
      clear hE pz qt
      go_wp2_with fail
      refine wp_region_script [0, 1, 2, 3, 4, 5, 6, 7, 8, 9, 11] [] (fun w' => Ext wr w') [(.pure, 0), (.read, 1), (.pure, 2), (.pure, 3), (.read, 4), (.pure, 5), (.read, 6), (.pure, 7), (.pure, 8), (.read, 9), (.one, 10), (.pure, 11)] (by kernel_rfl) (by kernel_rfl) ?_
      have hC : Ext wr wr.drew := (Ext.refl wr).drew
      (apply scr_pure'; (· rfl); (· rfl); (· (intro w'; go_simp; try rfl)); (· (simp [go_sem]; try rfl)))
      (apply scr_read'; (· rfl); (· rfl); (· first | exact hC | exact (Ext.refl _).drew); (· (intro w' hw'; have e0_ := hw'.keep e0; have e1_ := hw'.keep e1; have e2_ := hw'.keep e2; have e3_ := hw'.keep e3; have e4_ := hw'.keep e4; have e5_ := hw'.keep e5; go_simp; try rfl)); (· (simp [go_sem]; try rfl)))
      iterate 2 (apply scr_pure'; (· rfl); (· rfl); (· (intro w'; go_simp; try rfl)); (· (simp [go_sem]; try rfl)))
      (apply scr_read'; (· rfl); (· rfl); (· first | exact hC | exact (Ext.refl _).drew); (· (intro w' hw'; have p0_ := hw'.keep p0; have p1_ := hw'.keep p1; have p2_ := hw'.keep p2; have p3_ := hw'.keep p3; have p4_ := hw'.keep p4; have p5_ := hw'.keep p5; go_simp; try rfl)); (· (simp [go_sem]; try rfl)))
      (apply scr_pure'; (· rfl); (· rfl); (· (intro w'; go_simp; try rfl)); (· (simp [go_sem]; try rfl)))
      (apply scr_read'; (· rfl); (· rfl); (· first | exact hC | exact (Ext.refl _).drew); (· (intro w' hw'; have g0_ := hw'.keep g0; have g1_ := hw'.keep g1; have g2_ := hw'.keep g2; have g3_ := hw'.keep g3; have g4_ := hw'.keep g4; have g5_ := hw'.keep g5; go_simp; try rfl)); (· (simp [go_sem]; try rfl)))
      iterate 2 (apply scr_pure'; (· rfl); (· rfl); (· (intro w'; go_simp; try rfl)); (· (simp [go_sem]; try rfl)))
      (apply scr_read'; (· rfl); (· rfl); (· first | exact hC | exact (Ext.refl _).drew); (· (intro w' hw'; have q0_ := hw'.keep q0; have q1_ := hw'.keep q1; have q2_ := hw'.keep q2; have q3_ := hw'.keep q3; have q4_ := hw'.keep q4; have q5_ := hw'.keep q5; go_simp; try rfl)); (· (simp [go_sem]; try rfl)))
      refine scr_one rfl rfl (fun K hK => ?_)
      go_simp
      refine ih'.out k hlt _ z.list t.list l[k] l2[k] h1c.out (pz'.out.mv (hC.mv [])) (qt'.out.mv (hC.mv [])) _ ?_
      rw [hst.out]
      intro w9 hE9
      refine hK _ _ (fun h => by simp at h) ?_
      clear hK
      obtain ⟨tb, htb⟩ : ∃ q, (l[k]).tree l2[k] = q := ⟨_, rfl⟩
      rw [htb]
      have htb' := Lib.hid htb
      clear htb
      cases tb
      · (apply scr_pure'; (· rfl); (· rfl); (· (intro w'; go_simp; try rfl)); (· (simp [go_sem]; try rfl)))
        refine scr_end ?_
        simp only [Exit.then]
        go_wp2_with fail
        refine hR'.out.bool ?_ _ (hE5.drew.trans hE9)
        have : V.treeL l l2 = false := Bool.eq_false_iff.2 fun h => by
          have := (treeL_iff hlen'.out).1 h k hlt hlt2
          rw [htb'.out] at this
          cases this
        simp [this]
      · (apply scr_pure'; (· rfl); (· rfl); (· (intro w'; go_simp; try rfl)); (· (simp [go_sem]; try rfl)))
        refine scr_end ?_
        simp only [Exit.then]
        go_wp2_with fail
        go_roundw
        case rel =>
          refine ⟨k + 1, by omega, by go_num, hE'.out.drew.trans hE9, fun j h h2 hj => ?_⟩
          by_cases e : j = k
          · subst e; exact htb'.out
          · exact hall.out j h h2 (by omega)
        case measure => simp [intOf]; omega
    · have hfin := Lib.hid (show V.treeL l l2 = true from (treeL_iff hlen'.out).2 fun j h h2 => hall.out j h h2 (by omega))
      have hkb2 : ks = ks2 := of_decide_eq_true hkb'.out
      have hkb3 := Lib.hid hkb2
      clear hkb2 hall hE
      by_cases hn : n = n2
      case neg =>
        have hnI : (n == n2) = false := by rw [beq_eq_false_iff_ne]; exact hn
        have hn' := Lib.hid hn
        clear hn
        go_wp2_with fail
        exact hR'.out.bool (by simp [hn'.out]) _ hE5
      subst hn
      cases hf : feq f f2
      · have hf' := Lib.hid hf
        simp only [feq] at hf
        go_wp2_with fail
        exact hR'.out.bool (by simp [hf'.out]) _ hE5
      · have hf' := Lib.hid hf
        simp only [feq] at hf
        by_cases hs : s = s2
        · subst hs
          go_wp2_with fail
          exact hR'.out.bool (by simp [hf'.out, hfin.out, hkb3.out, hlen'.out]) _ hE5
        · have hsb := bytes_beq hs
          have hs' := Lib.hid hs
          clear hs
          go_wp2_with fail
          exact hR'.out.bool (by simp [hs'.out]) _ hE5

theorem sameTree_c (z : V) : STC z := by
  induction z using V.ind with
  | h kind n f s keys l ih => exact sameTree_step ih

set_option maxRecDepth 100000 in
theorem sameFn_tree : SameFn 14 sT where
  enter := fun _ _ => rfl
  call := fun w cs ds v u hv hu R hR => sameTree_c v.clean w cs ds v u rfl hv hu R hR
end Go.Proofs.Ytnndacgokehkpaa
