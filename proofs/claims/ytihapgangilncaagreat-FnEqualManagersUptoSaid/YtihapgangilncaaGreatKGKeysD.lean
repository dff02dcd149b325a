/- FieldList.Compare, FieldList.Less, spec.CompareKeys, impl.LessKeys. impl.toMapping, value.MapCompare, impl.CompareMaps. value.MapEquals: the walk over two maps in no order. (In a seat that fill.py filled before it knew run_float64bits this text held what was missing; else nothing.) impl.MapSet, MapGet, MapHas, MapSize. spec.CompareKeys, impl.LessKeys. (printed by gen_keysd.py) -/
import Derived.Test.YtihapgangilncaaGreatKGCmpO
import Derived.Test.YtihapgangilncaaGreatKGVal
import Derived.Test.YtihapgangilncaaGreatKGSame
import Derived.Test.YtihapgangilncaaGreatKGPar
import Derived.Deep.QuietTactic
import Derived.BigQuiet
import Derived.Test.YtihapgangilncaaGreatKGTypes
namespace Go.Proofs.YtihapgangilncaaGreat
open Go.RowKit
set_option linter.unusedSimpArgs false

theorem cmpE_at {α : Type} {r : α → α → Int} {P Q : EntsOfT α} {k : Nat} (h : cmpE r P Q = cmpE r (P.drop k) (Q.drop k)) (h1 : k < P.length) (h2 : k < Q.length) :
    cmpE r P Q = if cmpS (P[k]).1 (Q[k]).1 ≠ 0 then cmpS (P[k]).1 (Q[k]).1 else if r (P[k]).2 (Q[k]).2 ≠ 0 then r (P[k]).2 (Q[k]).2 else cmpE r (P.drop (k + 1)) (Q.drop (k + 1)) := by
  rw [h, List.drop_eq_getElem_cons h1, List.drop_eq_getElem_cons h2]
  simp only [cmpE]
theorem cmpE_end {α : Type} {r : α → α → Int} {P Q : EntsOfT α} {k : Nat} (h : cmpE r P Q = cmpE r (P.drop k) (Q.drop k)) (h1 : k ≤ P.length) (h2 : k ≤ Q.length) (h3 : k = P.length ∨ k = Q.length) : cmpE r P Q = cmpI P.length Q.length := by
  rw [h, ← cmpI_sub h1 h2, ← List.length_drop, ← List.length_drop]
  have h4 : P.drop k = [] ∨ Q.drop k = [] := by
    rcases h3 with h3 | h3
    · exact .inl (by simp [h3])
    · exact .inr (by simp [h3])
  generalize P.drop k = x at h4
  generalize Q.drop k = y at h4
  cases x with
  | nil => cases y with
    | nil => simp [cmpE, cmpI]
    | cons b y => simp [cmpE, cmpI] <;> omega
  | cons a x => cases y with
    | nil => simp [cmpE, cmpI] <;> omega
    | cons b y => simp at h4
theorem cmpE_neg {α : Type} {r : α → α → Int} (hr : ∀ x y, r y x = - r x y) : ∀ P Q : EntsOfT α, cmpE r Q P = - cmpE r P Q
  | [], [] => rfl
  | [], _ :: _ => rfl
  | _ :: _, [] => rfl
  | p :: ps, q :: qs => by
    simp only [cmpE]
    rw [cmpS_neg p.1 q.1, hr p.2 q.2, cmpE_neg hr ps qs]
    exact neg_if2 _ _ _
theorem cmpE_rng {α : Type} {r : α → α → Int} (hr : ∀ x y, r x y = -1 ∨ r x y = 0 ∨ r x y = 1) : ∀ P Q : EntsOfT α, cmpE r P Q = -1 ∨ cmpE r P Q = 0 ∨ cmpE r P Q = 1
  | [], [] => .inr (.inl rfl)
  | [], _ :: _ => .inl rfl
  | _ :: _, [] => .inr (.inr rfl)
  | p :: ps, q :: qs => by
    simp only [cmpE]
    split
    · exact cmpS_rng _ _
    split
    · exact hr _ _
    · exact cmpE_rng hr ps qs

/-- how two values compare -/
def rV (x y : V) : Int := V.cmpP x.clean y.clean
set_option maxRecDepth 100000 in
set_option maxHeartbeats 4000000 in
set_option pp.maxSteps 1000000 in
set_option pp.deepTerms true in
theorem fieldListCompare_c {w : World} {X Y : List Nat} {va vb : Value} {fs gs : EntsOfT T} (ha : IsSl kFd 32 w X va fs) (hb : IsSl kFd 32 w Y vb gs) (R : Ending → World → Prop) (hR : Ends R w (.int .i64 (cmpE cmpT fs gs))) :
    Calls Tryz.prog 146 #[va, vb] w R := by
  obtain ⟨o, c, b, off, rfl, l2, l3, l4, l5⟩ := id ha.ex
  obtain ⟨o2, c2, b2, off2, rfl, m2, m3, m4, m5⟩ := id hb.ex
  have l4' := Lib.hid l4
  have l5' := Lib.hid l5
  have m4' := Lib.hid m4
  have m5' := Lib.hid m5
  have hR' := Lib.hid hR
  clear hR ha hb l4 l5 m4 m5
  go_enter Tryz.func146, Tryz.ntmps146
  go_wp2_with fail
  go_loopw [5] (fun i wr => ∃ k : Nat, k ≤ fs.length ∧ k ≤ gs.length ∧ i = .int .i64 k ∧ Ext w wr ∧ Hid (cmpE cmpT fs gs = cmpE cmpT (fs.drop k) (gs.drop k))) (fun i _ => fs.length - (intOf i).toNat)
  case atStart => exact ⟨0, Nat.zero_le _, Nat.zero_le _, rfl, Ext.refl _, Lib.hid (by simp)⟩
  case round =>
    obtain ⟨k, hk, hkb, rfl, hEr, hall⟩ := hrel
    rename World => wr
    by_cases hlt : k < fs.length
    · by_cases hlt2 : k < gs.length
      · have hat := Lib.hid (cmpE_at hall.out hlt hlt2)
        obtain ⟨cs, hc, v, rfl, hcs, hv⟩ := l5'.out k hlt
        obtain ⟨ds, hd, u, rfl, hds, hu⟩ := m5'.out k hlt2
        obtain ⟨rfl, -⟩ := l4'.out (by omega)
        obtain ⟨rfl, -⟩ := m4'.out (by omega)
        have q0 := hEr.keep (hc 0 (by decide))
        have q1 := hEr.keep (hc 1 (by decide))
        have r0 := hEr.keep (hd 0 (by decide))
        have r1 := hEr.keep (hd 1 (by decide))
        simp only [show kFd.size = 2 from rfl, Nat.add_zero] at q0 q1 r0 r1
        obtain ⟨pa, xa, rfl, -⟩ := id hv.ex
        obtain ⟨pb, xb, rfl, -⟩ := id hu.ex
        have hv' := Lib.hid hv
        have hu' := Lib.hid hu
        have hi1 : (k : Int) < (fs.length : Int) := by omega
        have hi2 : (k : Int) < (gs.length : Int) := by omega
        have hj1 : ¬ (fs.length : Int) ≤ (k : Int) := by omega
        have hj2 : ¬ (gs.length : Int) ≤ (k : Int) := by omega
        have hkm : (k : Int) + 1 ≤ 9223372036854775807 := by omega
        clear hc hd hv hu
        go_wp2_with fail
        refine wp_region_script [0, 1, 2, 3, 4, 5, 6, 7, 8, 9, 11] [] (fun w' => w' = wr.drew) [(.read, 0), (.read, 1), (.read, 2), (.read, 3), (.read, 4), (.read, 5), (.read, 6), (.read, 7), (.read, 8), (.read, 9), (.one, 10), (.pure, 11)] (by kernel_rfl) (by kernel_rfl) ?_
        iterate 10 (first | (apply scr_r; (· rfl); (· (first | rfl | (simp [Region.wanted, yielded, go_sem]; done) | (simp [Region.wanted, yielded, go_sem, *]; done))); (· (go_simp; try rfl)); (· (simp [go_sem]; try rfl))) | (apply scr_r0; (· rfl); (· (first | rfl | (simp [Region.wanted, yielded, go_sem]; done) | (simp [Region.wanted, yielded, go_sem, *]; done))); (· (simp [go_sem]; try rfl))))
        refine scr_one rfl rfl (fun K hK => ?_)
        go_simp
        refine stringsCompare_e _ ?_
        obtain ⟨z, hz⟩ : ∃ z, cmpS (fs[k]).1 (gs[k]).1 = z := ⟨_, rfl⟩
        rw [hz]
        intro w3 hE3
        refine hK _ _ (fun h => by simp at h) ?_
        clear hK
        have hz' := Lib.hid hz
        have hE3' := (Ext.refl wr).drew.trans hE3
        clear hz hE3
        (apply scr_pure'; (· rfl); (· rfl); (· (intro w'; go_simp; try rfl)); (· (simp [go_sem]; try rfl)))
        refine scr_end ?_
        simp only [Exit.then]
        replace q0 := hE3'.keep q0
        replace q1 := hE3'.keep q1
        replace r0 := hE3'.keep r0
        replace r1 := hE3'.keep r1
        by_cases hz0 : z = 0
        · have hzb : (z != 0) = false := by simpa using hz0
          have hnx := hat.out
          rw [hz'.out, if_neg (by simp [hz0])] at hnx
          have hnx' := Lib.hid hnx
          clear hz0 hnx hat
          go_wp2_with fail
          refine wp_region_script [0, 1, 2, 3, 4, 5, 6, 7, 8, 9, 11] [] (fun w' => w' = w3.drew) [(.read, 0), (.read, 1), (.read, 2), (.read, 3), (.read, 4), (.read, 5), (.read, 6), (.read, 7), (.read, 8), (.read, 9), (.one, 10), (.pure, 11)] (by kernel_rfl) (by kernel_rfl) ?_
          iterate 10 (first | (apply scr_r; (· rfl); (· (first | rfl | (simp [Region.wanted, yielded, go_sem]; done) | (simp [Region.wanted, yielded, go_sem, *]; done))); (· (go_simp; try rfl)); (· (simp [go_sem]; try rfl))) | (apply scr_r0; (· rfl); (· (first | rfl | (simp [Region.wanted, yielded, go_sem]; done) | (simp [Region.wanted, yielded, go_sem, *]; done))); (· (simp [go_sem]; try rfl))))
          refine scr_one rfl rfl (fun K hK => ?_)
          go_simp
          refine valueCompare_c (hv'.out.mv ((hEr.trans hE3').drew.mv _)) (hu'.out.mv ((hEr.trans hE3').drew.mv _)) _ ?_
          obtain ⟨y, hy⟩ : ∃ y, cmpT (fs[k]).2 (gs[k]).2 = y := ⟨_, rfl⟩
          rw [hy]
          intro w4 hE4
          refine hK _ _ (fun h => by simp at h) ?_
          clear hK q0 q1 r0 r1
          have hy' := Lib.hid hy
          have hE4' := (Ext.refl w3).drew.trans hE4
          clear hy hE4
          (apply scr_pure'; (· rfl); (· rfl); (· (intro w'; go_simp; try rfl)); (· (simp [go_sem]; try rfl)))
          refine scr_end ?_
          simp only [Exit.then]
          by_cases hy0 : y = 0
          · have hyb : (y != 0) = false := by simpa using hy0
            have hny := hnx'.out
            rw [hy'.out, if_neg (by simp [hy0])] at hny
            have hny' := Lib.hid hny
            clear hy0 hny
            go_wp2_with fail
            go_roundw
            case rel => exact ⟨k + 1, by omega, by omega, by go_num, (hEr.trans hE3').trans hE4', hny'⟩
            case measure => simp [intOf]; omega
          · have hyb : (y != 0) = true := by simpa using hy0
            have hny := hnx'.out
            rw [hy'.out, if_pos hy0] at hny
            have hny' := Lib.hid hny
            clear hy0 hny
            go_wp2_with fail
            exact hR'.out.int hny'.out _ ((hEr.trans hE3').trans hE4')
        · have hzb : (z != 0) = true := by simpa using hz0
          have hnx := hat.out
          rw [hz'.out, if_pos hz0] at hnx
          have hnx' := Lib.hid hnx
          clear hz0 hnx q0 q1 r0 r1
          go_wp2_with fail
          exact hR'.out.int hnx'.out _ (hEr.trans hE3')
      · have hend := cmpE_end hall.out hk hkb (by omega)
        rw [cmpI, if_neg (by omega), if_pos (by omega)] at hend
        have hend' := Lib.hid hend
        have hj1 : ¬ (fs.length : Int) ≤ (k : Int) := by omega
        have hj2 : (gs.length : Int) ≤ (k : Int) := by omega
        clear hend
        go_wp2_with fail
        exact hR'.out.int hend'.out _ hEr
    · by_cases hlt2 : k < gs.length
      · have hend := cmpE_end hall.out hk hkb (by omega)
        rw [cmpI, if_pos (by omega)] at hend
        have hend' := Lib.hid hend
        have hj1 : (fs.length : Int) ≤ (k : Int) := by omega
        have hj2 : ¬ (gs.length : Int) ≤ (k : Int) := by omega
        clear hend
        go_wp2_with fail
        exact hR'.out.int hend'.out _ hEr
      · have hend := cmpE_end hall.out hk hkb (by omega)
        rw [cmpI, if_neg (by omega), if_neg (by omega)] at hend
        have hend' := Lib.hid hend
        have hj1 : (fs.length : Int) ≤ (k : Int) := by omega
        have hj2 : (gs.length : Int) ≤ (k : Int) := by omega
        clear hend
        go_wp2_with fail
        exact hR'.out.int hend'.out _ hEr

end Go.Proofs.YtihapgangilncaaGreat

namespace Go.Proofs.YtihapgangilncaaGreat
open Go.RowKit
set_option linter.unusedSimpArgs false

end Go.Proofs.YtihapgangilncaaGreat

namespace Go.Proofs.YtihapgangilncaaGreat
open Go.RowKit
set_option linter.unusedSimpArgs false

@[go_sem] theorem meth_mEmpty (n r : Nat) (w : World) : (method (n + 1) 362 (.map (some r)) "Empty").run Tryz.prog w = .ok (270, .map (some r)) w := by kernel_rfl
end Go.Proofs.YtihapgangilncaaGreat



namespace Go.Proofs.YtihapgangilncaaGreat
open Go.RowKit
set_option linter.unusedSimpArgs false

@[go_sem] theorem meth_mSet (n r : Nat) (w : World) : (method (n + 1) 362 (.map (some r)) "Set").run Tryz.prog w = .ok (279, .map (some r)) w := by kernel_rfl
@[go_sem] theorem meth_mGet (n r : Nat) (w : World) : (method (n + 1) 362 (.map (some r)) "Get").run Tryz.prog w = .ok (273, .map (some r)) w := by kernel_rfl
@[go_sem] theorem meth_mHas (n r : Nat) (w : World) : (method (n + 1) 362 (.map (some r)) "Has").run Tryz.prog w = .ok (275, .map (some r)) w := by kernel_rfl

end Go.Proofs.YtihapgangilncaaGreat
namespace Go.Proofs.YtihapgangilncaaGreat
open Go.RowKit
set_option linter.unusedSimpArgs false

set_option maxRecDepth 100000 in
set_option maxHeartbeats 8000000 in
set_option pp.maxSteps 1000000 in
set_option pp.deepTerms true in
theorem specCompareKeys_c {w : World} {X Y : List Nat} {cs ds : List Value} {a b : EL} (ha : kEl.is w X cs a) (hb : kEl.is w Y ds b) (R : Ending → World → Prop) (hR : Ends R w (.int .i64 (cmpE rV (a.keys.zip a.l) (b.keys.zip b.l)))) :
    Calls Tryz.prog 107 #[.agg cs.toArray, .agg ds.toArray] w R := by
  obtain ⟨kind, s, keys, l, v, n⟩ := a
  obtain ⟨kind2, s2, keys2, l2, v2, n2⟩ := b
  obtain ⟨vk, vl, vs, rfl, -, -, -, hks, hl, hv⟩ := ha
  obtain ⟨vk2, vl2, vs2, rfl, -, -, -, hks2, hl2, hv2⟩ := hb
  dsimp only at hks hl hv hks2 hl2 hv2 hR ⊢
  obtain ⟨xx, rfl⟩ := hv.shape
  obtain ⟨yy, rfl⟩ := hv2.shape
  have hsm := Lib.hid hks.small
  obtain ⟨o, c, b, off, rfl, -, l3, h4, h5⟩ := hl.ex
  obtain ⟨o2, c2, d, doff, rfl, -, m3, m4, m5⟩ := hl2.ex
  obtain ⟨ko, kc, kb, koff, rfl, -, k3, k4, k5⟩ := hks.ex
  obtain ⟨ko2, kc2, mb, moff, rfl, -, n3, n4, n5⟩ := hks2.ex
  have hP := Lib.hid (show (keys.zip l).length = min keys.length l.length from by simp)
  have hQ := Lib.hid (show (keys2.zip l2).length = min keys2.length l2.length from by simp)
  have hR' := Lib.hid hR
  have h5' := Lib.hid h5
  have m5' := Lib.hid m5
  have h4' := Lib.hid h4
  have m4' := Lib.hid m4
  have k5' := Lib.hid k5
  have n5' := Lib.hid n5
  have k4' := Lib.hid k4
  have n4' := Lib.hid n4
  clear hR hl hl2 hks hks2 hv hv2 h4 h5 m4 m5 k4 k5 n4 n5
  simp only [Cells6.list, List.cons_append, List.nil_append]
  go_enter Tryz.func107, Tryz.ntmps107
  go_wp2_with fail
  go_loopw [5] (fun i wr => ∃ q : Nat, q ≤ keys.length ∧ q ≤ keys2.length ∧ q ≤ l.length ∧ q ≤ l2.length ∧ i = .int .i64 q ∧ Ext w wr ∧ wr.cell? ⟨w.heap.size, 2, none⟩ = some (.slice ko keys.length kc) ∧ wr.cell? ⟨w.heap.size, 3, none⟩ = some (.slice o l.length c) ∧ wr.cell? ⟨w.heap.size + 1, 2, none⟩ = some (.slice ko2 keys2.length kc2) ∧ wr.cell? ⟨w.heap.size + 1, 3, none⟩ = some (.slice o2 l2.length c2) ∧ Hid (cmpE rV (keys.zip l) (keys2.zip l2) = cmpE rV ((keys.zip l).drop q) ((keys2.zip l2).drop q))) (fun i _ => keys.length - (intOf i).toNat)
  case atStart =>
    refine abs2 (G := fun wr => ∃ q : Nat, q ≤ keys.length ∧ q ≤ keys2.length ∧ q ≤ l.length ∧ q ≤ l2.length ∧ Value.int .i64 0 = .int .i64 q ∧ Ext w wr ∧ wr.cell? ⟨w.heap.size, 2, none⟩ = some (.slice ko keys.length kc) ∧ wr.cell? ⟨w.heap.size, 3, none⟩ = some (.slice o l.length c) ∧ wr.cell? ⟨w.heap.size + 1, 2, none⟩ = some (.slice ko2 keys2.length kc2) ∧ wr.cell? ⟨w.heap.size + 1, 3, none⟩ = some (.slice o2 l2.length c2) ∧ Hid (cmpE rV (keys.zip l) (keys2.zip l2) = cmpE rV ((keys.zip l).drop q) ((keys2.zip l2).drop q))) ?_
    intro w1 hE1 hb1 hb2 hs1
    exact ⟨0, Nat.zero_le _, Nat.zero_le _, Nat.zero_le _, Nat.zero_le _, rfl, hE1, cells_of hb1 2, cells_of hb1 3, cells_of hb2 2, cells_of hb2 3, Lib.hid (by simp)⟩
  case round =>
    obtain ⟨q, hq1, hq2, hq3, hq4, rfl, hE, a4, a5, b4, b5, hall⟩ := hrel
    by_cases h1 : q < keys.length
    · by_cases h2 : q < l.length
      · by_cases h3 : q < keys2.length
        · by_cases h4 : q < l2.length
          · have hp1 : q < (keys.zip l).length := by rw [hP.out]; omega
            have hp2 : q < (keys2.zip l2).length := by rw [hQ.out]; omega
            have hat := Lib.hid (cmpE_at hall.out hp1 hp2)
            have hz1 := Lib.hid (show (keys.zip l)[q] = (keys[q], l[q]) from by simp)
            have hz2 := Lib.hid (show (keys2.zip l2)[q] = (keys2[q], l2[q]) from by simp)
            obtain ⟨rfl, -⟩ := h4'.out (by omega)
            obtain ⟨rfl, -⟩ := m4'.out (by omega)
            obtain ⟨rfl, -⟩ := k4'.out (by omega)
            obtain ⟨rfl, -⟩ := n4'.out (by omega)
            obtain ⟨x, c0, c1, c2, c3, c4, c5, hx⟩ := h5'.out q h2
            obtain ⟨y, d0, d1, d2, d3, d4, d5, hy⟩ := m5'.out q h4
            have q0 := hE.keep (k5'.out q h1).1
            have q1 := hE.keep (n5'.out q h3).1
            have hk1 : keys.getD q ByteArray.empty = keys[q] := by simp [h1]
            have hk2 : keys2.getD q ByteArray.empty = keys2[q] := by simp [h3]
            rw [hk1] at q0
            rw [hk2] at q1
            replace c0 := hE.keep c0; replace c1 := hE.keep c1; replace c2 := hE.keep c2; replace c3 := hE.keep c3; replace c4 := hE.keep c4; replace c5 := hE.keep c5; replace d0 := hE.keep d0; replace d1 := hE.keep d1; replace d2 := hE.keep d2; replace d3 := hE.keep d3; replace d4 := hE.keep d4; replace d5 := hE.keep d5
            have hi1 : (q : Int) < (keys.length : Int) := by omega
            have hi2 : (q : Int) < (keys2.length : Int) := by omega
            have hi3 : (q : Int) < (l.length : Int) := by omega
            have hi4 : (q : Int) < (l2.length : Int) := by omega
            have hkm : (q : Int) + 1 ≤ 9223372036854775807 := by omega
            have hx' := Lib.hid hx
            have hy' := Lib.hid hy
            clear hx hy hk1 hk2
            go_wp2_with fail
            refine wp_region_script [0, 1, 2, 3, 4, 5, 6, 7, 8, 9, 11] [] (fun w' => w' = wr.drew) [(.read, 0), (.read, 1), (.read, 2), (.read, 3), (.read, 4), (.read, 5), (.read, 6), (.read, 7), (.read, 8), (.read, 9), (.one, 10), (.pure, 11)] (by kernel_rfl) (by kernel_rfl) ?_
            iterate 10 (first | (apply scr_r; (· rfl); (· (first | rfl | (simp [Region.wanted, yielded, go_sem]; done) | (simp [Region.wanted, yielded, go_sem, *]; done))); (· (go_simp; try rfl)); (· (simp [go_sem]; try rfl))) | (apply scr_r0; (· rfl); (· (first | rfl | (simp [Region.wanted, yielded, go_sem]; done) | (simp [Region.wanted, yielded, go_sem, *]; done))); (· (simp [go_sem]; try rfl))))
            refine scr_one rfl rfl (fun K hK => ?_)
            go_simp
            refine specCompareStrings_c (hsm.out _ (List.getElem_mem h1)) _ ?_
            obtain ⟨z, hz⟩ : ∃ z, cmpS keys[q] keys2[q] = z := ⟨_, rfl⟩
            rw [hz]
            intro w3 hE3
            refine hK _ _ (fun h => by simp at h) ?_
            clear hK
            have hz' := Lib.hid hz
            have hE3' := (Ext.refl wr).drew.trans hE3
            clear hz hE3 q0 q1
            (apply scr_pure'; (· rfl); (· rfl); (· (intro w'; go_simp; try rfl)); (· (simp [go_sem]; try rfl)))
            refine scr_end ?_
            simp only [Exit.then]
            replace a4 := hE3'.keep a4
            replace a5 := hE3'.keep a5
            replace b4 := hE3'.keep b4
            replace b5 := hE3'.keep b5
            have hnx := hat.out
            rw [hz1.out, hz2.out] at hnx
            dsimp only at hnx
            rw [hz'.out] at hnx
            by_cases hv0 : z = 0
            · have hvb : (z != 0) = false := by simpa using hv0
              replace c0 := hE3'.keep c0; replace c1 := hE3'.keep c1; replace c2 := hE3'.keep c2; replace c3 := hE3'.keep c3; replace c4 := hE3'.keep c4; replace c5 := hE3'.keep c5; replace d0 := hE3'.keep d0; replace d1 := hE3'.keep d1; replace d2 := hE3'.keep d2; replace d3 := hE3'.keep d3; replace d4 := hE3'.keep d4; replace d5 := hE3'.keep d5
              rw [if_neg (by simp [hv0])] at hnx
              have hnx' := Lib.hid hnx
              clear hv0 hnx hat
              go_wp2_with fail
              refine wp_region_script [0, 1, 2, 3, 4, 5, 6, 7, 8, 9, 11] [] (fun w' => w' = w3.drew) [(.read, 0), (.read, 1), (.read, 2), (.read, 3), (.read, 4), (.read, 5), (.read, 6), (.read, 7), (.read, 8), (.read, 9), (.one, 10), (.pure, 11)] (by kernel_rfl) (by kernel_rfl) ?_
              iterate 10 (first | (apply scr_r; (· rfl); (· (first | rfl | (simp [Region.wanted, yielded, go_sem]; done) | (simp [Region.wanted, yielded, go_sem, *]; done))); (· (go_simp; try rfl)); (· (simp [go_sem]; try rfl))) | (apply scr_r0; (· rfl); (· (first | rfl | (simp [Region.wanted, yielded, go_sem]; done) | (simp [Region.wanted, yielded, go_sem, *]; done))); (· (simp [go_sem]; try rfl))))
              refine scr_one rfl rfl (fun K hK => ?_)
              go_simp
              refine specCompareValues_c (cs := x.list) (ds := y.list) (hx'.out.mv ((hE.trans hE3').drew.mv _)) (hy'.out.mv ((hE.trans hE3').drew.mv _)) _ ?_
              obtain ⟨u, hu⟩ : ∃ u, rV l[q] l2[q] = u := ⟨_, rfl⟩
              rw [show V.cmpP (l[q]).clean (l2[q]).clean = u from hu]
              intro w4 hE4
              refine hK _ _ (fun h => by simp at h) ?_
              clear hK c0 c1 c2 c3 c4 c5 d0 d1 d2 d3 d4 d5
              have hu' := Lib.hid hu
              have hE4' := (Ext.refl w3).drew.trans hE4
              clear hu hE4
              (apply scr_pure'; (· rfl); (· rfl); (· (intro w'; go_simp; try rfl)); (· (simp [go_sem]; try rfl)))
              refine scr_end ?_
              simp only [Exit.then]
              have hny := hnx'.out
              rw [hu'.out] at hny
              by_cases hu0 : u = 0
              · have hub : (u != 0) = false := by simpa using hu0
                rw [if_neg (by simp [hu0])] at hny
                have hny' := Lib.hid hny
                clear hu0 hny
                go_wp2_with fail
                go_roundw
                case rel => exact ⟨q + 1, by omega, by omega, by omega, by omega, by go_num, (hE.trans hE3').trans hE4', hE4'.keep a4, hE4'.keep a5, hE4'.keep b4, hE4'.keep b5, hny'⟩
                case measure => simp [intOf]; omega
              · have hub : (u != 0) = true := by simpa using hu0
                rw [if_pos hu0] at hny
                have hny' := Lib.hid hny
                clear hu0 hny
                go_wp2_with fail
                exact hR'.out.int hny'.out _ ((hE.trans hE3').trans hE4')
            · have hvb : (z != 0) = true := by simpa using hv0
              rw [if_pos hv0] at hnx
              have hnx' := Lib.hid hnx
              clear hv0 hnx c0 c1 c2 c3 c4 c5 d0 d1 d2 d3 d4 d5
              go_wp2_with fail
              exact hR'.out.int hnx'.out _ (hE.trans hE3')
          · have hend := Lib.hid (cmpE_end hall.out (by rw [hP.out]; omega) (by rw [hQ.out]; omega) (by rw [hP.out, hQ.out]; omega))
            have hi1 : (q : Int) < (keys.length : Int) := by omega
            have hi2 : (q : Int) < (l.length : Int) := by omega
            have hi3 : (q : Int) < (keys2.length : Int) := by omega
            have hi4 : ¬ (q : Int) < (l2.length : Int) := by omega
            go_wp2_with fail
            refine specCompareInts_c _ ?_
            intro w3 hE3
            dsimp only
            go_wp2_with fail
            exact hR'.out.int (by rw [hend.out, hP.out, hQ.out]; congr 1 <;> omega) _ (hE.trans hE3)
        · have hend := Lib.hid (cmpE_end hall.out (by rw [hP.out]; omega) (by rw [hQ.out]; omega) (by rw [hP.out, hQ.out]; omega))
          have hi1 : (q : Int) < (keys.length : Int) := by omega
          have hi2 : (q : Int) < (l.length : Int) := by omega
          have hi3 : ¬ (q : Int) < (keys2.length : Int) := by omega
          go_wp2_with fail
          refine specCompareInts_c _ ?_
          intro w3 hE3
          dsimp only
          go_wp2_with fail
          exact hR'.out.int (by rw [hend.out, hP.out, hQ.out]; congr 1 <;> omega) _ (hE.trans hE3)
      · have hend := Lib.hid (cmpE_end hall.out (by rw [hP.out]; omega) (by rw [hQ.out]; omega) (by rw [hP.out, hQ.out]; omega))
        have hi1 : (q : Int) < (keys.length : Int) := by omega
        have hi2 : ¬ (q : Int) < (l.length : Int) := by omega
        go_wp2_with fail
        refine specCompareInts_c _ ?_
        intro w3 hE3
        dsimp only
        go_wp2_with fail
        exact hR'.out.int (by rw [hend.out, hP.out, hQ.out]; congr 1 <;> omega) _ (hE.trans hE3)
    · have hend := Lib.hid (cmpE_end hall.out (by rw [hP.out]; omega) (by rw [hQ.out]; omega) (by rw [hP.out, hQ.out]; omega))
      have hi1 : ¬ (q : Int) < (keys.length : Int) := by omega
      go_wp2_with fail
      refine specCompareInts_c _ ?_
      intro w3 hE3
      dsimp only
      go_wp2_with fail
      exact hR'.out.int (by rw [hend.out, hP.out, hQ.out]; congr 1 <;> omega) _ (hE.trans hE3)

end Go.Proofs.YtihapgangilncaaGreat
