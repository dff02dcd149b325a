/- spec.comparePlain and spec.CompareValues. spec.comparePlain and spec.CompareValues: the walk. The order of values is one: it turns with its arguments, and it is 0 exactly for equal values (without NaN). Plain Lean. value.Compare, value.Less, impl.CompareValues, impl.LessValues, impl.EqualValues. (printed by gen_cmpi.py) -/
import Derived.Test.YtihapgangilncaaGreatKGCmpE
import Derived.Test.YtihapgangilncaaGreatKGElemP
namespace Go.Proofs.YtihapgangilncaaGreat
open Go.RowKit
set_option linter.unusedSimpArgs false

/- Tidy: each key has a value -/
mutual
def V.Tidy : V → Prop
  | .mk _ _ _ _ ks l => ks.length ≤ l.length ∧ V.TidyL l
def V.TidyL : List V → Prop
  | [] => True
  | x :: l => x.Tidy ∧ V.TidyL l
end
theorem tidyL_iff : ∀ {l : List V}, V.TidyL l ↔ ∀ x ∈ l, x.Tidy
  | [] => by simp [V.TidyL]
  | x :: l => by simp [V.TidyL, tidyL_iff (l := l)]
theorem clean_tidy (v : V) : v.clean.Tidy := by
  induction v using V.ind with
  | h kind n f s keys l ih =>
    have hl : ∀ x ∈ V.cleanL l, x.Tidy := fun x hx => by
      rw [V.cleanL_eq] at hx
      obtain ⟨y, hy, rfl⟩ := List.mem_map.1 hx
      obtain ⟨i, hi, rfl⟩ := List.getElem_of_mem hy
      exact ih i hi
    simp only [V.clean]
    split
    · simp [V.Tidy, V.TidyL]
    split
    · simp [V.Tidy, V.TidyL]
    split
    · simp [V.Tidy, V.TidyL]
    split
    · simp [V.Tidy, V.TidyL]
    split
    · exact ⟨by simp, tidyL_iff.2 hl⟩
    split
    · refine ⟨by simp, tidyL_iff.2 fun x hx => ?_⟩
      obtain ⟨p, hp, rfl⟩ := List.mem_map.1 hx
      exact hl _ (List.of_mem_zip (insAll_sub hp)).2
    · simp [V.Tidy, V.TidyL]

def CpC (v : V) : Prop := ∀ (w : World) (X Y : List Nat) (cs ds : List Value) (u : V), IsV w X cs v → IsV w Y ds u → v.Tidy → u.Tidy → ∀ R : Ending → World → Prop, Ends R w (.int .i64 (V.cmpP v u)) →
  Calls Tryz.prog 150 #[.agg cs.toArray, .agg ds.toArray] w R

theorem cmpI_sub {a b k : Nat} (h1 : k ≤ a) (h2 : k ≤ b) : cmpI ((a - k : Nat) : Int) ((b - k : Nat) : Int) = cmpI a b := by
  simp only [cmpI]
  (repeat' split) <;> omega

theorem cmpPL_at {m l : List V} {k : Nat} (h : V.cmpPL m l = V.cmpPL (m.drop k) (l.drop k)) (h1 : k < m.length) (h2 : k < l.length) :
    V.cmpPL m l = if V.cmpP m[k] l[k] ≠ 0 then V.cmpP m[k] l[k] else V.cmpPL (m.drop (k + 1)) (l.drop (k + 1)) := by
  rw [h, List.drop_eq_getElem_cons h1, List.drop_eq_getElem_cons h2]
  simp only [V.cmpPL]
theorem cmpPL_end {m l : List V} {k : Nat} (h : V.cmpPL m l = V.cmpPL (m.drop k) (l.drop k)) (h1 : k ≤ m.length) (h2 : k ≤ l.length) (h3 : k = m.length ∨ k = l.length) : V.cmpPL m l = cmpI m.length l.length := by
  rw [h, ← cmpI_sub h1 h2, ← List.length_drop, ← List.length_drop]
  have h4 : m.drop k = [] ∨ l.drop k = [] := by
    rcases h3 with h3 | h3
    · exact .inl (by simp [h3])
    · exact .inr (by simp [h3])
  generalize m.drop k = x at h4
  generalize l.drop k = y at h4
  cases x with
  | nil => cases y with
    | nil => simp [V.cmpPL, cmpI]
    | cons b y => simp [V.cmpPL, cmpI] <;> omega
  | cons a x => cases y with
    | nil => simp [V.cmpPL, cmpI] <;> omega
    | cons b y => simp at h4
theorem cmpPM_at {ks ks2 : List ByteArray} {m l : List V} {k : Nat} (h : V.cmpPM ks m ks2 l = V.cmpPM (ks.drop k) (m.drop k) (ks2.drop k) (l.drop k)) (h0 : k < ks.length) (h3 : k < ks2.length) (h1 : k < m.length) (h2 : k < l.length) :
    V.cmpPM ks m ks2 l = if cmpS ks[k] ks2[k] ≠ 0 then cmpS ks[k] ks2[k] else if V.cmpP m[k] l[k] ≠ 0 then V.cmpP m[k] l[k] else V.cmpPM (ks.drop (k + 1)) (m.drop (k + 1)) (ks2.drop (k + 1)) (l.drop (k + 1)) := by
  rw [h, List.drop_eq_getElem_cons h1, List.drop_eq_getElem_cons h2, List.drop_eq_getElem_cons h0, List.drop_eq_getElem_cons h3]
  simp only [V.cmpPM]
theorem cmpPM_end {ks ks2 : List ByteArray} {m l : List V} {k : Nat} (h : V.cmpPM ks m ks2 l = V.cmpPM (ks.drop k) (m.drop k) (ks2.drop k) (l.drop k)) (h1 : k ≤ ks.length) (h2 : k ≤ ks2.length) (h3 : k = ks.length ∨ k = ks2.length) : V.cmpPM ks m ks2 l = cmpI ks.length ks2.length := by
  rw [h, ← cmpI_sub h1 h2, ← List.length_drop, ← List.length_drop]
  have h4 : ks.drop k = [] ∨ ks2.drop k = [] := by
    rcases h3 with h3 | h3
    · exact .inl (by simp [h3])
    · exact .inr (by simp [h3])
  generalize ks.drop k = x at h4
  generalize ks2.drop k = y at h4
  rcases h4 with rfl | rfl
  · simp [V.cmpPM]
  · cases x with
    | nil => simp [V.cmpPM]
    | cons a x => simp [V.cmpPM]

set_option maxRecDepth 100000 in
set_option maxHeartbeats 1000000 in
theorem kindRank_c {w : World} {k n : Int} {f : Nat} {s : ByteArray} {v1 v2 : Value} (R : Ending → World → Prop) (hR : Ends R w (.int .i64 (rkK k))) :
    Calls Tryz.prog 175 #[.agg #[.int .i64 k, .int .i64 n, .float .f64 f, .string s, v1, v2]] w R := by
  have hR' := Lib.hid hR
  clear hR
  by_cases h2 : k = 2
  · subst h2
    go_enter Tryz.func175, Tryz.ntmps175
    go_wp2_with fail
    exact hR'.out _ (.alloc _ _)
  by_cases h3 : k = 3
  · subst h3
    go_enter Tryz.func175, Tryz.ntmps175
    go_wp2_with fail
    exact hR'.out _ (.alloc _ _)
  by_cases h4 : k = 4
  · subst h4
    go_enter Tryz.func175, Tryz.ntmps175
    go_wp2_with fail
    exact hR'.out _ (.alloc _ _)
  by_cases h1 : k = 1
  · subst h1
    go_enter Tryz.func175, Tryz.ntmps175
    go_wp2_with fail
    exact hR'.out _ (.alloc _ _)
  by_cases h5 : k = 5
  · subst h5
    go_enter Tryz.func175, Tryz.ntmps175
    go_wp2_with fail
    exact hR'.out _ (.alloc _ _)
  by_cases h6 : k = 6
  · subst h6
    go_enter Tryz.func175, Tryz.ntmps175
    go_wp2_with fail
    exact hR'.out _ (.alloc _ _)
  have e : rkK k = 5 := by simp [rkK, h1, h2, h3, h4, h5, h6]
  rw [e] at hR'
  have b1 : (k == 1) = false := by simpa using h1
  have b2 : (k == 2) = false := by simpa using h2
  have b3 : (k == 3) = false := by simpa using h3
  have b4 : (k == 4) = false := by simpa using h4
  have b5 : (k == 5) = false := by simpa using h5
  have b6 : (k == 6) = false := by simpa using h6
  clear e
  go_enter Tryz.func175, Tryz.ntmps175
  go_wp2_with fail
  exact hR'.out _ (.alloc _ _)

set_option maxRecDepth 100000 in
set_option maxHeartbeats 4000000 in
set_option pp.maxSteps 1000000 in
set_option pp.deepTerms true in
theorem comparePlainLists_c {w : World} {X Y : List Nat} {o o2 : Option Addr} {c c2 : Nat} {l l2 : List V} (ih : ∀ i (h : i < l.length), CpC l[i]) (hl : IsVs w X (.slice o l.length c) l) (hl2 : IsVs w Y (.slice o2 l2.length c2) l2) (ht : V.TidyL l) (ht2 : V.TidyL l2)
    (R : Ending → World → Prop) (hR : Ends R w (.int .i64 (V.cmpPL l l2))) : Calls Tryz.prog 177 #[.slice o l.length c, .slice o2 l2.length c2] w R := by
  have hR' := Lib.hid hR
  have ih' := Lib.hid ih
  have ht' := Lib.hid ht
  have ht2' := Lib.hid ht2
  obtain ⟨_, _, b, off, e, h2, h3, h4, h5⟩ := hl.ex
  cases e
  obtain ⟨_, _, d, doff, e, m2, m3, m4, m5⟩ := hl2.ex
  cases e
  have h5' := Lib.hid h5
  have m5' := Lib.hid m5
  have h4' := Lib.hid h4
  have m4' := Lib.hid m4
  clear hR ih ht ht2 hl hl2 h4 h5 m4 m5
  go_enter Tryz.func177, Tryz.ntmps177
  go_wp2_with fail
  go_loopw [5] (fun i wr => ∃ k : Nat, k ≤ l.length ∧ k ≤ l2.length ∧ i = .int .i64 k ∧ Ext w wr ∧ Hid (V.cmpPL l l2 = V.cmpPL (l.drop k) (l2.drop k))) (fun i _ => l.length - (intOf i).toNat)
  case atStart => exact ⟨0, Nat.zero_le _, Nat.zero_le _, rfl, Ext.refl _, Lib.hid (by simp)⟩
  case round =>
    obtain ⟨k, hk, hkb, rfl, hE, hall⟩ := hrel
    by_cases h1 : k < l.length
    · by_cases h2 : k < l2.length
      · have hat := Lib.hid (cmpPL_at hall.out h1 h2)
        obtain ⟨rfl, hbX⟩ := h4'.out (by omega)
        obtain ⟨rfl, hdY⟩ := m4'.out (by omega)
        obtain ⟨x, c0, c1, c2, c3, c4, c5, hx⟩ := h5'.out k h1
        obtain ⟨y, d0, d1, d2, d3, d4, d5, hy⟩ := m5'.out k h2
        replace c0 := hE.keep c0
        replace c1 := hE.keep c1
        replace c2 := hE.keep c2
        replace c3 := hE.keep c3
        replace c4 := hE.keep c4
        replace c5 := hE.keep c5
        replace d0 := hE.keep d0
        replace d1 := hE.keep d1
        replace d2 := hE.keep d2
        replace d3 := hE.keep d3
        replace d4 := hE.keep d4
        replace d5 := hE.keep d5
        have hi1 : (k : Int) < (l.length : Int) := by omega
        have hi2 : (k : Int) < (l2.length : Int) := by omega
        have hkm : (k : Int) + 1 ≤ 9223372036854775807 := by omega
        have hx' := Lib.hid hx
        have hy' := Lib.hid hy
        clear hx hy
        go_wp2_with fail
        refine wp_region_script [0, 1, 2, 3, 4, 5, 6, 7, 9] [] (fun w' => w' = wr.drew) [(.read, 0), (.read, 1), (.read, 2), (.read, 3), (.read, 4), (.read, 5), (.read, 6), (.read, 7), (.one, 8), (.pure, 9)] (by kernel_rfl) (by kernel_rfl) ?_
        iterate 8 (first | (apply scr_r; (· rfl); (· (first | rfl | (simp [Region.wanted, yielded, go_sem]; done) | (simp [Region.wanted, yielded, go_sem, *]; done))); (· (go_simp; try rfl)); (· (simp [go_sem]; try rfl))) | (apply scr_r0; (· rfl); (· (first | rfl | (simp [Region.wanted, yielded, go_sem]; done) | (simp [Region.wanted, yielded, go_sem, *]; done))); (· (simp [go_sem]; try rfl))))
        refine scr_one rfl rfl (fun K hK => ?_)
        go_simp
        refine ih'.out k h1 _ X Y x.list y.list l2[k] (hx'.out.mv (hE.drew.mv _)) (hy'.out.mv (hE.drew.mv _)) (tidyL_iff.1 ht'.out _ (List.getElem_mem h1)) (tidyL_iff.1 ht2'.out _ (List.getElem_mem h2)) _ ?_
        obtain ⟨v, hv⟩ : ∃ v, V.cmpP l[k] l2[k] = v := ⟨_, rfl⟩
        rw [hv]
        intro w3 hE3
        refine hK _ _ (fun h => by simp at h) ?_
        clear hK c0 c1 c2 c3 c4 c5 d0 d1 d2 d3 d4 d5
        have hv' := Lib.hid hv
        clear hv
        (apply scr_pure'; (· rfl); (· rfl); (· (intro w'; go_simp; try rfl)); (· (simp [go_sem]; try rfl)))
        refine scr_end ?_
        simp only [Exit.then]
        by_cases hv0 : v = 0
        · have hvb : (v != 0) = false := by simpa using hv0
          have hnx := hat.out
          rw [hv'.out, if_neg (by simp [hv0])] at hnx
          have hnx' := Lib.hid hnx
          clear hv0 hnx
          go_wp2_with fail
          go_roundw
          case rel => exact ⟨k + 1, by omega, by omega, by go_num, hE.drew.trans hE3, hnx'⟩
          case measure => simp [intOf]; omega
        · have hvb : (v != 0) = true := by simpa using hv0
          have hnx := hat.out
          rw [hv'.out, if_pos hv0] at hnx
          have hnx' := Lib.hid hnx
          clear hv0 hnx
          go_wp2_with fail
          exact hR'.out.int hnx'.out _ (hE.drew.trans hE3)
      · have hend := Lib.hid (cmpPL_end hall.out hk hkb (by omega))
        have hi1 : (k : Int) < (l.length : Int) := by omega
        have hi2 : ¬ (k : Int) < (l2.length : Int) := by omega
        go_wp2_with fail
        refine specCompareInts_c _ ?_
        intro w3 hE3
        dsimp only
        go_wp2_with fail
        exact hR'.out.int hend.out _ (hE.trans hE3)
    · have hend := Lib.hid (cmpPL_end hall.out hk hkb (by omega))
      have hi1 : ¬ (k : Int) < (l.length : Int) := by omega
      go_wp2_with fail
      refine specCompareInts_c _ ?_
      intro w3 hE3
      dsimp only
      go_wp2_with fail
      exact hR'.out.int hend.out _ (hE.trans hE3)

set_option maxRecDepth 100000 in
set_option maxHeartbeats 4000000 in
set_option pp.maxSteps 1000000 in
set_option pp.deepTerms true in
theorem comparePlainMaps_c {w : World} {X Y : List Nat} {cs ds : List Value} {k n k2 n2 : Int} {f f2 : Nat} {s s2 : ByteArray} {keys keys2 : List ByteArray} {l l2 : List V} (ih : ∀ i (h : i < l.length), CpC l[i]) (hv : IsV w X cs (.mk k n f s keys l)) (hu : IsV w Y ds (.mk k2 n2 f2 s2 keys2 l2)) (ht : V.Tidy (.mk k n f s keys l)) (ht2 : V.Tidy (.mk k2 n2 f2 s2 keys2 l2))
    (R : Ending → World → Prop) (hR : Ends R w (.int .i64 (V.cmpPM keys l keys2 l2))) : Calls Tryz.prog 178 #[.agg cs.toArray, .agg ds.toArray] w R := by
  obtain ⟨ko, kc, o, c, rfl, -, hks, hl⟩ := hv.inv
  obtain ⟨ko2, kc2, o2, c2, rfl, -, hks2, hl2⟩ := hu.inv
  obtain ⟨t1, t2⟩ := ht
  obtain ⟨t3, t4⟩ := ht2
  have hR' := Lib.hid hR
  have ih' := Lib.hid ih
  have t1' := Lib.hid t1
  have t2' := Lib.hid t2
  have t3' := Lib.hid t3
  have t4' := Lib.hid t4
  have hsm := Lib.hid hks.small
  obtain ⟨_, _, b, off, e, h2, h3, h4, h5⟩ := hl.ex
  cases e
  obtain ⟨_, _, d, doff, e, m2, m3, m4, m5⟩ := hl2.ex
  cases e
  obtain ⟨_, _, kb, koff, e, k2, k3, k4, k5⟩ := hks.ex
  cases e
  obtain ⟨_, _, mb, moff, e, n2, n3, n4, n5⟩ := hks2.ex
  cases e
  have h5' := Lib.hid h5
  have m5' := Lib.hid m5
  have h4' := Lib.hid h4
  have m4' := Lib.hid m4
  have k5' := Lib.hid k5
  have n5' := Lib.hid n5
  have k4' := Lib.hid k4
  have n4' := Lib.hid n4
  clear hR ih hl hl2 hks hks2 hv hu h4 h5 m4 m5 k4 k5 n4 n5 t1 t2 t3 t4 h2 h3 m2 m3 n2
  go_enter Tryz.func178, Tryz.ntmps178
  go_wp2_with fail
  go_loopw [5] (fun i wr => ∃ q : Nat, q ≤ keys.length ∧ q ≤ keys2.length ∧ i = .int .i64 q ∧ Ext w wr ∧ wr.cell? ⟨w.heap.size, 4, none⟩ = some (.slice ko keys.length kc) ∧ wr.cell? ⟨w.heap.size, 5, none⟩ = some (.slice o l.length c) ∧ wr.cell? ⟨w.heap.size + 1, 4, none⟩ = some (.slice ko2 keys2.length kc2) ∧ wr.cell? ⟨w.heap.size + 1, 5, none⟩ = some (.slice o2 l2.length c2) ∧ Hid (V.cmpPM keys l keys2 l2 = V.cmpPM (keys.drop q) (l.drop q) (keys2.drop q) (l2.drop q))) (fun i _ => keys.length - (intOf i).toNat)
  case atStart =>
    refine abs2 (G := fun wr => ∃ q : Nat, q ≤ keys.length ∧ q ≤ keys2.length ∧ Value.int .i64 0 = .int .i64 q ∧ Ext w wr ∧ wr.cell? ⟨w.heap.size, 4, none⟩ = some (.slice ko keys.length kc) ∧ wr.cell? ⟨w.heap.size, 5, none⟩ = some (.slice o l.length c) ∧ wr.cell? ⟨w.heap.size + 1, 4, none⟩ = some (.slice ko2 keys2.length kc2) ∧ wr.cell? ⟨w.heap.size + 1, 5, none⟩ = some (.slice o2 l2.length c2) ∧ Hid (V.cmpPM keys l keys2 l2 = V.cmpPM (keys.drop q) (l.drop q) (keys2.drop q) (l2.drop q))) ?_
    intro w1 hE1 hb1 hb2 hs1
    exact ⟨0, Nat.zero_le _, Nat.zero_le _, rfl, hE1, cells_of hb1 4, cells_of hb1 5, cells_of hb2 4, cells_of hb2 5, Lib.hid (by simp)⟩
  case round =>
    obtain ⟨q, hk, hkb, rfl, hE, a4, a5, b4, b5, hall⟩ := hrel
    by_cases h1 : q < keys.length
    · by_cases h2 : q < keys2.length
      · have hl1 : q < l.length := by have := t1'.out; omega
        have hl2 : q < l2.length := by have := t3'.out; omega
        have hat := Lib.hid (cmpPM_at hall.out h1 h2 hl1 hl2)
        obtain ⟨rfl, -⟩ := h4'.out (by omega)
        obtain ⟨rfl, -⟩ := m4'.out (by omega)
        obtain ⟨rfl, -⟩ := k4'.out (by omega)
        obtain ⟨rfl, -⟩ := n4'.out (by omega)
        obtain ⟨x, c0, c1, c2, c3, c4, c5, hx⟩ := h5'.out q hl1
        obtain ⟨y, d0, d1, d2, d3, d4, d5, hy⟩ := m5'.out q hl2
        have q0 := hE.keep (k5'.out q h1).1
        have q1 := hE.keep (n5'.out q h2).1
        have hk1 : keys.getD q ByteArray.empty = keys[q] := by simp [h1]
        have hk2 : keys2.getD q ByteArray.empty = keys2[q] := by simp [h2]
        rw [hk1] at q0
        rw [hk2] at q1
        replace c0 := hE.keep c0
        replace c1 := hE.keep c1
        replace c2 := hE.keep c2
        replace c3 := hE.keep c3
        replace c4 := hE.keep c4
        replace c5 := hE.keep c5
        replace d0 := hE.keep d0
        replace d1 := hE.keep d1
        replace d2 := hE.keep d2
        replace d3 := hE.keep d3
        replace d4 := hE.keep d4
        replace d5 := hE.keep d5
        have hi1 : (q : Int) < (keys.length : Int) := by omega
        have hi2 : (q : Int) < (keys2.length : Int) := by omega
        have hi3 : (q : Int) < (l.length : Int) := by omega
        have hi4 : (q : Int) < (l2.length : Int) := by omega
        have hkm : (q : Int) + 1 ≤ 9223372036854775807 := by have := k3; omega
        have hx' := Lib.hid hx
        have hy' := Lib.hid hy
        clear hx hy hk1 hk2 k2 k3 n3
        go_wp2_with fail
        refine wp_region_script [0, 1, 2, 3, 4, 5, 6, 7, 8, 9, 11] [] (fun w' => w' = wr.drew) [(.read, 0), (.read, 1), (.read, 2), (.read, 3), (.read, 4), (.read, 5), (.read, 6), (.read, 7), (.read, 8), (.read, 9), (.one, 10), (.pure, 11)] (by kernel_rfl) (by kernel_rfl) ?_
        iterate 10 (first | (apply scr_r; (· rfl); (· (first | rfl | (simp [Region.wanted, yielded, go_sem]; done) | (simp [Region.wanted, yielded, go_sem, *]; done))); (· (go_simp; try rfl)); (· (simp [go_sem]; try rfl))) | (apply scr_r0; (· rfl); (· (first | rfl | (simp [Region.wanted, yielded, go_sem]; done) | (simp [Region.wanted, yielded, go_sem, *]; done))); (· (simp [go_sem]; try rfl))))
        refine scr_one rfl rfl (fun K hK => ?_)
        go_simp
        refine specCompareStrings_c (hsm.out _ (List.getElem_mem h1)) _ ?_
        obtain ⟨v, hv⟩ : ∃ v, cmpS keys[q] keys2[q] = v := ⟨_, rfl⟩
        rw [hv]
        intro w3 hE3
        refine hK _ _ (fun h => by simp at h) ?_
        clear hK
        have hv' := Lib.hid hv
        have hE3' := (Ext.refl wr).drew.trans hE3
        clear hv hE3 q0 q1
        (apply scr_pure'; (· rfl); (· rfl); (· (intro w'; go_simp; try rfl)); (· (simp [go_sem]; try rfl)))
        refine scr_end ?_
        simp only [Exit.then]
        replace a4 := hE3'.keep a4
        replace a5 := hE3'.keep a5
        replace b4 := hE3'.keep b4
        replace b5 := hE3'.keep b5
        by_cases hv0 : v = 0
        · have hvb : (v != 0) = false := by simpa using hv0
          replace c0 := hE3'.keep c0
          replace c1 := hE3'.keep c1
          replace c2 := hE3'.keep c2
          replace c3 := hE3'.keep c3
          replace c4 := hE3'.keep c4
          replace c5 := hE3'.keep c5
          replace d0 := hE3'.keep d0
          replace d1 := hE3'.keep d1
          replace d2 := hE3'.keep d2
          replace d3 := hE3'.keep d3
          replace d4 := hE3'.keep d4
          replace d5 := hE3'.keep d5
          have hnx := hat.out
          rw [hv'.out, if_neg (by simp [hv0])] at hnx
          have hnx' := Lib.hid hnx
          clear hv0 hnx hat
          go_wp2_with fail
          refine wp_region_script [0, 1, 2, 3, 4, 5, 6, 7, 8, 9, 11] [] (fun w' => w' = w3.drew) [(.read, 0), (.read, 1), (.read, 2), (.read, 3), (.read, 4), (.read, 5), (.read, 6), (.read, 7), (.read, 8), (.read, 9), (.one, 10), (.pure, 11)] (by kernel_rfl) (by kernel_rfl) ?_
          iterate 10 (first | (apply scr_r; (· rfl); (· (first | rfl | (simp [Region.wanted, yielded, go_sem]; done) | (simp [Region.wanted, yielded, go_sem, *]; done))); (· (go_simp; try rfl)); (· (simp [go_sem]; try rfl))) | (apply scr_r0; (· rfl); (· (first | rfl | (simp [Region.wanted, yielded, go_sem]; done) | (simp [Region.wanted, yielded, go_sem, *]; done))); (· (simp [go_sem]; try rfl))))
          refine scr_one rfl rfl (fun K hK => ?_)
          go_simp
          refine ih'.out q hl1 _ X Y x.list y.list l2[q] (hx'.out.mv ((hE.trans hE3').drew.mv _)) (hy'.out.mv ((hE.trans hE3').drew.mv _)) (tidyL_iff.1 t2'.out _ (List.getElem_mem hl1)) (tidyL_iff.1 t4'.out _ (List.getElem_mem hl2)) _ ?_
          obtain ⟨u, hu⟩ : ∃ u, V.cmpP l[q] l2[q] = u := ⟨_, rfl⟩
          rw [hu]
          intro w4 hE4
          refine hK _ _ (fun h => by simp at h) ?_
          clear hK c0 c1 c2 c3 c4 c5 d0 d1 d2 d3 d4 d5
          have hu' := Lib.hid hu
          have hE4' := (Ext.refl w3).drew.trans hE4
          clear hu hE4
          (apply scr_pure'; (· rfl); (· rfl); (· (intro w'; go_simp; try rfl)); (· (simp [go_sem]; try rfl)))
          refine scr_end ?_
          simp only [Exit.then]
          by_cases hu0 : u = 0
          · have hub : (u != 0) = false := by simpa using hu0
            have hny := hnx'.out
            rw [hu'.out, if_neg (by simp [hu0])] at hny
            have hny' := Lib.hid hny
            clear hu0 hny
            go_wp2_with fail
            go_roundw
            case rel => exact ⟨q + 1, by omega, by omega, by go_num, (hE.trans hE3').trans hE4', hE4'.keep a4, hE4'.keep a5, hE4'.keep b4, hE4'.keep b5, hny'⟩
            case measure => simp [intOf]; omega
          · have hub : (u != 0) = true := by simpa using hu0
            have hny := hnx'.out
            rw [hu'.out, if_pos hu0] at hny
            have hny' := Lib.hid hny
            clear hu0 hny
            go_wp2_with fail
            exact hR'.out.int hny'.out _ ((hE.trans hE3').trans hE4')
        · have hvb : (v != 0) = true := by simpa using hv0
          have hnx := hat.out
          rw [hv'.out, if_pos hv0] at hnx
          have hnx' := Lib.hid hnx
          clear hv0 hnx c0 c1 c2 c3 c4 c5 d0 d1 d2 d3 d4 d5
          go_wp2_with fail
          exact hR'.out.int hnx'.out _ (hE.trans hE3')
      · have hend := Lib.hid (cmpPM_end hall.out hk hkb (by omega))
        have hi1 : (q : Int) < (keys.length : Int) := by omega
        have hi2 : ¬ (q : Int) < (keys2.length : Int) := by omega
        go_wp2_with fail
        refine specCompareInts_c _ ?_
        intro w3 hE3
        dsimp only
        go_wp2_with fail
        exact hR'.out.int hend.out _ (hE.trans hE3)
    · have hend := Lib.hid (cmpPM_end hall.out hk hkb (by omega))
      have hi1 : ¬ (q : Int) < (keys.length : Int) := by omega
      go_wp2_with fail
      refine specCompareInts_c _ ?_
      intro w3 hE3
      dsimp only
      go_wp2_with fail
      exact hR'.out.int hend.out _ (hE.trans hE3)
end Go.Proofs.YtihapgangilncaaGreat

namespace Go.Proofs.YtihapgangilncaaGreat
open Go.RowKit
set_option linter.unusedSimpArgs false

theorem rkK_cases (k : Int) : rkK k = 0 ∨ rkK k = 1 ∨ rkK k = 2 ∨ rkK k = 3 ∨ rkK k = 4 ∨ rkK k = 5 := by
  simp only [rkK]
  (repeat' split) <;> simp

theorem cmpP_rank {k n k2 n2 : Int} {f f2 : Nat} {s s2 : ByteArray} {ks ks2 : List ByteArray} {l l2 : List V} (h : cmpI (rkK k) (rkK k2) ≠ 0) :
    V.cmpP (.mk k n f s ks l) (.mk k2 n2 f2 s2 ks2 l2) = cmpI (rkK k) (rkK k2) := by simp only [V.cmpP]; rw [if_pos h]
theorem cmpP_same {k n k2 n2 : Int} {f f2 : Nat} {s s2 : ByteArray} {ks ks2 : List ByteArray} {l l2 : List V} (h : cmpI (rkK k) (rkK k2) = 0) :
    V.cmpP (.mk k n f s ks l) (.mk k2 n2 f2 s2 ks2 l2) = if rkK k = 0 then (if k = 2 ∧ k2 = 2 then cmpI n n2 else cmpF (asF k n f) (asF k2 n2 f2))
    else if rkK k = 1 then cmpS s s2 else if rkK k = 2 then cmpI n n2 else if rkK k = 3 then V.cmpPL l l2 else if rkK k = 4 then V.cmpPM ks l ks2 l2 else 0 := by simp only [V.cmpP]; rw [if_neg (by simp [h])]

set_option maxRecDepth 100000 in
set_option pp.maxSteps 1000000 in
set_option pp.deepTerms true in
set_option maxHeartbeats 8000000 in
theorem comparePlain_c (v : V) : CpC v := by
  induction v using V.ind with
  | h kind n f s keys l ih =>
  intro w X Y cs ds u hv hu htv htu R hR
  obtain ⟨kind2, n2, f2, s2, keys2, l2⟩ := u
  have hv' := Lib.hid hv
  have hu' := Lib.hid hu
  obtain ⟨ko, kc, o, c, rfl, ⟨-, -, -, hsz⟩, -, hl⟩ := hv.inv
  obtain ⟨ko2, kc2, o2, c2, rfl, -, -, hl2⟩ := hu.inv
  have hR' := Lib.hid hR
  have ih' := Lib.hid ih
  have hl' := Lib.hid hl
  have hl2' := Lib.hid hl2
  have htv' := Lib.hid htv
  have htu' := Lib.hid htu
  have hsz' := Lib.hid hsz
  clear hR ih hl hl2 hv hu htv htu hsz
  go_enter Tryz.func150, Tryz.ntmps150
  go_wp2_with fail
  refine abs2 (G := Code.wp _ _ _ _) ?_
  intro w1 hE1 hb1 hb2 hs1
  have a0 : w1.cell? ⟨w.heap.size, 0, none⟩ = some (.int .i64 kind) := cells_of hb1 0; have a1 : w1.cell? ⟨w.heap.size, 1, none⟩ = some (.int .i64 n) := cells_of hb1 1; have a2 : w1.cell? ⟨w.heap.size, 2, none⟩ = some (.float .f64 f) := cells_of hb1 2; have a3 : w1.cell? ⟨w.heap.size, 3, none⟩ = some (.string s) := cells_of hb1 3; have a4 : w1.cell? ⟨w.heap.size, 4, none⟩ = some (.slice ko keys.length kc) := cells_of hb1 4; have a5 : w1.cell? ⟨w.heap.size, 5, none⟩ = some (.slice o l.length c) := cells_of hb1 5
  have b0 : w1.cell? ⟨w.heap.size + 1, 0, none⟩ = some (.int .i64 kind2) := cells_of hb2 0; have b1 : w1.cell? ⟨w.heap.size + 1, 1, none⟩ = some (.int .i64 n2) := cells_of hb2 1; have b2 : w1.cell? ⟨w.heap.size + 1, 2, none⟩ = some (.float .f64 f2) := cells_of hb2 2; have b3 : w1.cell? ⟨w.heap.size + 1, 3, none⟩ = some (.string s2) := cells_of hb2 3; have b4 : w1.cell? ⟨w.heap.size + 1, 4, none⟩ = some (.slice ko2 keys2.length kc2) := cells_of hb2 4; have b5 : w1.cell? ⟨w.heap.size + 1, 5, none⟩ = some (.slice o2 l2.length c2) := cells_of hb2 5
  clear hb1 hb2 hs1
  have hC : Ext w1 w1.drew := (Ext.refl _).drew
  refine wp_region_script [0, 2, 5] [1] (fun w' => Ext w1 w') [(.read, 0), (.read, 2), (.one, 1), (.one, 3), (.one, 4), (.pure, 5)] (by kernel_rfl) (by kernel_rfl) ?_
  (apply scr_read'; (· rfl); (· rfl); (· first | exact hC | exact (Ext.refl _).drew); (· (intro w' hw'; have a0_ := hw'.keep a0; have a1_ := hw'.keep a1; have a2_ := hw'.keep a2; have a3_ := hw'.keep a3; have a4_ := hw'.keep a4; have a5_ := hw'.keep a5; go_simp; try rfl)); (· (simp [go_sem]; try rfl)))
  (apply scr_read'; (· rfl); (· rfl); (· first | exact hC | exact (Ext.refl _).drew); (· (intro w' hw'; have b0_ := hw'.keep b0; have b1_ := hw'.keep b1; have b2_ := hw'.keep b2; have b3_ := hw'.keep b3; have b4_ := hw'.keep b4; have b5_ := hw'.keep b5; go_simp; try rfl)); (· (simp [go_sem]; try rfl)))
  refine scr_one rfl rfl (fun K hK => ?_)
  go_simp
  refine kindRank_c _ ?_
  intro w2 hE2
  refine hK _ _ (fun _ => hC.trans hE2) ?_
  clear hK
  refine scr_one rfl rfl (fun K hK => ?_)
  go_simp
  refine kindRank_c _ ?_
  intro w3 hE3
  refine hK _ _ (fun h => by simp at h) ?_
  clear hK
  refine scr_one rfl rfl (fun K hK => ?_)
  go_simp
  refine specCompareInts_c _ ?_
  obtain ⟨z, hz⟩ : ∃ z, cmpI (rkK kind) (rkK kind2) = z := ⟨_, rfl⟩
  rw [hz]
  intro w4 hE4
  refine hK _ _ (fun h => by simp at h) ?_
  clear hK
  have hE14 := hC.trans (hE2.trans (hE3.trans hE4))
  replace a0 := hE14.keep a0; replace a1 := hE14.keep a1; replace a2 := hE14.keep a2; replace a3 := hE14.keep a3; replace a4 := hE14.keep a4; replace a5 := hE14.keep a5; replace b0 := hE14.keep b0; replace b1 := hE14.keep b1; replace b2 := hE14.keep b2; replace b3 := hE14.keep b3; replace b4 := hE14.keep b4; replace b5 := hE14.keep b5
  replace hE1 := hE1.trans hE14
  clear hC hE2 hE3 hE4 hE14
  have hz' := Lib.hid hz
  clear hz
  (apply scr_pure'; (· rfl); (· rfl); (· (intro w'; go_simp; try rfl)); (· (simp [go_sem]; try rfl)))
  refine scr_end ?_
  simp only [Exit.then]
  by_cases hz0 : z = 0
  · have hzb : (z != 0) = false := by simpa using hz0
    have hq := Lib.hid (cmpP_same (n := n) (n2 := n2) (f := f) (f2 := f2) (s := s) (s2 := s2) (ks := keys) (ks2 := keys2) (l := l) (l2 := l2) (hz'.out.trans hz0))
    clear hz0
    go_wp2_with fail
    refine kindRank_c _ ?_
    intro w5 hE5
    replace a0 := hE5.keep a0; replace a1 := hE5.keep a1; replace a2 := hE5.keep a2; replace a3 := hE5.keep a3; replace a4 := hE5.keep a4; replace a5 := hE5.keep a5; replace b0 := hE5.keep b0; replace b1 := hE5.keep b1; replace b2 := hE5.keep b2; replace b3 := hE5.keep b3; replace b4 := hE5.keep b4; replace b5 := hE5.keep b5
    replace hE1 := hE1.trans hE5
    clear hE5
    rcases rkK_cases kind with h | h | h | h | h | h
    · rw [h]
      have hq2 := hq.out
      rw [h, if_pos rfl] at hq2
      have hq' := Lib.hid hq2
      clear hq2 hq h
      dsimp only
      by_cases e1 : kind = 2
      · subst e1
        by_cases e2 : kind2 = 2
        · subst e2
          go_wp2_with fail
          refine specCompareInts_c _ ?_
          intro w6 hE6
          dsimp only
          go_wp2_with fail
          exact hR'.out.int (by rw [hq'.out]; simp) _ (hE1.trans hE6)
        · have e2b : (kind2 == 2) = false := by simpa using e2
          go_wp2_with fail
          have hC : Ext w5 w5.drew := (Ext.refl _).drew
          refine wp_region_script [0, 2, 5] [1] (fun w' => Ext w5 w') [(.read, 0), (.read, 2), (.one, 1), (.one, 3), (.one, 4), (.pure, 5)] (by kernel_rfl) (by kernel_rfl) ?_
          (apply scr_read'; (· rfl); (· rfl); (· first | exact hC | exact (Ext.refl _).drew); (· (intro w' hw'; have a0_ := hw'.keep a0; have a1_ := hw'.keep a1; have a2_ := hw'.keep a2; have a3_ := hw'.keep a3; have a4_ := hw'.keep a4; have a5_ := hw'.keep a5; go_simp; try rfl)); (· (simp [go_sem]; try rfl)))
          (apply scr_read'; (· rfl); (· rfl); (· first | exact hC | exact (Ext.refl _).drew); (· (intro w' hw'; have b0_ := hw'.keep b0; have b1_ := hw'.keep b1; have b2_ := hw'.keep b2; have b3_ := hw'.keep b3; have b4_ := hw'.keep b4; have b5_ := hw'.keep b5; go_simp; try rfl)); (· (simp [go_sem]; try rfl)))
          refine scr_one rfl rfl (fun K hK => ?_)
          go_simp
          refine asFloat_s _ ?_
          intro w6 hE6
          refine hK _ _ (fun _ => hC.trans hE6) ?_
          clear hK
          refine scr_one rfl rfl (fun K hK => ?_)
          go_simp
          refine asFloat_s _ ?_
          intro w7 hE7
          refine hK _ _ (fun h => by simp at h) ?_
          clear hK
          refine scr_one rfl rfl (fun K hK => ?_)
          go_simp
          refine specCompareFloats_c _ ?_
          intro w8 hE8
          refine hK _ _ (fun h => by simp at h) ?_
          clear hK
          (apply scr_pure'; (· rfl); (· rfl); (· (intro w'; go_simp; try rfl)); (· (simp [go_sem]; try rfl)))
          refine scr_end ?_
          simp only [Exit.then]
          go_wp2_with fail
          exact hR'.out.int (by rw [hq'.out, if_neg (by simp [e2])]) _ (hE1.trans (hC.trans (hE6.trans (hE7.trans hE8))))
      · have e1b : (kind == 2) = false := by simpa using e1
        go_wp2_with fail
        have hC : Ext w5 w5.drew := (Ext.refl _).drew
        refine wp_region_script [0, 2, 5] [1] (fun w' => Ext w5 w') [(.read, 0), (.read, 2), (.one, 1), (.one, 3), (.one, 4), (.pure, 5)] (by kernel_rfl) (by kernel_rfl) ?_
        (apply scr_read'; (· rfl); (· rfl); (· first | exact hC | exact (Ext.refl _).drew); (· (intro w' hw'; have a0_ := hw'.keep a0; have a1_ := hw'.keep a1; have a2_ := hw'.keep a2; have a3_ := hw'.keep a3; have a4_ := hw'.keep a4; have a5_ := hw'.keep a5; go_simp; try rfl)); (· (simp [go_sem]; try rfl)))
        (apply scr_read'; (· rfl); (· rfl); (· first | exact hC | exact (Ext.refl _).drew); (· (intro w' hw'; have b0_ := hw'.keep b0; have b1_ := hw'.keep b1; have b2_ := hw'.keep b2; have b3_ := hw'.keep b3; have b4_ := hw'.keep b4; have b5_ := hw'.keep b5; go_simp; try rfl)); (· (simp [go_sem]; try rfl)))
        refine scr_one rfl rfl (fun K hK => ?_)
        go_simp
        refine asFloat_s _ ?_
        intro w6 hE6
        refine hK _ _ (fun _ => hC.trans hE6) ?_
        clear hK
        refine scr_one rfl rfl (fun K hK => ?_)
        go_simp
        refine asFloat_s _ ?_
        intro w7 hE7
        refine hK _ _ (fun h => by simp at h) ?_
        clear hK
        refine scr_one rfl rfl (fun K hK => ?_)
        go_simp
        refine specCompareFloats_c _ ?_
        intro w8 hE8
        refine hK _ _ (fun h => by simp at h) ?_
        clear hK
        (apply scr_pure'; (· rfl); (· rfl); (· (intro w'; go_simp; try rfl)); (· (simp [go_sem]; try rfl)))
        refine scr_end ?_
        simp only [Exit.then]
        go_wp2_with fail
        exact hR'.out.int (by rw [hq'.out, if_neg (by simp [e1])]) _ (hE1.trans (hC.trans (hE6.trans (hE7.trans hE8))))
    · rw [h]
      have hq2 := hq.out
      rw [h, if_neg (by decide), if_pos rfl] at hq2
      have hq' := Lib.hid hq2
      clear hq2 hq h
      dsimp only
      go_wp2_with fail
      refine specCompareStrings_c hsz'.out _ ?_
      intro w6 hE6
      dsimp only
      go_wp2_with fail
      exact hR'.out.int hq'.out _ (hE1.trans hE6)
    · rw [h]
      have hq2 := hq.out
      rw [h, if_neg (by decide), if_neg (by decide), if_pos rfl] at hq2
      have hq' := Lib.hid hq2
      clear hq2 hq h
      dsimp only
      go_wp2_with fail
      refine specCompareInts_c _ ?_
      intro w6 hE6
      dsimp only
      go_wp2_with fail
      exact hR'.out.int hq'.out _ (hE1.trans hE6)
    · rw [h]
      have hq2 := hq.out
      rw [h, if_neg (by decide), if_neg (by decide), if_neg (by decide), if_pos rfl] at hq2
      have hq' := Lib.hid hq2
      clear hq2 hq h
      dsimp only
      go_wp2_with fail
      refine comparePlainLists_c ih'.out (hl'.out.mv (hE1.mv X)) (hl2'.out.mv (hE1.mv Y)) htv'.out.2 htu'.out.2 _ ?_
      intro w6 hE6
      dsimp only
      go_wp2_with fail
      exact hR'.out.int hq'.out _ (hE1.trans hE6)
    · rw [h]
      have hq2 := hq.out
      rw [h, if_neg (by decide), if_neg (by decide), if_neg (by decide), if_neg (by decide), if_pos rfl] at hq2
      have hq' := Lib.hid hq2
      clear hq2 hq h
      dsimp only
      go_wp2_with fail
      refine comparePlainMaps_c (X := X) (Y := Y) (cs := [_, _, _, _, _, _]) (ds := [_, _, _, _, _, _]) ih'.out (hv'.out.mv (hE1.mv X)) (hu'.out.mv (hE1.mv Y)) htv'.out htu'.out _ ?_
      intro w6 hE6
      dsimp only
      go_wp2_with fail
      exact hR'.out.int hq'.out _ (hE1.trans hE6)
    · rw [h]
      have hq2 := hq.out
      rw [h, if_neg (by decide), if_neg (by decide), if_neg (by decide), if_neg (by decide), if_neg (by decide)] at hq2
      have hq' := Lib.hid hq2
      clear hq2 hq h
      dsimp only
      go_wp2_with fail
      exact hR'.out.int hq'.out _ hE1
  · have hzb : (z != 0) = true := by simpa using hz0
    have hq := cmpP_rank (n := n) (n2 := n2) (f := f) (f2 := f2) (s := s) (s2 := s2) (ks := keys) (ks2 := keys2) (l := l) (l2 := l2) (by rw [hz'.out]; exact hz0)
    rw [hz'.out] at hq
    have hq' := Lib.hid hq
    clear hz0 hq
    go_wp2_with fail
    exact hR'.out.int hq'.out _ hE1

set_option maxRecDepth 100000 in
set_option maxHeartbeats 2000000 in
set_option pp.maxSteps 1000000 in
set_option pp.deepTerms true in
theorem specCompareValues_c {w : World} {X Y : List Nat} {cs ds : List Value} {a b : V} (ha : IsV w X cs a) (hb : IsV w Y ds b) (R : Ending → World → Prop) (hR : Ends R w (.int .i64 (V.cmpP a.clean b.clean))) :
    Calls Tryz.prog 108 #[.agg cs.toArray, .agg ds.toArray] w R := by
  obtain ⟨x, rfl⟩ := ha.shape
  obtain ⟨y, rfl⟩ := hb.shape
  have ha' := Lib.hid (ha.mv ((Mv.refl _ _).less (Z := []) (by simp)))
  have hb' := Lib.hid (hb.mv ((Mv.refl _ _).less (Z := []) (by simp)))
  have hR' := Lib.hid hR
  clear hR ha hb
  simp only [Cells6.list]
  go_enter Tryz.func108, Tryz.ntmps108
  go_wp2_with fail
  refine abs2 (G := Code.wp _ _ _ _) ?_
  intro w1 hE1 hb1 hb2 hs1
  have e0 : w1.cell? ⟨w.heap.size, 0, none⟩ = some (.int .i64 x.kind) := cells_of hb1 0; have e1 : w1.cell? ⟨w.heap.size, 1, none⟩ = some (.int .i64 x.n) := cells_of hb1 1; have e2 : w1.cell? ⟨w.heap.size, 2, none⟩ = some (.float .f64 x.f) := cells_of hb1 2; have e3 : w1.cell? ⟨w.heap.size, 3, none⟩ = some (.string x.s) := cells_of hb1 3; have e4 : w1.cell? ⟨w.heap.size, 4, none⟩ = some (.slice x.ko x.kn x.kc) := cells_of hb1 4; have e5 : w1.cell? ⟨w.heap.size, 5, none⟩ = some (.slice x.o x.m x.c) := cells_of hb1 5
  have f0 : w1.cell? ⟨w.heap.size + 1, 0, none⟩ = some (.int .i64 y.kind) := cells_of hb2 0; have f1 : w1.cell? ⟨w.heap.size + 1, 1, none⟩ = some (.int .i64 y.n) := cells_of hb2 1; have f2 : w1.cell? ⟨w.heap.size + 1, 2, none⟩ = some (.float .f64 y.f) := cells_of hb2 2; have f3 : w1.cell? ⟨w.heap.size + 1, 3, none⟩ = some (.string y.s) := cells_of hb2 3; have f4 : w1.cell? ⟨w.heap.size + 1, 4, none⟩ = some (.slice y.ko y.kn y.kc) := cells_of hb2 4; have f5 : w1.cell? ⟨w.heap.size + 1, 5, none⟩ = some (.slice y.o y.m y.c) := cells_of hb2 5
  clear hb1 hb2 hs1
  have hC : Ext w1 w1.drew := (Ext.refl _).drew
  refine wp_region_script [0, 2, 5] [1] (fun w' => Ext w1 w') [(.read, 0), (.read, 2), (.one, 1), (.one, 3), (.one, 4), (.pure, 5)] (by kernel_rfl) (by kernel_rfl) ?_
  (apply scr_read'; (· rfl); (· rfl); (· first | exact hC | exact (Ext.refl _).drew); (· (intro w' hw'; have e0_ := hw'.keep e0; have e1_ := hw'.keep e1; have e2_ := hw'.keep e2; have e3_ := hw'.keep e3; have e4_ := hw'.keep e4; have e5_ := hw'.keep e5; go_simp; try rfl)); (· (simp [go_sem]; try rfl)))
  (apply scr_read'; (· rfl); (· rfl); (· first | exact hC | exact (Ext.refl _).drew); (· (intro w' hw'; have f0_ := hw'.keep f0; have f1_ := hw'.keep f1; have f2_ := hw'.keep f2; have f3_ := hw'.keep f3; have f4_ := hw'.keep f4; have f5_ := hw'.keep f5; go_simp; try rfl)); (· (simp [go_sem]; try rfl)))
  refine scr_one rfl rfl (fun K hK => ?_)
  go_simp
  refine clean_all a _ [] x.list (ha'.out.mv ((hE1.trans hC).mv _)) (Old.nil _) _ ?_
  intro w2 cs2 hE2 h2
  obtain ⟨x2, rfl⟩ := h2.shape
  have h2' := Lib.hid h2
  clear h2
  refine hK _ _ (fun _ => hC.trans hE2) ?_
  clear hK
  refine scr_one rfl rfl (fun K hK => ?_)
  go_simp
  refine clean_all b _ [] y.list (hb'.out.mv ((hE1.trans (hC.trans hE2)).mv _)) (Old.nil _) _ ?_
  intro w3 cs3 hE3 h3
  obtain ⟨y2, rfl⟩ := h3.shape
  have h3' := Lib.hid h3
  clear h3
  refine hK _ _ (fun h => by simp at h) ?_
  clear hK
  refine scr_one rfl rfl (fun K hK => ?_)
  go_simp
  refine comparePlain_c a.clean _ [] [] x2.list y2.list b.clean (h2'.out.mv (hE3.mv _)) h3'.out (clean_tidy a) (clean_tidy b) _ ?_
  intro w4 hE4
  refine hK _ _ (fun h => by simp at h) ?_
  clear hK
  (apply scr_pure'; (· rfl); (· rfl); (· (intro w'; go_simp; try rfl)); (· (simp [go_sem]; try rfl)))
  refine scr_end ?_
  simp only [Exit.then]
  go_wp2_with fail
  exact hR'.out _ (hE1.trans (hC.trans (hE2.trans (hE3.trans hE4))))
end Go.Proofs.YtihapgangilncaaGreat

namespace Go.Proofs.YtihapgangilncaaGreat
open Go.RowKit
set_option linter.unusedSimpArgs false

theorem int_swap (a b : Int) : compare b a = (compare a b).swap := by
  rw [Int.compare_swap]
theorem nat_swap (a b : Nat) : compare b a = (compare a b).swap := by
  rw [Nat.compare_swap]
theorem dOrder_swap (d e : Ieee.Datum) : e.order d = (d.order e).map Ordering.swap := by
  cases d <;> cases e <;> simp only [Ieee.Datum.order, Option.map_none, Option.map_some]
  · rename_i s m i t n j
    rw [Int.min_comm j i, int_swap]
  · rename_i s m i t
    cases t <;> rfl
  · rename_i s t n j
    cases s <;> rfl
  · rename_i s t
    rw [nat_swap]
theorem order_swap (a b : Nat) : FloatKind.f64.format.order b a = (FloatKind.f64.format.order a b).map Ordering.swap := dOrder_swap _ _
def NoNan (x : Nat) : Prop := (FloatKind.f64.format.read x).isNaN = false
theorem order_some {x y : Nat} (hx : NoNan x) (hy : NoNan y) : FloatKind.f64.format.order x y ≠ none := by
  unfold NoNan at hx hy
  unfold Ieee.Format.order
  generalize FloatKind.f64.format.read x = d at hx
  generalize FloatKind.f64.format.read y = e at hy
  cases d <;> cases e <;> simp_all [Ieee.Datum.order, Ieee.Datum.isNaN]
theorem noNan_of {x : Nat} (h : (FloatKind.f64.format.order x x == some .eq) = true) : NoNan x := by
  unfold NoNan
  unfold Ieee.Format.order at h
  generalize FloatKind.f64.format.read x = d at h
  cases d <;> simp_all [Ieee.Datum.order, Ieee.Datum.isNaN]
theorem word_mod {neg : Bool} {r : Nat} (h : r < Ieee.double.signWeight) : Ieee.double.word neg r % Ieee.double.signWeight = r := by
  unfold Ieee.Format.word
  split
  · rw [Nat.add_mod_left, Nat.mod_eq_of_lt h]
  · exact Nat.mod_eq_of_lt h
theorem read_word {neg : Bool} {r : Nat} (h : r ≤ Ieee.double.infRung) : (Ieee.double.read (Ieee.double.word neg r)).isNaN = false := by
  have hs : Ieee.double.infRung < Ieee.double.signWeight := by decide
  have hm : Ieee.double.word neg r % Ieee.double.signWeight = r := word_mod (by omega)
  simp only [Ieee.Format.read, hm]
  split
  · rfl
  split
  · rfl
  split
  · rfl
  · omega
theorem noNan_toF (n : Int) : NoNan (toF n) := by
  show (Ieee.double.read (Ieee.double.nearest (decide (n < 0)) n.natAbs 0)).isNaN = false
  unfold Ieee.Format.nearest
  split
  · exact read_word (Nat.zero_le _)
  · exact read_word (Nat.min_le_right _ _)

theorem cmpF_neg (a b : Nat) : cmpF b a = - cmpF a b := by
  simp only [cmpF]
  rw [order_swap a b]
  cases h : FloatKind.f64.format.order a b with
  | none => rfl
  | some o => cases o <;> rfl
theorem cmpF_rng (a b : Nat) : cmpF a b = -1 ∨ cmpF a b = 0 ∨ cmpF a b = 1 := by
  simp only [cmpF]
  split <;> simp
theorem cmpF_zero {a b : Nat} (ha : NoNan a) (hb : NoNan b) : feq a b = true ↔ cmpF a b = 0 := by
  obtain ⟨o, ho⟩ := Option.ne_none_iff_exists'.1 (order_some ha hb)
  simp only [cmpF, feq, ho]
  cases o <;> simp
theorem cmpI_rng (a b : Int) : cmpI a b = -1 ∨ cmpI a b = 0 ∨ cmpI a b = 1 := by
  simp only [cmpI]
  (repeat' split) <;> simp
theorem cmpS_rng (a b : ByteArray) : cmpS a b = -1 ∨ cmpS a b = 0 ∨ cmpS a b = 1 := by
  rw [cmpS_slt]
  (repeat' split) <;> simp

theorem cmpP_same' {k n k2 n2 : Int} {f f2 : Nat} {s s2 : ByteArray} {ks ks2 : List ByteArray} {l l2 : List V} (h : cmpI (rkK k) (rkK k2) = 0) :
    V.cmpP (.mk k n f s ks l) (.mk k2 n2 f2 s2 ks2 l2) = if rkK k = 0 then (if k = 2 ∧ k2 = 2 then cmpI n n2 else cmpF (asF k n f) (asF k2 n2 f2))
    else if rkK k = 1 then cmpS s s2 else if rkK k = 2 then cmpI n n2 else if rkK k = 3 then V.cmpPL l l2 else if rkK k = 4 then V.cmpPM ks l ks2 l2 else 0 := by simp only [V.cmpP]; rw [if_neg (by simp [h])]

theorem cmpP_rank' {k n k2 n2 : Int} {f f2 : Nat} {s s2 : ByteArray} {ks ks2 : List ByteArray} {l l2 : List V} (h : cmpI (rkK k) (rkK k2) ≠ 0) :
    V.cmpP (.mk k n f s ks l) (.mk k2 n2 f2 s2 ks2 l2) = cmpI (rkK k) (rkK k2) := by simp only [V.cmpP]; rw [if_pos h]

mutual
theorem cmpP_rng : ∀ u v : V, V.cmpP u v = -1 ∨ V.cmpP u v = 0 ∨ V.cmpP u v = 1
  | .mk k n f s ks l, .mk k2 n2 f2 s2 ks2 l2 => by
    have h1 := cmpI_rng (rkK k) (rkK k2)
    have h2 := cmpI_rng n n2
    have h3 := cmpF_rng (asF k n f) (asF k2 n2 f2)
    have h4 := cmpS_rng s s2
    have h5 := cmpPL_rng l l2
    have h6 := cmpPM_rng ks l ks2 l2
    simp only [V.cmpP]
    split
    · exact h1
    split
    · split
      · exact h2
      · exact h3
    split
    · exact h4
    split
    · exact h2
    split
    · exact h5
    split
    · exact h6
    · exact .inr (.inl rfl)
theorem cmpPL_rng : ∀ l m : List V, V.cmpPL l m = -1 ∨ V.cmpPL l m = 0 ∨ V.cmpPL l m = 1
  | [], [] => by simp [V.cmpPL]
  | [], _ :: _ => by simp [V.cmpPL]
  | _ :: _, [] => by simp [V.cmpPL]
  | x :: l, y :: m => by
    have h1 := cmpP_rng x y
    have h2 := cmpPL_rng l m
    simp only [V.cmpPL]
    split
    · exact h1
    · exact h2
theorem cmpPM_rng : ∀ (ks : List ByteArray) (l : List V) (ks2 : List ByteArray) (m : List V), V.cmpPM ks l ks2 m = -1 ∨ V.cmpPM ks l ks2 m = 0 ∨ V.cmpPM ks l ks2 m = 1
  | [], l, ks2, m => by simpa [V.cmpPM] using cmpI_rng 0 ks2.length
  | k :: ks, l, [], m => by simpa [V.cmpPM] using cmpI_rng (k :: ks).length 0
  | k :: ks, [], k2 :: ks2, m => by simpa [V.cmpPM] using cmpI_rng (k :: ks).length (k2 :: ks2).length
  | k :: ks, x :: l, k2 :: ks2, [] => by simpa [V.cmpPM] using cmpI_rng (k :: ks).length (k2 :: ks2).length
  | k :: ks, x :: l, k2 :: ks2, y :: m => by
    have h0 := cmpS_rng k k2
    have h1 := cmpP_rng x y
    have h2 := cmpPM_rng ks l ks2 m
    simp only [V.cmpPM]
    split
    · exact h0
    split
    · exact h1
    · exact h2
end

theorem neg_if1 (a c : Int) : (if -a ≠ 0 then -a else -c) = -(if a ≠ 0 then a else c) := by (repeat' split) <;> omega
theorem neg_if2 (a b c : Int) : (if -a ≠ 0 then -a else if -b ≠ 0 then -b else -c) = -(if a ≠ 0 then a else if b ≠ 0 then b else c) := by (repeat' split) <;> omega

mutual
theorem cmpP_neg : ∀ u v : V, V.cmpP v u = - V.cmpP u v
  | .mk k n f s ks l, .mk k2 n2 f2 s2 ks2 l2 => by
    have h1 := cmpI_neg (rkK k) (rkK k2)
    have h2 := cmpI_neg n n2
    have h3 := cmpF_neg (asF k n f) (asF k2 n2 f2)
    have h4 := cmpS_neg s s2
    have h5 := cmpPL_neg l l2
    have h6 := cmpPM_neg ks l ks2 l2
    by_cases hr : cmpI (rkK k) (rkK k2) = 0
    · have hk : rkK k = rkK k2 := cmpI_zero.1 hr
      have hr2 : cmpI (rkK k2) (rkK k) = 0 := by rw [h1, hr]; rfl
      rw [cmpP_same' hr, cmpP_same' hr2, ← hk]
      split
      · by_cases e : k = 2 ∧ k2 = 2
        · rw [if_pos e, if_pos ⟨e.2, e.1⟩, h2]
        · rw [if_neg e, if_neg (fun h => e ⟨h.2, h.1⟩), h3]
      split
      · exact h4
      split
      · exact h2
      split
      · exact h5
      split
      · exact h6
      · rfl
    · have hr2 : cmpI (rkK k2) (rkK k) ≠ 0 := by rw [h1]; omega
      rw [cmpP_rank' hr, cmpP_rank' hr2, h1]
theorem cmpPL_neg : ∀ l m : List V, V.cmpPL m l = - V.cmpPL l m
  | [], [] => by simp [V.cmpPL]
  | [], _ :: _ => by simp [V.cmpPL]
  | _ :: _, [] => by simp [V.cmpPL]
  | x :: l, y :: m => by
    simp only [V.cmpPL]
    rw [cmpP_neg x y, cmpPL_neg l m]
    exact neg_if1 _ _
theorem cmpPM_neg : ∀ (ks : List ByteArray) (l : List V) (ks2 : List ByteArray) (m : List V), V.cmpPM ks2 m ks l = - V.cmpPM ks l ks2 m
  | [], l, ks2, m => by cases ks2 <;> simp [V.cmpPM, cmpI] <;> omega
  | k :: ks, l, [], m => by simp [V.cmpPM, cmpI]; omega
  | k :: ks, [], k2 :: ks2, m => by simpa [V.cmpPM] using cmpI_neg (k :: ks).length (k2 :: ks2).length
  | k :: ks, x :: l, k2 :: ks2, [] => by simpa [V.cmpPM] using cmpI_neg (k :: ks).length (k2 :: ks2).length
  | k :: ks, x :: l, k2 :: ks2, y :: m => by
    simp only [V.cmpPM]
    rw [cmpS_neg k k2, cmpP_neg x y, cmpPM_neg ks l ks2 m]
    exact neg_if2 _ _ _
end

/-- the clean forms -/
inductive Cl : V → Prop
  | null : Cl (.mk 0 0 0 ⟨#[]⟩ [] [])
  | bool (n : Int) : Cl (.mk 1 n 0 ⟨#[]⟩ [] [])
  | int (n : Int) : Cl (.mk 2 n 0 ⟨#[]⟩ [] [])
  | float (f : Nat) : Cl (.mk 3 0 f ⟨#[]⟩ [] [])
  | str (s : ByteArray) : Cl (.mk 4 0 0 s [] [])
  | list (l : List V) (h : ∀ i (h : i < l.length), Cl l[i]) : Cl (.mk 5 0 0 ⟨#[]⟩ [] l)
  | map (ks : List ByteArray) (l : List V) (hl : ks.length = l.length) (h : ∀ i (h : i < l.length), Cl l[i]) : Cl (.mk 6 0 0 ⟨#[]⟩ ks l)
theorem clean_cl (v : V) : Cl v.clean := by
  induction v using V.ind with
  | h kind n f s keys l ih =>
    have hl : ∀ x ∈ V.cleanL l, Cl x := fun x hx => by
      rw [V.cleanL_eq] at hx
      obtain ⟨y, hy, rfl⟩ := List.mem_map.1 hx
      obtain ⟨i, hi, rfl⟩ := List.getElem_of_mem hy
      exact ih i hi
    simp only [V.clean]
    split
    · exact .bool _
    split
    · exact .int _
    split
    · exact .float _
    split
    · exact .str _
    split
    · exact .list _ fun i hi => hl _ (List.getElem_mem hi)
    split
    · refine .map _ _ (by simp) fun i hi => ?_
      obtain ⟨p, hp, e⟩ := List.mem_map.1 (List.getElem_mem hi)
      rw [← e]
      exact hl _ (List.of_mem_zip (insAll_sub hp)).2
    · exact .null

theorem eqPL_cmp : ∀ {l m : List V}, (∀ i (h : i < l.length) j (h2 : j < m.length), V.eqP l[i] m[j] = true ↔ V.cmpP l[i] m[j] = 0) → ((l.length = m.length ∧ V.eqPL l m = true) ↔ V.cmpPL l m = 0)
  | [], [], _ => by simp [V.cmpPL, V.eqPL]
  | [], _ :: _, _ => by simp [V.cmpPL, V.eqPL]
  | _ :: _, [], _ => by simp [V.cmpPL, V.eqPL]
  | x :: l, y :: m, h => by
    have h0 : V.eqP x y = true ↔ V.cmpP x y = 0 := h 0 (Nat.zero_lt_succ _) 0 (Nat.zero_lt_succ _)
    have h1 := eqPL_cmp (l := l) (m := m) (fun i hi j hj => h (i + 1) (Nat.succ_lt_succ hi) (j + 1) (Nat.succ_lt_succ hj))
    simp only [V.cmpPL, V.eqPL, List.length_cons, Bool.and_eq_true, h0, Nat.add_right_cancel_iff]
    by_cases hz : V.cmpP x y = 0
    · rw [if_neg (by simp [hz]), ← h1]; simp [hz]
    · rw [if_pos hz]; simp [hz]
theorem eqPM_cmp : ∀ {ks ks2 : List ByteArray} {l m : List V}, ks.length = l.length → ks2.length = m.length → (∀ i (h : i < l.length) j (h2 : j < m.length), V.eqP l[i] m[j] = true ↔ V.cmpP l[i] m[j] = 0) → ((ks = ks2 ∧ l.length = m.length ∧ V.eqPL l m = true) ↔ V.cmpPM ks l ks2 m = 0)
  | [], [], [], [], _, _, _ => by simp [V.cmpPM, V.eqPL, cmpI]
  | [], k2 :: ks2, [], m, _, h2, _ => by simp [V.cmpPM, cmpI] <;> omega
  | k :: ks, [], l, [], _, _, _ => by simp [V.cmpPM, cmpI] <;> omega
  | k :: ks, k2 :: ks2, x :: l, y :: m, e1, e2, h => by
    have h0 : V.eqP x y = true ↔ V.cmpP x y = 0 := h 0 (Nat.zero_lt_succ _) 0 (Nat.zero_lt_succ _)
    have h1 := eqPM_cmp (ks := ks) (ks2 := ks2) (l := l) (m := m) (by simpa using e1) (by simpa using e2) (fun i hi j hj => h (i + 1) (Nat.succ_lt_succ hi) (j + 1) (Nat.succ_lt_succ hj))
    simp only [V.cmpPM, V.eqPL, List.length_cons, List.cons.injEq, Bool.and_eq_true, h0, Nat.add_right_cancel_iff]
    by_cases hk : cmpS k k2 = 0
    · have hkk := cmpS_zero.1 hk
      by_cases hz : V.cmpP x y = 0
      · rw [if_neg (by simp [hk]), if_neg (by simp [hz]), ← h1]; simp [hz, hkk]
      · rw [if_neg (by simp [hk]), if_pos hz]; simp [hz]
    · have hkk : k ≠ k2 := fun e => hk (cmpS_zero.2 e)
      rw [if_pos hk]; simp [hk, hkk]

theorem cmpP_eq {u : V} (hu : Cl u) : ∀ {v : V}, Cl v → u.orderly = true → v.orderly = true → (V.eqP u v = true ↔ V.cmpP u v = 0) := by
  induction hu with
  | null => intro v hv _ _; cases hv <;> simp [V.eqP, V.cmpP, V.eqPL, vnum, rkK, cmpI]
  | bool n =>
    intro v hv _ _
    cases hv
    case bool n2 =>
      rw [eqP_else (by decide), cmpP_same' (by decide)]
      simp [V.eqPL, rkK, cmpI_zero]
    all_goals simp [V.eqP, V.cmpP, vnum, rkK, cmpI]
  | int n =>
    intro v hv _ ov
    cases hv
    case int n2 =>
      rw [eqP_num (by decide), cmpP_same' (by decide)]
      simp [rkK, cmpI_zero]
    case float f2 =>
      have hf : NoNan f2 := noNan_of (by simpa [V.orderly] using ov)
      rw [eqP_num (by decide), cmpP_same' (by decide)]
      simpa [rkK, asF] using cmpF_zero (noNan_toF n) hf
    all_goals simp [V.eqP, V.cmpP, vnum, rkK, cmpI]
  | float f =>
    intro v hv ou ov
    have hf1 : NoNan f := noNan_of (by simpa [V.orderly] using ou)
    cases hv
    case int n2 =>
      rw [eqP_num (by decide), cmpP_same' (by decide)]
      simpa [rkK, asF] using cmpF_zero hf1 (noNan_toF n2)
    case float f2 =>
      have hf : NoNan f2 := noNan_of (by simpa [V.orderly] using ov)
      rw [eqP_num (by decide), cmpP_same' (by decide)]
      simpa [rkK, asF] using cmpF_zero hf1 hf
    all_goals simp [V.eqP, V.cmpP, vnum, rkK, cmpI]
  | str s =>
    intro v hv _ _
    cases hv
    case str s2 =>
      rw [eqP_else (by decide), cmpP_same' (by decide)]
      simp [V.eqPL, rkK, cmpS_zero]
    all_goals simp [V.eqP, V.cmpP, vnum, rkK, cmpI]
  | list l h ih =>
    intro v hv ou ov
    cases hv
    case list m hm =>
      have ol := (orderlyL_iff l).1 (by simpa [V.orderly] using ou)
      have om := (orderlyL_iff m).1 (by simpa [V.orderly] using ov)
      have he := eqPL_cmp (fun i hi j hj => ih i hi (hm j hj) (ol i hi) (om j hj))
      rw [eqP_list, cmpP_same' (by decide)]
      simpa [rkK] using he
    all_goals simp [V.eqP, V.cmpP, vnum, rkK, cmpI]
  | map ks l hl h ih =>
    intro v hv ou ov
    cases hv
    case map ks2 m hl2 hm =>
      have ol := (orderlyL_iff l).1 (by simpa [V.orderly] using ou)
      have om := (orderlyL_iff m).1 (by simpa [V.orderly] using ov)
      have he := eqPM_cmp hl hl2 (fun i hi j hj => ih i hi (hm j hj) (ol i hi) (om j hj))
      rw [eqP_map, cmpP_same' (by decide)]
      simpa [rkK] using he
    all_goals simp [V.eqP, V.cmpP, vnum, rkK, cmpI]

theorem orderly_clean (v : V) (h : v.orderly = true) : v.clean.orderly = true := by
  induction v using V.ind with
  | h kind n f s keys l ih =>
    have hl : (kind = 5 ∨ kind = 6) → ∀ x ∈ V.cleanL l, x.orderly = true := fun hk x hx => by
      rw [V.cleanL_eq] at hx
      obtain ⟨y, hy, rfl⟩ := List.mem_map.1 hx
      obtain ⟨i, hi, rfl⟩ := List.getElem_of_mem hy
      have h2 : V.orderlyL l = true := by
        rcases hk with rfl | rfl <;> simpa [V.orderly] using h
      exact ih i hi ((orderlyL_iff l).1 h2 i hi)
    by_cases k1 : kind = 1
    · subst k1; simp [V.clean, V.orderly]
    by_cases k2 : kind = 2
    · subst k2; simpa [V.clean, V.orderly] using h
    by_cases k3 : kind = 3
    · subst k3; simpa [V.clean, V.orderly] using h
    by_cases k4 : kind = 4
    · subst k4; simp [V.clean, V.orderly]
    by_cases k5 : kind = 5
    · subst k5
      have : V.orderlyL (V.cleanL l) = true := (orderlyL_iff _).2 fun i hi => hl (.inl rfl) _ (List.getElem_mem hi)
      simpa [V.clean, V.orderly] using this
    by_cases k6 : kind = 6
    · subst k6
      have : V.orderlyL ((insAll [] (keys.zip (V.cleanL l))).map (·.2)) = true := (orderlyL_iff _).2 fun i hi => by
        obtain ⟨p, hp, e⟩ := List.mem_map.1 (List.getElem_mem hi)
        rw [← e]
        exact hl (.inr rfl) _ (List.of_mem_zip (insAll_sub hp)).2
      simpa [V.clean, V.orderly] using this
    · simp [V.clean, V.orderly, k1, k2, k3, k4, k5, k6]

/-- the order of two orderly values, and whether they are equal, one way and the other -/
theorem turned {a b : V} (ha : a.orderly = true) (hb : b.orderly = true) : ∃ (c : Int) (b0 b1 b2 : Bool), V.cmpP a.clean b.clean = c ∧ V.cmpP b.clean a.clean = -c ∧ (c == -1) = b0 ∧ (-c == -1) = b2 ∧ V.eqP a.clean b.clean = b1 ∧ V.eqP b.clean a.clean = b1 ∧
    ((c = -1 ∧ b0 = true ∧ b1 = false ∧ b2 = false) ∨ (c = 0 ∧ b0 = false ∧ b1 = true ∧ b2 = false) ∨ (c = 1 ∧ b0 = false ∧ b1 = false ∧ b2 = true)) := by
  have h1 := cmpP_eq (clean_cl a) (clean_cl b) (orderly_clean a ha) (orderly_clean b hb)
  have h2 := cmpP_eq (clean_cl b) (clean_cl a) (orderly_clean b hb) (orderly_clean a ha)
  have h3 := cmpP_neg a.clean b.clean
  rw [h3] at h2
  refine ⟨_, _, V.eqP a.clean b.clean, _, rfl, h3, rfl, rfl, rfl, ?_, ?_⟩
  · rw [Bool.eq_iff_iff, h1, h2]; omega
  · rcases cmpP_rng a.clean b.clean with h | h | h
    · refine .inl ⟨h, by rw [h]; rfl, ?_, by rw [h]; rfl⟩
      rw [Bool.eq_false_iff]; intro h4; rw [h1] at h4; omega
    · exact .inr (.inl ⟨h, by rw [h]; rfl, h1.2 h, by rw [h]; rfl⟩)
    · refine .inr (.inr ⟨h, by rw [h]; rfl, ?_, by rw [h]; rfl⟩)
      rw [Bool.eq_false_iff]; intro h4; rw [h1] at h4; omega
end Go.Proofs.YtihapgangilncaaGreat

namespace Go.Proofs.YtihapgangilncaaGreat
open Go.RowKit
set_option linter.unusedSimpArgs false

theorem cmpT_plain (a b : V) : cmpT a.plain b.plain = V.cmpP a.clean b.clean := by rw [cmpT, back_plain, back_plain]
theorem IsVal.one {w : World} {X : List Nat} {v : Value} {t : T} (h : IsVal w X v t) : v.oneCell' = true := by
  obtain ⟨p, x, rfl, _⟩ := h.ex
  rfl

set_option maxRecDepth 100000 in
set_option maxHeartbeats 1000000 in
theorem valueCompare_c {w : World} {X Y : List Nat} {a b : T} {va vb : Value} (ha : IsVal w X va a) (hb : IsVal w Y vb b) (R : Ending → World → Prop) (hR : Ends R w (.int .i64 (cmpT a b))) :
    Calls Tryz.prog 147 #[va, vb] w R := by
  obtain ⟨pa, xa, rfl, -⟩ := id ha.ex
  obtain ⟨pb, xb, rfl, -⟩ := id hb.ex
  have ha' := Lib.hid ha
  have hb' := Lib.hid hb
  have hR' := Lib.hid hR
  clear hR ha hb
  go_enter Tryz.func147, Tryz.ntmps147
  go_wp2_with fail
  refine compare_c b _ X Y a _ _ _ (ha'.out.mv ((Ext.alloc _ _).mv _)) (hb'.out.mv ((Ext.alloc _ _).mv _)) ⟨_, rfl⟩ _ ?_
  intro w2 hE2
  dsimp only
  go_wp2_with fail
  exact hR'.out _ ((Ext.alloc _ _).trans hE2)
end Go.Proofs.YtihapgangilncaaGreat
