/- spec.comparePlain and spec.CompareValues. -/
import Derived.Test.YtamcgcncghabhaaCmpE
namespace Go.Proofs.Ytamcgcncghabhaa
open Go.RowKit
set_option linter.unusedSimpArgs false

/- Tidy: each key has a value -/
mutual
def V.Tidy : V → Prop
  | .mk _ _ _ _ ks l => ks.length ≤ l.length ∧ V.TidyL l
def V.TidyL : List V → Prop
  | [] => True
  | x :: l => x.Tidy ∧ V.TidyL l
end
theorem tidyL_iff : ∀ {l : List V}, V.TidyL l ↔ ∀ x ∈ l, x.Tidy
  | [] => by simp [V.TidyL]
  | x :: l => by simp [V.TidyL, tidyL_iff (l := l)]
theorem clean_tidy (v : V) : v.clean.Tidy := by
  induction v using V.ind with
  | h kind n f s keys l ih =>
    have hl : ∀ x ∈ V.cleanL l, x.Tidy := fun x hx => by
      rw [V.cleanL_eq] at hx
      obtain ⟨y, hy, rfl⟩ := List.mem_map.1 hx
      obtain ⟨i, hi, rfl⟩ := List.getElem_of_mem hy
      exact ih i hi
    simp only [V.clean]
    split
    · simp [V.Tidy, V.TidyL]
    split
    · simp [V.Tidy, V.TidyL]
    split
    · simp [V.Tidy, V.TidyL]
    split
    · simp [V.Tidy, V.TidyL]
    split
    · exact ⟨by simp, tidyL_iff.2 hl⟩
    split
    · refine ⟨by simp, tidyL_iff.2 fun x hx => ?_⟩
      obtain ⟨p, hp, rfl⟩ := List.mem_map.1 hx
      exact hl _ (List.of_mem_zip (insAll_sub hp)).2
    · simp [V.Tidy, V.TidyL]

def CpC (v : V) : Prop := ∀ (w : World) (X Y : List Nat) (cs ds : List Value) (u : V), IsV w X cs v → IsV w Y ds u → v.Tidy → u.Tidy → ∀ R : Ending → World → Prop, Ends R w (.int .i64 (V.cmpP v u)) →
  Calls Try.prog 42 #[.agg cs.toArray, .agg ds.toArray] w R

theorem cmpI_sub {a b k : Nat} (h1 : k ≤ a) (h2 : k ≤ b) : cmpI ((a - k : Nat) : Int) ((b - k : Nat) : Int) = cmpI a b := by
  simp only [cmpI]
  (repeat' split) <;> omega

theorem cmpPL_at {m l : List V} {k : Nat} (h : V.cmpPL m l = V.cmpPL (m.drop k) (l.drop k)) (h1 : k < m.length) (h2 : k < l.length) :
    V.cmpPL m l = if V.cmpP m[k] l[k] ≠ 0 then V.cmpP m[k] l[k] else V.cmpPL (m.drop (k + 1)) (l.drop (k + 1)) := by
  rw [h, List.drop_eq_getElem_cons h1, List.drop_eq_getElem_cons h2]
  simp only [V.cmpPL]
theorem cmpPL_end {m l : List V} {k : Nat} (h : V.cmpPL m l = V.cmpPL (m.drop k) (l.drop k)) (h1 : k ≤ m.length) (h2 : k ≤ l.length) (h3 : k = m.length ∨ k = l.length) : V.cmpPL m l = cmpI m.length l.length := by
  rw [h, ← cmpI_sub h1 h2, ← List.length_drop, ← List.length_drop]
  have h4 : m.drop k = [] ∨ l.drop k = [] := by
    rcases h3 with h3 | h3
    · exact .inl (by simp [h3])
    · exact .inr (by simp [h3])
  generalize m.drop k = x at h4
  generalize l.drop k = y at h4
  cases x with
  | nil => cases y with
    | nil => simp [V.cmpPL, cmpI]
    | cons b y => simp [V.cmpPL, cmpI] <;> omega
  | cons a x => cases y with
    | nil => simp [V.cmpPL, cmpI] <;> omega
    | cons b y => simp at h4
theorem cmpPM_at {ks ks2 : List ByteArray} {m l : List V} {k : Nat} (h : V.cmpPM ks m ks2 l = V.cmpPM (ks.drop k) (m.drop k) (ks2.drop k) (l.drop k)) (h0 : k < ks.length) (h3 : k < ks2.length) (h1 : k < m.length) (h2 : k < l.length) :
    V.cmpPM ks m ks2 l = if cmpS ks[k] ks2[k] ≠ 0 then cmpS ks[k] ks2[k] else if V.cmpP m[k] l[k] ≠ 0 then V.cmpP m[k] l[k] else V.cmpPM (ks.drop (k + 1)) (m.drop (k + 1)) (ks2.drop (k + 1)) (l.drop (k + 1)) := by
  rw [h, List.drop_eq_getElem_cons h1, List.drop_eq_getElem_cons h2, List.drop_eq_getElem_cons h0, List.drop_eq_getElem_cons h3]
  simp only [V.cmpPM]
theorem cmpPM_end {ks ks2 : List ByteArray} {m l : List V} {k : Nat} (h : V.cmpPM ks m ks2 l = V.cmpPM (ks.drop k) (m.drop k) (ks2.drop k) (l.drop k)) (h1 : k ≤ ks.length) (h2 : k ≤ ks2.length) (h3 : k = ks.length ∨ k = ks2.length) : V.cmpPM ks m ks2 l = cmpI ks.length ks2.length := by
  rw [h, ← cmpI_sub h1 h2, ← List.length_drop, ← List.length_drop]
  have h4 : ks.drop k = [] ∨ ks2.drop k = [] := by
    rcases h3 with h3 | h3
    · exact .inl (by simp [h3])
    · exact .inr (by simp [h3])
  generalize ks.drop k = x at h4
  generalize ks2.drop k = y at h4
  rcases h4 with rfl | rfl
  · simp [V.cmpPM]
  · cases x with
    | nil => simp [V.cmpPM]
    | cons a x => simp [V.cmpPM]

set_option maxRecDepth 100000 in
set_option maxHeartbeats 1000000 in
theorem kindRank_c {w : World} {k n : Int} {f : Nat} {s : ByteArray} {v1 v2 : Value} (R : Ending → World → Prop) (hR : Ends R w (.int .i64 (rkK k))) :
    Calls Try.prog 74 #[.agg #[.int .i64 k, .int .i64 n, .float .f64 f, .string s, v1, v2]] w R := by
  have hR' := Lib.hid hR
  clear hR
  by_cases h2 : k = 2
  · subst h2
    go_enter Try.func74, Try.ntmps74
    go_wp2_with fail
    exact hR'.out _ (.alloc _ _)
  by_cases h3 : k = 3
  · subst h3
    go_enter Try.func74, Try.ntmps74
    go_wp2_with fail
    exact hR'.out _ (.alloc _ _)
  by_cases h4 : k = 4
  · subst h4
    go_enter Try.func74, Try.ntmps74
    go_wp2_with fail
    exact hR'.out _ (.alloc _ _)
  by_cases h1 : k = 1
  · subst h1
    go_enter Try.func74, Try.ntmps74
    go_wp2_with fail
    exact hR'.out _ (.alloc _ _)
  by_cases h5 : k = 5
  · subst h5
    go_enter Try.func74, Try.ntmps74
    go_wp2_with fail
    exact hR'.out _ (.alloc _ _)
  by_cases h6 : k = 6
  · subst h6
    go_enter Try.func74, Try.ntmps74
    go_wp2_with fail
    exact hR'.out _ (.alloc _ _)
  have e : rkK k = 5 := by simp [rkK, h1, h2, h3, h4, h5, h6]
  rw [e] at hR'
  have b1 : (k == 1) = false := by simpa using h1
  have b2 : (k == 2) = false := by simpa using h2
  have b3 : (k == 3) = false := by simpa using h3
  have b4 : (k == 4) = false := by simpa using h4
  have b5 : (k == 5) = false := by simpa using h5
  have b6 : (k == 6) = false := by simpa using h6
  clear e
  go_enter Try.func74, Try.ntmps74
  go_wp2_with fail
  exact hR'.out _ (.alloc _ _)

set_option maxRecDepth 100000 in
set_option maxHeartbeats 4000000 in
set_option pp.maxSteps 1000000 in
set_option pp.deepTerms true in
theorem comparePlainLists_c {w : World} {X Y : List Nat} {o o2 : Option Addr} {c c2 : Nat} {l l2 : List V} (ih : ∀ i (h : i < l.length), CpC l[i]) (hl : IsVs w X (.slice o l.length c) l) (hl2 : IsVs w Y (.slice o2 l2.length c2) l2) (ht : V.TidyL l) (ht2 : V.TidyL l2)
    (R : Ending → World → Prop) (hR : Ends R w (.int .i64 (V.cmpPL l l2))) : Calls Try.prog 77 #[.slice o l.length c, .slice o2 l2.length c2] w R := by
  have hR' := Lib.hid hR
  have ih' := Lib.hid ih
  have ht' := Lib.hid ht
  have ht2' := Lib.hid ht2
  obtain ⟨_, _, b, off, e, h2, h3, h4, h5⟩ := hl.ex
  cases e
  obtain ⟨_, _, d, doff, e, m2, m3, m4, m5⟩ := hl2.ex
  cases e
  have h5' := Lib.hid h5
  have m5' := Lib.hid m5
  have h4' := Lib.hid h4
  have m4' := Lib.hid m4
  clear hR ih ht ht2 hl hl2 h4 h5 m4 m5
  go_enter Try.func77, Try.ntmps77
  go_wp2_with fail
  go_loopw [5] (fun i wr => ∃ k : Nat, k ≤ l.length ∧ k ≤ l2.length ∧ i = .int .i64 k ∧ Ext w wr ∧ Hid (V.cmpPL l l2 = V.cmpPL (l.drop k) (l2.drop k))) (fun i _ => l.length - (intOf i).toNat)
  case atStart => exact ⟨0, Nat.zero_le _, Nat.zero_le _, rfl, Ext.refl _, Lib.hid (by simp)⟩
  case round =>
    obtain ⟨k, hk, hkb, rfl, hE, hall⟩ := hrel
    by_cases h1 : k < l.length
    · by_cases h2 : k < l2.length
      · have hat := Lib.hid (cmpPL_at hall.out h1 h2)
        obtain ⟨rfl, hbX⟩ := h4'.out (by omega)
        obtain ⟨rfl, hdY⟩ := m4'.out (by omega)
        obtain ⟨x, c0, c1, c2, c3, c4, c5, hx⟩ := h5'.out k h1
        obtain ⟨y, d0, d1, d2, d3, d4, d5, hy⟩ := m5'.out k h2
        replace c0 := hE.keep c0
        replace c1 := hE.keep c1
        replace c2 := hE.keep c2
        replace c3 := hE.keep c3
        replace c4 := hE.keep c4
        replace c5 := hE.keep c5
        replace d0 := hE.keep d0
        replace d1 := hE.keep d1
        replace d2 := hE.keep d2
        replace d3 := hE.keep d3
        replace d4 := hE.keep d4
        replace d5 := hE.keep d5
        have hi1 : (k : Int) < (l.length : Int) := by omega
        have hi2 : (k : Int) < (l2.length : Int) := by omega
        have hkm : (k : Int) + 1 ≤ 9223372036854775807 := by omega
        have hx' := Lib.hid hx
        have hy' := Lib.hid hy
        clear hx hy
        go_wp2_with fail
        refine wp_region_script [0, 1, 2, 3, 4, 5, 6, 7, 9] [] (fun w' => w' = wr.drew) [(.read, 0), (.read, 1), (.read, 2), (.read, 3), (.read, 4), (.read, 5), (.read, 6), (.read, 7), (.one, 8), (.pure, 9)] (by kernel_rfl) (by kernel_rfl) ?_
        iterate 8 (first | (apply scr_r; (· rfl); (· (first | rfl | (simp [Region.wanted, yielded, go_sem]; done) | (simp [Region.wanted, yielded, go_sem, *]; done))); (· (go_simp; try rfl)); (· (simp [go_sem]; try rfl))) | (apply scr_r0; (· rfl); (· (first | rfl | (simp [Region.wanted, yielded, go_sem]; done) | (simp [Region.wanted, yielded, go_sem, *]; done))); (· (simp [go_sem]; try rfl))))
        refine scr_one rfl rfl (fun K hK => ?_)
        go_simp
        refine ih'.out k h1 _ X Y x.list y.list l2[k] (hx'.out.mv (hE.drew.mv _)) (hy'.out.mv (hE.drew.mv _)) (tidyL_iff.1 ht'.out _ (List.getElem_mem h1)) (tidyL_iff.1 ht2'.out _ (List.getElem_mem h2)) _ ?_
        obtain ⟨v, hv⟩ : ∃ v, V.cmpP l[k] l2[k] = v := ⟨_, rfl⟩
        rw [hv]
        intro w3 hE3
        refine hK _ _ (fun h => by simp at h) ?_
        clear hK c0 c1 c2 c3 c4 c5 d0 d1 d2 d3 d4 d5
        have hv' := Lib.hid hv
        clear hv
        (apply scr_pure'; (· rfl); (· rfl); (· (intro w'; go_simp; try rfl)); (· (simp [go_sem]; try rfl)))
        refine scr_end ?_
        simp only [Exit.then]
        by_cases hv0 : v = 0
        · have hvb : (v != 0) = false := by simpa using hv0
          have hnx := hat.out
          rw [hv'.out, if_neg (by simp [hv0])] at hnx
          have hnx' := Lib.hid hnx
          clear hv0 hnx
          go_wp2_with fail
          go_roundw
          case rel => exact ⟨k + 1, by omega, by omega, by go_num, hE.drew.trans hE3, hnx'⟩
          case measure => simp [intOf]; omega
        · have hvb : (v != 0) = true := by simpa using hv0
          have hnx := hat.out
          rw [hv'.out, if_pos hv0] at hnx
          have hnx' := Lib.hid hnx
          clear hv0 hnx
          go_wp2_with fail
          exact hR'.out.int hnx'.out _ (hE.drew.trans hE3)
      · have hend := Lib.hid (cmpPL_end hall.out hk hkb (by omega))
        have hi1 : (k : Int) < (l.length : Int) := by omega
        have hi2 : ¬ (k : Int) < (l2.length : Int) := by omega
        go_wp2_with fail
        refine specCompareInts_c _ ?_
        intro w3 hE3
        dsimp only
        go_wp2_with fail
        exact hR'.out.int hend.out _ (hE.trans hE3)
    · have hend := Lib.hid (cmpPL_end hall.out hk hkb (by omega))
      have hi1 : ¬ (k : Int) < (l.length : Int) := by omega
      go_wp2_with fail
      refine specCompareInts_c _ ?_
      intro w3 hE3
      dsimp only
      go_wp2_with fail
      exact hR'.out.int hend.out _ (hE.trans hE3)

set_option maxRecDepth 100000 in
set_option maxHeartbeats 4000000 in
set_option pp.maxSteps 1000000 in
set_option pp.deepTerms true in
theorem comparePlainMaps_c {w : World} {X Y : List Nat} {cs ds : List Value} {k n k2 n2 : Int} {f f2 : Nat} {s s2 : ByteArray} {keys keys2 : List ByteArray} {l l2 : List V} (ih : ∀ i (h : i < l.length), CpC l[i]) (hv : IsV w X cs (.mk k n f s keys l)) (hu : IsV w Y ds (.mk k2 n2 f2 s2 keys2 l2)) (ht : V.Tidy (.mk k n f s keys l)) (ht2 : V.Tidy (.mk k2 n2 f2 s2 keys2 l2))
    (R : Ending → World → Prop) (hR : Ends R w (.int .i64 (V.cmpPM keys l keys2 l2))) : Calls Try.prog 64 #[.agg cs.toArray, .agg ds.toArray] w R := by
  obtain ⟨ko, kc, o, c, rfl, -, hks, hl⟩ := hv.inv
  obtain ⟨ko2, kc2, o2, c2, rfl, -, hks2, hl2⟩ := hu.inv
  obtain ⟨t1, t2⟩ := ht
  obtain ⟨t3, t4⟩ := ht2
  have hR' := Lib.hid hR
  have ih' := Lib.hid ih
  have t1' := Lib.hid t1
  have t2' := Lib.hid t2
  have t3' := Lib.hid t3
  have t4' := Lib.hid t4
  have hsm := Lib.hid hks.small
  obtain ⟨_, _, b, off, e, h2, h3, h4, h5⟩ := hl.ex
  cases e
  obtain ⟨_, _, d, doff, e, m2, m3, m4, m5⟩ := hl2.ex
  cases e
  obtain ⟨_, _, kb, koff, e, k2, k3, k4, k5⟩ := hks.ex
  cases e
  obtain ⟨_, _, mb, moff, e, n2, n3, n4, n5⟩ := hks2.ex
  cases e
  have h5' := Lib.hid h5
  have m5' := Lib.hid m5
  have h4' := Lib.hid h4
  have m4' := Lib.hid m4
  have k5' := Lib.hid k5
  have n5' := Lib.hid n5
  have k4' := Lib.hid k4
  have n4' := Lib.hid n4
  clear hR ih hl hl2 hks hks2 hv hu h4 h5 m4 m5 k4 k5 n4 n5 t1 t2 t3 t4 h2 h3 m2 m3 n2
  go_enter Try.func64, Try.ntmps64
  go_wp2_with fail
  go_loopw [5] (fun i wr => ∃ q : Nat, q ≤ keys.length ∧ q ≤ keys2.length ∧ i = .int .i64 q ∧ Ext w wr ∧ wr.cell? ⟨w.heap.size, 4, none⟩ = some (.slice ko keys.length kc) ∧ wr.cell? ⟨w.heap.size, 5, none⟩ = some (.slice o l.length c) ∧ wr.cell? ⟨w.heap.size + 1, 4, none⟩ = some (.slice ko2 keys2.length kc2) ∧ wr.cell? ⟨w.heap.size + 1, 5, none⟩ = some (.slice o2 l2.length c2) ∧ Hid (V.cmpPM keys l keys2 l2 = V.cmpPM (keys.drop q) (l.drop q) (keys2.drop q) (l2.drop q))) (fun i _ => keys.length - (intOf i).toNat)
  case atStart =>
    refine abs2 (G := fun wr => ∃ q : Nat, q ≤ keys.length ∧ q ≤ keys2.length ∧ Value.int .i64 0 = .int .i64 q ∧ Ext w wr ∧ wr.cell? ⟨w.heap.size, 4, none⟩ = some (.slice ko keys.length kc) ∧ wr.cell? ⟨w.heap.size, 5, none⟩ = some (.slice o l.length c) ∧ wr.cell? ⟨w.heap.size + 1, 4, none⟩ = some (.slice ko2 keys2.length kc2) ∧ wr.cell? ⟨w.heap.size + 1, 5, none⟩ = some (.slice o2 l2.length c2) ∧ Hid (V.cmpPM keys l keys2 l2 = V.cmpPM (keys.drop q) (l.drop q) (keys2.drop q) (l2.drop q))) ?_
    intro w1 hE1 hb1 hb2 hs1
    exact ⟨0, Nat.zero_le _, Nat.zero_le _, rfl, hE1, cells_of hb1 4, cells_of hb1 5, cells_of hb2 4, cells_of hb2 5, Lib.hid (by simp)⟩
  case round =>
    obtain ⟨q, hk, hkb, rfl, hE, a4, a5, b4, b5, hall⟩ := hrel
    by_cases h1 : q < keys.length
    · by_cases h2 : q < keys2.length
      · have hl1 : q < l.length := by have := t1'.out; omega
        have hl2 : q < l2.length := by have := t3'.out; omega
        have hat := Lib.hid (cmpPM_at hall.out h1 h2 hl1 hl2)
        obtain ⟨rfl, -⟩ := h4'.out (by omega)
        obtain ⟨rfl, -⟩ := m4'.out (by omega)
        obtain ⟨rfl, -⟩ := k4'.out (by omega)
        obtain ⟨rfl, -⟩ := n4'.out (by omega)
        obtain ⟨x, c0, c1, c2, c3, c4, c5, hx⟩ := h5'.out q hl1
        obtain ⟨y, d0, d1, d2, d3, d4, d5, hy⟩ := m5'.out q hl2
        have q0 := hE.keep (k5'.out q h1).1
        have q1 := hE.keep (n5'.out q h2).1
        have hk1 : keys.getD q ByteArray.empty = keys[q] := by simp [h1]
        have hk2 : keys2.getD q ByteArray.empty = keys2[q] := by simp [h2]
        rw [hk1] at q0
        rw [hk2] at q1
        replace c0 := hE.keep c0
        replace c1 := hE.keep c1
        replace c2 := hE.keep c2
        replace c3 := hE.keep c3
        replace c4 := hE.keep c4
        replace c5 := hE.keep c5
        replace d0 := hE.keep d0
        replace d1 := hE.keep d1
        replace d2 := hE.keep d2
        replace d3 := hE.keep d3
        replace d4 := hE.keep d4
        replace d5 := hE.keep d5
        have hi1 : (q : Int) < (keys.length : Int) := by omega
        have hi2 : (q : Int) < (keys2.length : Int) := by omega
        have hi3 : (q : Int) < (l.length : Int) := by omega
        have hi4 : (q : Int) < (l2.length : Int) := by omega
        have hkm : (q : Int) + 1 ≤ 9223372036854775807 := by have := k3; omega
        have hx' := Lib.hid hx
        have hy' := Lib.hid hy
        clear hx hy hk1 hk2 k2 k3 n3
        go_wp2_with fail
        refine wp_region_script [0, 1, 2, 3, 4, 5, 6, 7, 8, 9, 11] [] (fun w' => w' = wr.drew) [(.read, 0), (.read, 1), (.read, 2), (.read, 3), (.read, 4), (.read, 5), (.read, 6), (.read, 7), (.read, 8), (.read, 9), (.one, 10), (.pure, 11)] (by kernel_rfl) (by kernel_rfl) ?_
        iterate 10 (first | (apply scr_r; (· rfl); (· (first | rfl | (simp [Region.wanted, yielded, go_sem]; done) | (simp [Region.wanted, yielded, go_sem, *]; done))); (· (go_simp; try rfl)); (· (simp [go_sem]; try rfl))) | (apply scr_r0; (· rfl); (· (first | rfl | (simp [Region.wanted, yielded, go_sem]; done) | (simp [Region.wanted, yielded, go_sem, *]; done))); (· (simp [go_sem]; try rfl))))
        refine scr_one rfl rfl (fun K hK => ?_)
        go_simp
        refine specCompareStrings_c (hsm.out _ (List.getElem_mem h1)) _ ?_
        obtain ⟨v, hv⟩ : ∃ v, cmpS keys[q] keys2[q] = v := ⟨_, rfl⟩
        rw [hv]
        intro w3 hE3
        refine hK _ _ (fun h => by simp at h) ?_
        clear hK
        have hv' := Lib.hid hv
        have hE3' := (Ext.refl wr).drew.trans hE3
        clear hv hE3 q0 q1
        (apply scr_pure'; (· rfl); (· rfl); (· (intro w'; go_simp; try rfl)); (· (simp [go_sem]; try rfl)))
        refine scr_end ?_
        simp only [Exit.then]
        replace a4 := hE3'.keep a4
        replace a5 := hE3'.keep a5
        replace b4 := hE3'.keep b4
        replace b5 := hE3'.keep b5
        by_cases hv0 : v = 0
        · have hvb : (v != 0) = false := by simpa using hv0
          replace c0 := hE3'.keep c0
          replace c1 := hE3'.keep c1
          replace c2 := hE3'.keep c2
          replace c3 := hE3'.keep c3
          replace c4 := hE3'.keep c4
          replace c5 := hE3'.keep c5
          replace d0 := hE3'.keep d0
          replace d1 := hE3'.keep d1
          replace d2 := hE3'.keep d2
          replace d3 := hE3'.keep d3
          replace d4 := hE3'.keep d4
          replace d5 := hE3'.keep d5
          have hnx := hat.out
          rw [hv'.out, if_neg (by simp [hv0])] at hnx
          have hnx' := Lib.hid hnx
          clear hv0 hnx hat
          go_wp2_with fail
          refine wp_region_script [0, 1, 2, 3, 4, 5, 6, 7, 8, 9, 11] [] (fun w' => w' = w3.drew) [(.read, 0), (.read, 1), (.read, 2), (.read, 3), (.read, 4), (.read, 5), (.read, 6), (.read, 7), (.read, 8), (.read, 9), (.one, 10), (.pure, 11)] (by kernel_rfl) (by kernel_rfl) ?_
          iterate 10 (first | (apply scr_r; (· rfl); (· (first | rfl | (simp [Region.wanted, yielded, go_sem]; done) | (simp [Region.wanted, yielded, go_sem, *]; done))); (· (go_simp; try rfl)); (· (simp [go_sem]; try rfl))) | (apply scr_r0; (· rfl); (· (first | rfl | (simp [Region.wanted, yielded, go_sem]; done) | (simp [Region.wanted, yielded, go_sem, *]; done))); (· (simp [go_sem]; try rfl))))
          refine scr_one rfl rfl (fun K hK => ?_)
          go_simp
          refine ih'.out q hl1 _ X Y x.list y.list l2[q] (hx'.out.mv ((hE.trans hE3').drew.mv _)) (hy'.out.mv ((hE.trans hE3').drew.mv _)) (tidyL_iff.1 t2'.out _ (List.getElem_mem hl1)) (tidyL_iff.1 t4'.out _ (List.getElem_mem hl2)) _ ?_
          obtain ⟨u, hu⟩ : ∃ u, V.cmpP l[q] l2[q] = u := ⟨_, rfl⟩
          rw [hu]
          intro w4 hE4
          refine hK _ _ (fun h => by simp at h) ?_
          clear hK c0 c1 c2 c3 c4 c5 d0 d1 d2 d3 d4 d5
          have hu' := Lib.hid hu
          have hE4' := (Ext.refl w3).drew.trans hE4
          clear hu hE4
          (apply scr_pure'; (· rfl); (· rfl); (· (intro w'; go_simp; try rfl)); (· (simp [go_sem]; try rfl)))
          refine scr_end ?_
          simp only [Exit.then]
          by_cases hu0 : u = 0
          · have hub : (u != 0) = false := by simpa using hu0
            have hny := hnx'.out
            rw [hu'.out, if_neg (by simp [hu0])] at hny
            have hny' := Lib.hid hny
            clear hu0 hny
            go_wp2_with fail
            go_roundw
            case rel => exact ⟨q + 1, by omega, by omega, by go_num, (hE.trans hE3').trans hE4', hE4'.keep a4, hE4'.keep a5, hE4'.keep b4, hE4'.keep b5, hny'⟩
            case measure => simp [intOf]; omega
          · have hub : (u != 0) = true := by simpa using hu0
            have hny := hnx'.out
            rw [hu'.out, if_pos hu0] at hny
            have hny' := Lib.hid hny
            clear hu0 hny
            go_wp2_with fail
            exact hR'.out.int hny'.out _ ((hE.trans hE3').trans hE4')
        · have hvb : (v != 0) = true := by simpa using hv0
          have hnx := hat.out
          rw [hv'.out, if_pos hv0] at hnx
          have hnx' := Lib.hid hnx
          clear hv0 hnx c0 c1 c2 c3 c4 c5 d0 d1 d2 d3 d4 d5
          go_wp2_with fail
          exact hR'.out.int hnx'.out _ (hE.trans hE3')
      · have hend := Lib.hid (cmpPM_end hall.out hk hkb (by omega))
        have hi1 : (q : Int) < (keys.length : Int) := by omega
        have hi2 : ¬ (q : Int) < (keys2.length : Int) := by omega
        go_wp2_with fail
        refine specCompareInts_c _ ?_
        intro w3 hE3
        dsimp only
        go_wp2_with fail
        exact hR'.out.int hend.out _ (hE.trans hE3)
    · have hend := Lib.hid (cmpPM_end hall.out hk hkb (by omega))
      have hi1 : ¬ (q : Int) < (keys.length : Int) := by omega
      go_wp2_with fail
      refine specCompareInts_c _ ?_
      intro w3 hE3
      dsimp only
      go_wp2_with fail
      exact hR'.out.int hend.out _ (hE.trans hE3)
end Go.Proofs.Ytamcgcncghabhaa
