/- For all maps, two maps that differ in the value of one field compare as these two values do, and are equal just if the two values are; no condition beside the law's own. -/
import Derived.Test.YtamcgcncghabhaaMaps
import Derived.Test.YtamcgcncghabhaaTameS
import Derived.Test.YtamcgcncghabhaaLaw
import Derived.Test.YtamcgcncghabhaaPar
namespace Go.Proofs.Ytamcgcncghabhaa
open Go.RowKit Go.Deep Go.ChangeShapes Go.WideShapes Go.ChangeAt
set_option linter.unusedSimpArgs false

theorem cmpE_refl {α : Type} {r : α → α → Int} (hr : ∀ z, r z z = 0) : ∀ es : EntsOfT α, cmpE r es es = 0
  | [] => rfl
  | e :: es => by simp only [cmpE]; rw [cmpS_self, hr, cmpE_refl hr es]; simp
theorem cmpE_ins {α : Type} {r : α → α → Int} (hr : ∀ z, r z z = 0) (key : ByteArray) (x y : α) : ∀ es : EntsOfT α, cmpE r (insK key x es) (insK key y es) = r x y
  | [] => by
    simp only [insK, cmpE]; rw [cmpS_self]
    by_cases h : r x y = 0 <;> simp [h]
  | e :: es => by
    simp only [insK]
    split
    · simp only [cmpE]; rw [cmpS_self, hr, cmpE_ins hr key x y es]; simp
    split
    · simp only [cmpE]; rw [cmpS_self, cmpE_refl hr]
      by_cases h : r x y = 0 <;> simp [h]
    · simp only [cmpE]; rw [cmpS_self, cmpS_self, hr, cmpE_refl hr]
      by_cases h : r x y = 0 <;> simp [h]
theorem cmpP_self (u : V) : V.cmpP u u = 0 := by have := cmpP_neg u u; omega
theorem clean_six {v : V} {n : Int} {f : Nat} {s : ByteArray} {ks : List ByteArray} {l : List V} (h : v.clean = .mk 6 n f s ks l) : ∃ (kind n' : Int) (f' : Nat) (s' : ByteArray) (keys' : List ByteArray) (l' : List V) (es : EntsOfT V), v = .mk kind n' f' s' keys' l' ∧ ks = es.map (·.1) ∧ l = es.map (·.2) ∧ Rising (es.map (·.1)) ∧ es.length ≤ l'.length := by
  obtain ⟨kind, n', f', s', keys', l'⟩ := v
  refine ⟨kind, n', f', s', keys', l', insAll [] (keys'.zip (V.cleanL l')), rfl, ?_, ?_, insAll_rising _ trivial, ?_⟩
  · by_cases k6 : kind = 6
    · subst k6; rw [clean_6] at h; simp only [V.mk.injEq] at h; exact h.2.2.2.2.1.symm
    · exfalso; simp only [V.clean] at h; (repeat' split at h) <;> simp_all
  · by_cases k6 : kind = 6
    · subst k6; rw [clean_6] at h; simp only [V.mk.injEq] at h; exact h.2.2.2.2.2.symm
    · exfalso; simp only [V.clean] at h; (repeat' split at h) <;> simp_all
  · have := insAll_length (keys'.zip (V.cleanL l')) []
    simp only [List.length_nil, List.length_zip, cleanL_length] at this
    omega

/-- the map es with x under key -/
def withF (es : EntsOfT V) (key : ByteArray) (x : V) : V := .mk 6 0 0 ⟨#[]⟩ ((insK key x es).map (·.1)) ((insK key x es).map (·.2))
theorem withF_clean (es : EntsOfT V) (key : ByteArray) (x : V) (h : Rising (es.map (·.1))) : (withF es key x).clean = withF (es.map fun p => (p.1, p.2.clean)) key x.clean := by
  rw [withF, clean_6, V.cleanL_eq, ← zip_map_right, zip_fst_snd, ← insAll_map, insAll_self (insK_rising h), insK_map]
  rfl
theorem withF_maps (es : EntsOfT V) (key : ByteArray) (x y : V) (h : Rising (es.map (·.1))) :
    cmpE rV (insAll [] (((insK key x.clean es).map (·.1)).zip ((insK key x.clean es).map (·.2)))) (insAll [] (((insK key y.clean es).map (·.1)).zip ((insK key y.clean es).map (·.2)))) = V.cmpP x.clean y.clean := by
  rw [zip_fst_snd, zip_fst_snd, insAll_self (insK_rising h), insAll_self (insK_rising h), cmpE_ins (r := rV) (fun z => cmpP_self _), rV, clean_clean, clean_clean]
theorem withF_cmp (es : EntsOfT V) (key : ByteArray) (x y : V) (h : Rising (es.map (·.1))) : V.cmpP (withF es key x.clean).clean (withF es key y.clean).clean = V.cmpP x.clean y.clean := by
  rw [withF_clean _ _ _ h, withF_clean _ _ _ h, withF, withF, cmpP_same' (by decide), if_neg (by decide), if_neg (by decide), if_neg (by decide), if_neg (by decide), if_pos (by decide), cmpPM_eq, cmpE_ins cmpP_self, clean_clean, clean_clean]
theorem withF_orderly {es : EntsOfT V} {key : ByteArray} {x : V} (he : ∀ p ∈ es, p.2.orderly = true) (hx : x.orderly = true) : (withF es key x.clean).orderly = true := by
  have : V.orderlyL ((insK key x.clean es).map (·.2)) = true := (orderlyL_iff _).2 fun i hi => by
    obtain ⟨p, hp, e⟩ := List.mem_map.1 (List.getElem_mem hi)
    rw [← e]
    rcases insK_mem hp with rfl | hp
    · exact orderly_clean x hx
    · exact he p hp
  simpa [withF, V.orderly] using this
theorem withF_eq {es : EntsOfT V} {key : ByteArray} {x y : V} (h : Rising (es.map (·.1))) (he : ∀ p ∈ es, p.2.orderly = true) (hx : x.orderly = true) (hy : y.orderly = true) : V.eqP (withF es key x.clean).clean (withF es key y.clean).clean = V.eqP x.clean y.clean := by
  rw [Bool.eq_iff_iff, cmpP_eq (clean_cl _) (clean_cl _) (orderly_clean _ (withF_orderly he hx)) (orderly_clean _ (withF_orderly he hy)), cmpP_eq (clean_cl _) (clean_cl _) (orderly_clean _ hx) (orderly_clean _ hy), withF_cmp _ _ _ _ h]

set_option maxRecDepth 100000 in
set_option maxHeartbeats 1000000 in
theorem zzFits5_len {w : World} {X : List Nat} {cs : List Value} {kind n : Int} {f : Nat} {s : ByteArray} {keys : List ByteArray} {l : List V} (hv : IsV w X cs (.mk kind n f s keys l)) (R : Ending → World → Prop) (hR : ∀ b, (b = true → (l.length : Int) ≤ 2147483647) → Ends R w (.bool b)) :
    Calls Try.prog 11 #[.agg cs.toArray] w R := by
  obtain ⟨ko, kc, o, c, rfl, -, hks, -⟩ := hv.inv
  clear hv
  have hR' := Lib.hid hR
  have hks' := Lib.hid hks
  clear hR hks
  by_cases hl : (2147483647 : Int) < (l.length : Int)
  all_goals
    have hl' := Lib.hid hl
    go_enter Try.func11, Try.ntmps11
    go_wp2_with fail
    · exact hR'.out _ (fun h => by cases h) _ (.alloc _ _)
    · refine zzFits2_any (hks'.out.mv ((Ext.alloc _ _).mv X)) _ ?_
      intro b w1 hE1
      dsimp only
      obtain ⟨hc1, hf1, hz1⟩ := hE1.cells
      cases b
      · go_wp2_with fail
        exact hR'.out _ (fun h => by cases h) _ ((Ext.alloc _ _).trans hE1)
      · go_wp2_with fail
        exact hR'.out _ (fun h => by first | (cases h; done) | (have := hl'.out; omega)) _ ((Ext.alloc _ _).trans hE1)

def V.kind : V → Int
  | .mk k _ _ _ _ _ => k
set_option maxRecDepth 100000 in
set_option maxHeartbeats 8000000 in
set_option pp.maxSteps 1000000 in
set_option pp.deepTerms true in
theorem fnOneFieldDecides_law {w : World} {cs ds es : List Value} {v x y : V} {key : ByteArray} (hv : IsV w [] cs v) (hx : IsV w [] ds x) (hy : IsV w [] es y) :
    Calls Try.prog 8 #[.agg cs.toArray, .string key, .agg ds.toArray, .agg es.toArray] w fun e w' => e = .returned (.bool true) ∧ Below w.heap.size w w' := by
  suffices h : ∀ R : Ending → World → Prop, Ends R w (.bool true) → Calls Try.prog 8 #[.agg cs.toArray, .string key, .agg ds.toArray, .agg es.toArray] w R from h _ (fun w' hE => ⟨rfl, hE⟩)
  intro R hR
  obtain ⟨p, rfl⟩ := hv.shape
  obtain ⟨q, rfl⟩ := hx.shape
  obtain ⟨r, rfl⟩ := hy.shape
  have hv' := Lib.hid hv
  have hx' := Lib.hid hx
  have hy' := Lib.hid hy
  have hR' := Lib.hid hR
  obtain ⟨kind, n, f, s, keys, l⟩ := v
  clear hR hv hx hy
  simp only [Cells6.list]
  by_cases hkey : (2147483647 : Int) < (key.size : Int)
  · go_enter Try.func8, Try.ntmps8
    go_wp2_with fail
    refine abs3 (G := fun wr => Calls _ _ _ wr _) ?_
    intro w1 hE1 hb1 hb2 hb3 hs1
    clear hb1 hb2 hb3 hs1
    refine zzFits5_any (hv'.out.mv (hE1.mv [])) _ ?_
    intro t1 w2 hE2
    dsimp only
    cases t1
    · go_wp2_with fail
      exact hR'.out _ (hE1.trans hE2)
    · go_wp2_with fail
      exact hR'.out _ (hE1.trans hE2)
  go_enter Try.func8, Try.ntmps8
  go_wp2_with fail
  refine abs3 (G := fun wr => Calls _ _ _ wr _) ?_
  intro w1 hE1 hb1 hb2 hb3 hs1
  have c0 : w1.cell? ⟨w.heap.size, 0, none⟩ = some (.int .i64 p.kind) := cells_of hb1 0; have c1 : w1.cell? ⟨w.heap.size, 1, none⟩ = some (.int .i64 p.n) := cells_of hb1 1; have c2 : w1.cell? ⟨w.heap.size, 2, none⟩ = some (.float .f64 p.f) := cells_of hb1 2; have c3 : w1.cell? ⟨w.heap.size, 3, none⟩ = some (.string p.s) := cells_of hb1 3; have c4 : w1.cell? ⟨w.heap.size, 4, none⟩ = some (.slice p.ko p.kn p.kc) := cells_of hb1 4; have c5 : w1.cell? ⟨w.heap.size, 5, none⟩ = some (.slice p.o p.m p.c) := cells_of hb1 5
  have d0 : w1.cell? ⟨w.heap.size + 1, 0, none⟩ = some (.int .i64 q.kind) := cells_of hb2 0; have d1 : w1.cell? ⟨w.heap.size + 1, 1, none⟩ = some (.int .i64 q.n) := cells_of hb2 1; have d2 : w1.cell? ⟨w.heap.size + 1, 2, none⟩ = some (.float .f64 q.f) := cells_of hb2 2; have d3 : w1.cell? ⟨w.heap.size + 1, 3, none⟩ = some (.string q.s) := cells_of hb2 3; have d4 : w1.cell? ⟨w.heap.size + 1, 4, none⟩ = some (.slice q.ko q.kn q.kc) := cells_of hb2 4; have d5 : w1.cell? ⟨w.heap.size + 1, 5, none⟩ = some (.slice q.o q.m q.c) := cells_of hb2 5
  have e0 : w1.cell? ⟨w.heap.size + 2, 0, none⟩ = some (.int .i64 r.kind) := cells_of hb3 0; have e1 : w1.cell? ⟨w.heap.size + 2, 1, none⟩ = some (.int .i64 r.n) := cells_of hb3 1; have e2 : w1.cell? ⟨w.heap.size + 2, 2, none⟩ = some (.float .f64 r.f) := cells_of hb3 2; have e3 : w1.cell? ⟨w.heap.size + 2, 3, none⟩ = some (.string r.s) := cells_of hb3 3; have e4 : w1.cell? ⟨w.heap.size + 2, 4, none⟩ = some (.slice r.ko r.kn r.kc) := cells_of hb3 4; have e5 : w1.cell? ⟨w.heap.size + 2, 5, none⟩ = some (.slice r.o r.m r.c) := cells_of hb3 5
  have hlo1 := Lib.hid (show w.heap.size + 3 ≤ w1.heap.size by omega)
  clear hb1 hb2 hb3 hs1
  refine zzFits5_len (hv'.out.mv (hE1.mv [])) _ ?_
  intro t1 ht1 w2 hE2
  have ht1' := Lib.hid ht1
  replace c0 := hE2.keep c0; replace c1 := hE2.keep c1; replace c2 := hE2.keep c2; replace c3 := hE2.keep c3; replace c4 := hE2.keep c4; replace c5 := hE2.keep c5; replace d0 := hE2.keep d0; replace d1 := hE2.keep d1; replace d2 := hE2.keep d2; replace d3 := hE2.keep d3; replace d4 := hE2.keep d4; replace d5 := hE2.keep d5; replace e0 := hE2.keep e0; replace e1 := hE2.keep e1; replace e2 := hE2.keep e2; replace e3 := hE2.keep e3; replace e4 := hE2.keep e4; replace e5 := hE2.keep e5
  have hlo2 := Lib.hid (Nat.le_trans hlo1.out hE2.size)
  replace hE1 := hE1.trans hE2
  clear hE2 ht1 hlo1
  dsimp only
  cases t1
  · go_wp2_with fail
    exact hR'.out _ hE1
  go_wp2_with fail
  refine zzFits5_any (hx'.out.mv (hE1.mv [])) _ ?_
  intro t2 w3 hE3
  replace c0 := hE3.keep c0; replace c1 := hE3.keep c1; replace c2 := hE3.keep c2; replace c3 := hE3.keep c3; replace c4 := hE3.keep c4; replace c5 := hE3.keep c5; replace d0 := hE3.keep d0; replace d1 := hE3.keep d1; replace d2 := hE3.keep d2; replace d3 := hE3.keep d3; replace d4 := hE3.keep d4; replace d5 := hE3.keep d5; replace e0 := hE3.keep e0; replace e1 := hE3.keep e1; replace e2 := hE3.keep e2; replace e3 := hE3.keep e3; replace e4 := hE3.keep e4; replace e5 := hE3.keep e5
  have hlo3 := Lib.hid (Nat.le_trans hlo2.out hE3.size)
  replace hE1 := hE1.trans hE3
  clear hE3
  dsimp only
  cases t2
  · go_wp2_with fail
    exact hR'.out _ hE1
  go_wp2_with fail
  refine zzFits5_any (hy'.out.mv (hE1.mv [])) _ ?_
  intro t3 w4 hE4
  replace c0 := hE4.keep c0; replace c1 := hE4.keep c1; replace c2 := hE4.keep c2; replace c3 := hE4.keep c3; replace c4 := hE4.keep c4; replace c5 := hE4.keep c5; replace d0 := hE4.keep d0; replace d1 := hE4.keep d1; replace d2 := hE4.keep d2; replace d3 := hE4.keep d3; replace d4 := hE4.keep d4; replace d5 := hE4.keep d5; replace e0 := hE4.keep e0; replace e1 := hE4.keep e1; replace e2 := hE4.keep e2; replace e3 := hE4.keep e3; replace e4 := hE4.keep e4; replace e5 := hE4.keep e5
  have hlo1' := Lib.hid (Nat.le_trans hlo3.out hE4.size)
  replace hE1 := hE1.trans hE4
  clear hE4
  dsimp only
  cases t3
  · go_wp2_with fail
    exact hR'.out _ hE1
  go_wp2_with fail
  refine clean_all _ _ [] p.list (hv'.out.mv (hE1.mv _)) (Old.nil _) _ ?_
  intro w5 cs5 hE5 h5
  obtain ⟨m, rfl⟩ := h5.shape
  have onem : m.list.toArray.all (·.oneCell') = true := by simp [Cells6.list, Value.oneCell']
  have h5' := Lib.hid h5
  have hlo' := Lib.hid (show w.heap.size + 3 ≤ w5.heap.size from Nat.le_trans hlo1'.out hE5.size)
  replace c0 := hE5.keep c0; replace c1 := hE5.keep c1; replace c2 := hE5.keep c2; replace c3 := hE5.keep c3; replace c4 := hE5.keep c4; replace c5 := hE5.keep c5; replace d0 := hE5.keep d0; replace d1 := hE5.keep d1; replace d2 := hE5.keep d2; replace d3 := hE5.keep d3; replace d4 := hE5.keep d4; replace d5 := hE5.keep d5; replace e0 := hE5.keep e0; replace e1 := hE5.keep e1; replace e2 := hE5.keep e2; replace e3 := hE5.keep e3; replace e4 := hE5.keep e4; replace e5 := hE5.keep e5
  replace hE1 := hE1.trans hE5
  clear hE5 h5 c0 c1 c2 c3 c4 c5
  simp only [Cells6.list] at onem
  dsimp only
  simp only [Cells6.list]
  go_upto_region 4 with fail
  refine abs1 (G := fun wr => Code.wp _ _ _ _ wr) ?_
  intro w6 hE6 hb6 hs6
  replace d0 := hE6.keep d0; replace d1 := hE6.keep d1; replace d2 := hE6.keep d2; replace d3 := hE6.keep d3; replace d4 := hE6.keep d4; replace d5 := hE6.keep d5; replace e0 := hE6.keep e0; replace e1 := hE6.keep e1; replace e2 := hE6.keep e2; replace e3 := hE6.keep e3; replace e4 := hE6.keep e4; replace e5 := hE6.keep e5
  replace hE1 := hE1.trans hE6
  have g0 : w6.cell? ⟨w5.heap.size, 0, none⟩ = some (.int .i64 m.kind) := cells_of hb6 0; have g1 : w6.cell? ⟨w5.heap.size, 1, none⟩ = some (.int .i64 m.n) := cells_of hb6 1; have g2 : w6.cell? ⟨w5.heap.size, 2, none⟩ = some (.float .f64 m.f) := cells_of hb6 2; have g3 : w6.cell? ⟨w5.heap.size, 3, none⟩ = some (.string m.s) := cells_of hb6 3; have g4 : w6.cell? ⟨w5.heap.size, 4, none⟩ = some (.slice m.ko m.kn m.kc) := cells_of hb6 4; have g5 : w6.cell? ⟨w5.heap.size, 5, none⟩ = some (.slice m.o m.m m.c) := cells_of hb6 5
  have h6 := h5'.out.mv (hE6.mv _)
  have hlt6 : w5.heap.size < w6.heap.size := by omega
  have hlo6 : w.heap.size + 3 ≤ w5.heap.size := hlo'.out
  obtain ⟨bm, hbm⟩ : ∃ b, w5.heap.size = b := ⟨_, rfl⟩
  rw [hbm] at g0 g1 g2 g3 g4 g5 hlt6 hlo6 ⊢
  obtain ⟨mv, hmv⟩ : ∃ mv, (V.mk kind n f s keys l).clean = mv := ⟨_, rfl⟩
  rw [hmv] at h6
  have hmv' := Lib.hid hmv
  have hlt6' := Lib.hid hlt6
  have hlo6' := Lib.hid hlo6
  clear hmv hbm hb6 hs6 onem h5' hE6 hlt6 hlo6 hlo'
  have hmk : m.kind = mv.kind := by
    obtain ⟨k6, n6, f6, s6, ks6, l6⟩ := mv
    obtain ⟨_, _, _, _, hcs, -⟩ := h6.inv
    simp only [Cells6.list, List.cons.injEq, Value.int.injEq, true_and] at hcs
    exact hcs.1
  have hmk' := Lib.hid hmk
  have h6' := Lib.hid h6
  clear hmk h6
  by_cases hk6 : m.kind = 6
  rotate_left
  · have hk6b : (m.kind != 6) = true := by simpa using hk6
    clear hk6
    go_wp2_with fail
    exact hR'.out _ hE1
  have hk6b : (m.kind != 6) = false := by simpa using hk6
  have hk6' := Lib.hid hk6
  clear hk6
  go_wp2_with fail
  refine orderly_c mv (cs := m.list) h6'.out _ ?_
  obtain ⟨t4, ht4⟩ : ∃ t, mv.orderly = t := ⟨_, rfl⟩
  rw [ht4]
  have ht4' := Lib.hid ht4
  clear ht4
  intro w7 hE7
  replace d0 := hE7.keep d0; replace d1 := hE7.keep d1; replace d2 := hE7.keep d2; replace d3 := hE7.keep d3; replace d4 := hE7.keep d4; replace d5 := hE7.keep d5; replace e0 := hE7.keep e0; replace e1 := hE7.keep e1; replace e2 := hE7.keep e2; replace e3 := hE7.keep e3; replace e4 := hE7.keep e4; replace e5 := hE7.keep e5; replace g0 := hE7.keep g0; replace g1 := hE7.keep g1; replace g2 := hE7.keep g2; replace g3 := hE7.keep g3; replace g4 := hE7.keep g4; replace g5 := hE7.keep g5
  have h7' := Lib.hid (h6'.out.mv (hE7.mv _))
  have hlt7' := Lib.hid (Nat.lt_of_lt_of_le hlt6'.out hE7.size)
  replace hE1 := hE1.trans hE7
  clear hE7 h6' hlt6'
  dsimp only
  cases t4
  · go_wp2_with fail
    exact hR'.out _ hE1
  go_wp2_with fail
  refine orderly_c x (hx'.out.mv (hE1.mv [])) _ ?_
  obtain ⟨t5, ht5⟩ : ∃ t, x.orderly = t := ⟨_, rfl⟩
  rw [ht5]
  have ht5' := Lib.hid ht5
  clear ht5
  intro w8 hE8
  replace d0 := hE8.keep d0; replace d1 := hE8.keep d1; replace d2 := hE8.keep d2; replace d3 := hE8.keep d3; replace d4 := hE8.keep d4; replace d5 := hE8.keep d5; replace e0 := hE8.keep e0; replace e1 := hE8.keep e1; replace e2 := hE8.keep e2; replace e3 := hE8.keep e3; replace e4 := hE8.keep e4; replace e5 := hE8.keep e5; replace g0 := hE8.keep g0; replace g1 := hE8.keep g1; replace g2 := hE8.keep g2; replace g3 := hE8.keep g3; replace g4 := hE8.keep g4; replace g5 := hE8.keep g5
  have h8' := Lib.hid (h7'.out.mv (hE8.mv _))
  have hlt8' := Lib.hid (Nat.lt_of_lt_of_le hlt7'.out hE8.size)
  replace hE1 := hE1.trans hE8
  clear hE8 h7' hlt7'
  dsimp only
  cases t5
  · go_wp2_with fail
    exact hR'.out _ hE1
  go_wp2_with fail
  refine orderly_c y (hy'.out.mv (hE1.mv [])) _ ?_
  obtain ⟨t6, ht6⟩ : ∃ t, y.orderly = t := ⟨_, rfl⟩
  rw [ht6]
  have ht6' := Lib.hid ht6
  clear ht6
  intro w9 hE9
  replace d0 := hE9.keep d0; replace d1 := hE9.keep d1; replace d2 := hE9.keep d2; replace d3 := hE9.keep d3; replace d4 := hE9.keep d4; replace d5 := hE9.keep d5; replace e0 := hE9.keep e0; replace e1 := hE9.keep e1; replace e2 := hE9.keep e2; replace e3 := hE9.keep e3; replace e4 := hE9.keep e4; replace e5 := hE9.keep e5; replace g0 := hE9.keep g0; replace g1 := hE9.keep g1; replace g2 := hE9.keep g2; replace g3 := hE9.keep g3; replace g4 := hE9.keep g4; replace g5 := hE9.keep g5
  have h9' := Lib.hid (h8'.out.mv (hE9.mv _))
  have hlt9' := Lib.hid (Nat.lt_of_lt_of_le hlt8'.out hE9.size)
  replace hE1 := hE1.trans hE9
  clear hE9 h8' hlt8'
  dsimp only
  cases t6
  · go_wp2_with fail
    exact hR'.out _ hE1
  obtain ⟨k6, n6, f6, s6, ks6, l6⟩ := mv
  obtain rfl : k6 = 6 := hmk'.out.symm.trans hk6'.out
  obtain ⟨kind', n', f', s', keys', l', ents, e00, rfl, rfl, hri, hle⟩ := clean_six hmv'.out
  have hlen : (ents.length + 1) * 88 ≤ 140737488351232 := by
    simp only [V.mk.injEq] at e00
    have h1 := ht1'.out trivial
    rw [e00.2.2.2.2.2] at h1
    omega
  have hoe : ∀ p ∈ ents, p.2.orderly = true := fun p hp => by
    have ho : V.orderlyL (ents.map (·.2)) = true := by simpa [V.orderly] using ht4'.out
    obtain ⟨i, hi, rfl⟩ := List.getElem_of_mem hp
    have := (orderlyL_iff _).1 ho i (by simpa using hi)
    simpa using this
  have hkb : key.size ≤ 140737488351232 := by omega
  have hmaps := Lib.hid (withF_maps ents key x y hri)
  have heq := Lib.hid (withF_eq (key := key) hri hoe ht5'.out ht6'.out)
  have hri' := Lib.hid hri
  have hlen' := Lib.hid hlen
  clear e00 hle hri hlen hoe hmk' hk6' hmv' ht4' ht5' ht6' ht1' hlo2 hlo3 hlo1' hk6b hlo6'
  go_wp2_with fail
  have hC : Ext w9 w9.drew := (Ext.refl _).drew
  refine wp_region_par [0, 1, 2, 5, 6, 7] [3, 4, 8, 9, 10, 11, 12] (fun w' => Ext w9 w') [(.read, 0), (.pure, 1), (.read, 2), (.read, 5), (.pure, 6), (.read, 7)] [3, 4, 8, 9, 10, 11, 12] [(.one, 13)] (by kernel_rfl) (by kernel_rfl) ?_
  (apply scr_read'; (· rfl); (· rfl); (· first | exact hC | exact (Ext.refl _).drew); (· (intro w' hw'; have g0_ := hw'.keep g0; have g1_ := hw'.keep g1; have g2_ := hw'.keep g2; have g3_ := hw'.keep g3; have g4_ := hw'.keep g4; have g5_ := hw'.keep g5; go_simp; try rfl)); (· (simp [go_sem]; try rfl)))
  (apply scr_pure'; (· rfl); (· rfl); (· (intro w'; go_simp; try rfl)); (· (simp [go_sem]; try rfl)))
  (apply scr_read'; (· rfl); (· rfl); (· first | exact hC | exact (Ext.refl _).drew); (· (intro w' hw'; have d0_ := hw'.keep d0; have d1_ := hw'.keep d1; have d2_ := hw'.keep d2; have d3_ := hw'.keep d3; have d4_ := hw'.keep d4; have d5_ := hw'.keep d5; go_simp; try rfl)); (· (simp [go_sem]; try rfl)))
  (apply scr_read'; (· rfl); (· rfl); (· first | exact hC | exact (Ext.refl _).drew); (· (intro w' hw'; have g0_ := hw'.keep g0; have g1_ := hw'.keep g1; have g2_ := hw'.keep g2; have g3_ := hw'.keep g3; have g4_ := hw'.keep g4; have g5_ := hw'.keep g5; go_simp; try rfl)); (· (simp [go_sem]; try rfl)))
  (apply scr_pure'; (· rfl); (· rfl); (· (intro w'; go_simp; try rfl)); (· (simp [go_sem]; try rfl)))
  (apply scr_read'; (· rfl); (· rfl); (· first | exact hC | exact (Ext.refl _).drew); (· (intro w' hw'; have e0_ := hw'.keep e0; have e1_ := hw'.keep e1; have e2_ := hw'.keep e2; have e3_ := hw'.keep e3; have e4_ := hw'.keep e4; have e5_ := hw'.keep e5; go_simp; try rfl)); (· (simp [go_sem]; try rfl)))
  refine ⟨fun
    | 3 => .data (fun v w X => ∃ z : Cells6, v = .agg z.list.toArray ∧ IsV w X z.list x.clean)
    | 4 => .data (fun v w X => ∃ z : Cells6, v = .agg z.list.toArray ∧ IsV w X z.list (withF ents key x.clean))
    | 8 => .data (fun v w X => ∃ z : Cells6, v = .agg z.list.toArray ∧ IsV w X z.list y.clean)
    | 9 => .data (fun v w X => ∃ z : Cells6, v = .agg z.list.toArray ∧ IsV w X z.list (withF ents key y.clean))
    | 10 => .fresh 26 #[.int .i64 0, .int .i64 0, .float .f64 0, .string ⟨#[]⟩, .slice none 0 0, .slice none 0 0]
    | 11 => .fresh 26 #[.int .i64 0, .int .i64 0, .float .f64 0, .string ⟨#[]⟩, .slice none 0 0, .slice none 0 0]
    | 12 => .store 10 26 (fun c w X => ∃ z : Cells6, c = #[.int .i64 z.kind, .int .i64 z.n, .float .f64 z.f, .string z.s, .slice z.ko z.kn z.kc, .slice z.o z.m z.c] ∧ IsV w X z.list (withF ents key x.clean))
    | _ => .data fun _ _ _ => True, [], ?_, ?_, Old.nil _, fun w' h => hC.trans h, ?_, ?_⟩
  · intro i hi
    simp only [List.mem_cons, List.not_mem_nil, or_false] at hi
    rcases hi with rfl | rfl | rfl | rfl | rfl | rfl | rfl
    · exact fun v w X w' Y hm ⟨z, e, h⟩ => ⟨z, e, h.mv hm⟩
    · exact fun v w X w' Y hm ⟨z, e, h⟩ => ⟨z, e, h.mv hm⟩
    · exact fun v w X w' Y hm ⟨z, e, h⟩ => ⟨z, e, h.mv hm⟩
    · exact fun v w X w' Y hm ⟨z, e, h⟩ => ⟨z, e, h.mv hm⟩
    · trivial
    · trivial
    · exact fun v w X w' Y hm ⟨z, e, h⟩ => ⟨z, e, h.mv hm⟩
  · intro i hi k T F h
    simp only [List.mem_cons, List.not_mem_nil, or_false] at hi
    rcases hi with rfl | rfl | rfl | rfl | rfl | rfl | rfl <;> cases h
    refine ⟨⟨_, rfl⟩, deps_mem (by kernel_rfl), fun j hj T' F' h => ?_⟩
    simp only [List.mem_cons, List.not_mem_nil, or_false] at hj
    rcases hj with rfl | rfl | rfl | rfl | rfl | rfl | rfl <;> first | (cases h; done) | rfl
  · intro i hi
    simp only [List.mem_cons, List.not_mem_nil, or_false] at hi
    rcases hi with rfl | rfl | rfl | rfl | rfl | rfl | rfl
    · intro vs w2 X hE hM hX _ _
      apply opv_one (dl := []); (· rfl); (· kernel_rfl); (· (simp only [putL]; try rfl)); (· (first | rfl | (simp [Region.wanted, yielded, go_sem]; done) | (simp [Region.wanted, yielded, go_sem, *]; done))); intro K hK; go_simp
      refine clean_all x _ X q.list (hx'.out.mv (((hE1.trans hC).mv []).trans hM)) hX _ ?_
      intro w3 cs3 hE3 h3
      obtain ⟨z, rfl⟩ := h3.shape
      exact hK _ _ ⟨hE3, z, rfl, h3⟩
    · intro vs w2 X hE hM hX _ hk
      obtain ⟨z, e1, hz⟩ := hk 3 (deps_mem (by kernel_rfl))
      apply opv_one (dl := [3]); (· rfl); (· kernel_rfl); (· (simp [putL, dstOf, go_sem, e1]; try rfl)); (· (first | rfl | (simp [Region.wanted, yielded, go_sem]; done) | (simp [Region.wanted, yielded, go_sem, *]; done))); intro K hK; go_simp
      refine withField_c (cs := m.list) (csv := z.list) (h9'.out.mv ((hC.mv []).trans hM)) key hkb hz hri'.out hlen'.out hX _ ?_
      intro w3 cs3 hE3 h3
      obtain ⟨z2, rfl⟩ := h3.shape
      exact hK _ _ ⟨hE3, z2, rfl, h3⟩
    · intro vs w2 X hE hM hX _ _
      apply opv_one (dl := []); (· rfl); (· kernel_rfl); (· (simp only [putL]; try rfl)); (· (first | rfl | (simp [Region.wanted, yielded, go_sem]; done) | (simp [Region.wanted, yielded, go_sem, *]; done))); intro K hK; go_simp
      refine clean_all y _ X r.list (hy'.out.mv (((hE1.trans hC).mv []).trans hM)) hX _ ?_
      intro w3 cs3 hE3 h3
      obtain ⟨z, rfl⟩ := h3.shape
      exact hK _ _ ⟨hE3, z, rfl, h3⟩
    · intro vs w2 X hE hM hX _ hk
      obtain ⟨z, e1, hz⟩ := hk 8 (deps_mem (by kernel_rfl))
      apply opv_one (dl := [8]); (· rfl); (· kernel_rfl); (· (simp [putL, dstOf, go_sem, e1]; try rfl)); (· (first | rfl | (simp [Region.wanted, yielded, go_sem]; done) | (simp [Region.wanted, yielded, go_sem, *]; done))); intro K hK; go_simp
      refine withField_c (cs := m.list) (csv := z.list) (h9'.out.mv ((hC.mv []).trans hM)) key hkb hz hri'.out hlen'.out hX _ ?_
      intro w3 cs3 hE3 h3
      obtain ⟨z2, rfl⟩ := h3.shape
      exact hK _ _ ⟨hE3, z2, rfl, h3⟩
    · intro vs w2 hE
      apply opv_one (dl := []); (· rfl); (· kernel_rfl); (· (simp only [putL]; try rfl)); (· (first | rfl | (simp [Region.wanted, yielded, go_sem]; done) | (simp [Region.wanted, yielded, go_sem, *]; done))); intro K hK; go_simp
      exact hK _ _ ⟨rfl, rfl⟩
    · intro vs w2 hE
      apply opv_one (dl := []); (· rfl); (· kernel_rfl); (· (simp only [putL]; try rfl)); (· (first | rfl | (simp [Region.wanted, yielded, go_sem]; done) | (simp [Region.wanted, yielded, go_sem, *]; done))); intro K hK; go_simp
      exact hK _ _ ⟨rfl, rfl⟩
    · intro vs w2 X b hE hM hX hx0 hbX hv hz hk
      obtain ⟨z, e2, hzz⟩ := hk 4 (deps_mem (by kernel_rfl))
      have hz' := hz _ _ rfl
      clear hk hz
      apply opv_one (dl := [4, 10]); (· rfl); (· kernel_rfl); (· (simp [putL, dstOf, go_sem, e2, hv]; try rfl)); (· (first | rfl | (simp [Region.wanted, yielded, go_sem]; done) | (simp [Region.wanted, yielded, go_sem, *]; done))); intro K hK
      simp only [Cells6.list] at *
      refine wp_storeRow (cells := #[.int .i64 z.kind, .int .i64 z.n, .float .f64 z.f, .string z.s, .slice z.ko z.kn z.kc, .slice z.o z.m z.c]) 26 _ _ rfl Try.size26 rfl rfl hz' rfl (by simp [Value.oneCell']) ?_
      intro w3 h3 g3
      exact hK _ _ ⟨_, h3, g3, z, rfl, hzz.mv ((Mv.refl _ _).grown g3 (fun j hj => by cases hj; exact hbX))⟩
  · intro vs w2 X bs hE hM hX hx0 hk hsep
    obtain ⟨z3, v3, -⟩ := hk 3 (by simp)
    obtain ⟨z4, v4, -⟩ := hk 4 (by simp)
    obtain ⟨z8, v8, -⟩ := hk 8 (by simp)
    obtain ⟨zb, v9, db⟩ := hk 9 (by simp)
    obtain ⟨v10, l10, x10, -⟩ := hk 10 (by simp)
    obtain ⟨v11, l11, x11, h11⟩ := hk 11 (by simp)
    obtain ⟨c12, hh10, za, rfl, da⟩ := hk 12 (by simp)
    have hne : bs 10 ≠ bs 11 := hsep 10 (by simp) 11 (by simp) rfl rfl (by decide)
    replace h11 := h11 (by intro s hs T' F; simp only [List.mem_cons, List.not_mem_nil, or_false] at hs; rcases hs with rfl | rfl | rfl | rfl | rfl | rfl | rfl <;> (intro h; cases h))
    apply par_end
    · simp [putL, dstOf, v3, v4, v8, v9, v10, v11, go_sem, Cells6.list]; rfl
    generalize bs 10 = b10 at *
    generalize bs 11 = b11 at *
    have da' := Lib.hid da
    have db' := Lib.hid db
    clear hk hsep da db
    refine scr_one rfl rfl (fun K hK => ?_)
    refine wp_storeRow (cells := #[.int .i64 zb.kind, .int .i64 zb.n, .float .f64 zb.f, .string zb.s, .slice zb.ko zb.kn zb.kc, .slice zb.o zb.m zb.c]) 26 _ _ rfl Try.size26 rfl rfl h11 rfl (by simp [Value.oneCell']) ?_
    intro w11 hh11 gg11
    refine hK _ _ (fun h => by simp at h) ?_
    clear hK
    replace hh10 := (gg11.block _ (Array.getElem?_eq_some_iff.1 hh10).1 (fun e => hne (Option.some.inj e))).trans hh10
    have hM11 : Mv w2 X w11 [] := ((Mv.refl w2 X).grown gg11 (fun j hj => by cases hj; exact x11)).less (by simp)
    have hE11 : Ext w9.drew w11 := hE.grown gg11 (fun j hj => by cases hj; exact l11)
    have ha := Lib.hid (da'.out.mv hM11)
    have hb := Lib.hid (db'.out.mv hM11)
    refine scr_end ?_
    simp only [Exit.then]
    have hE11' := hC.trans hE11
    replace d0 := hE11'.keep d0; replace d1 := hE11'.keep d1; replace d2 := hE11'.keep d2; replace d3 := hE11'.keep d3; replace d4 := hE11'.keep d4; replace d5 := hE11'.keep d5; replace e0 := hE11'.keep e0; replace e1 := hE11'.keep e1; replace e2 := hE11'.keep e2; replace e3 := hE11'.keep e3; replace e4 := hE11'.keep e4; replace e5 := hE11'.keep e5
    replace hE1 := hE1.trans hE11'
    have a0 : w11.cell? ⟨b10, 0, none⟩ = some (.int .i64 za.kind) := cells_of hh10 0; have a1 : w11.cell? ⟨b10, 1, none⟩ = some (.int .i64 za.n) := cells_of hh10 1; have a2 : w11.cell? ⟨b10, 2, none⟩ = some (.float .f64 za.f) := cells_of hh10 2; have a3 : w11.cell? ⟨b10, 3, none⟩ = some (.string za.s) := cells_of hh10 3; have a4 : w11.cell? ⟨b10, 4, none⟩ = some (.slice za.ko za.kn za.kc) := cells_of hh10 4; have a5 : w11.cell? ⟨b10, 5, none⟩ = some (.slice za.o za.m za.c) := cells_of hh10 5
    have b0 : w11.cell? ⟨b11, 0, none⟩ = some (.int .i64 zb.kind) := cells_of hh11 0; have b1 : w11.cell? ⟨b11, 1, none⟩ = some (.int .i64 zb.n) := cells_of hh11 1; have b2 : w11.cell? ⟨b11, 2, none⟩ = some (.float .f64 zb.f) := cells_of hh11 2; have b3 : w11.cell? ⟨b11, 3, none⟩ = some (.string zb.s) := cells_of hh11 3; have b4 : w11.cell? ⟨b11, 4, none⟩ = some (.slice zb.ko zb.kn zb.kc) := cells_of hh11 4; have b5 : w11.cell? ⟨b11, 5, none⟩ = some (.slice zb.o zb.m zb.c) := cells_of hh11 5
    clear hE11' hE11 hM11 hM hE hx0 h11 hh10 hh11 gg11 v3 v4 v8 v9 v10 v11 hC h9' da' db'
    go_wp2_with fail
    have hC : Ext w11 w11.drew := (Ext.refl _).drew
    refine wp_region_script [0, 1, 3, 4, 6, 7, 8, 9, 11, 12, 14, 15, 16] [2, 5, 10] (fun w' => Ext w11 w') [(.read, 0), (.read, 1), (.read, 3), (.read, 4), (.one, 2), (.one, 5), (.pure, 6), (.pure, 7), (.read, 8), (.read, 9), (.read, 11), (.read, 12), (.one, 10), (.one, 13), (.pure, 14), (.pure, 15), (.pure, 16)] (by kernel_rfl) (by kernel_rfl) ?_
    (apply scr_read'; (· rfl); (· rfl); (· first | exact hC | exact (Ext.refl _).drew); (· (intro w' hw'; have a0_ := hw'.keep a0; have a1_ := hw'.keep a1; have a2_ := hw'.keep a2; have a3_ := hw'.keep a3; have a4_ := hw'.keep a4; have a5_ := hw'.keep a5; go_simp; try rfl)); (· (simp [go_sem]; try rfl)))
    (apply scr_read'; (· rfl); (· rfl); (· first | exact hC | exact (Ext.refl _).drew); (· (intro w' hw'; have b0_ := hw'.keep b0; have b1_ := hw'.keep b1; have b2_ := hw'.keep b2; have b3_ := hw'.keep b3; have b4_ := hw'.keep b4; have b5_ := hw'.keep b5; go_simp; try rfl)); (· (simp [go_sem]; try rfl)))
    (apply scr_read'; (· rfl); (· rfl); (· first | exact hC | exact (Ext.refl _).drew); (· (intro w' hw'; have d0_ := hw'.keep d0; have d1_ := hw'.keep d1; have d2_ := hw'.keep d2; have d3_ := hw'.keep d3; have d4_ := hw'.keep d4; have d5_ := hw'.keep d5; go_simp; try rfl)); (· (simp [go_sem]; try rfl)))
    (apply scr_read'; (· rfl); (· rfl); (· first | exact hC | exact (Ext.refl _).drew); (· (intro w' hw'; have e0_ := hw'.keep e0; have e1_ := hw'.keep e1; have e2_ := hw'.keep e2; have e3_ := hw'.keep e3; have e4_ := hw'.keep e4; have e5_ := hw'.keep e5; go_simp; try rfl)); (· (simp [go_sem]; try rfl)))
    refine scr_one rfl rfl (fun K hK => ?_)
    go_simp
    refine implCompareMaps_c (cs := za.list) (ds := zb.list) (ha.out.mv (hC.mv _)) (hb.out.mv (hC.mv _)) _ ?_
    rw [hmaps.out]
    obtain ⟨z, hz⟩ : ∃ z, V.cmpP x.clean y.clean = z := ⟨_, rfl⟩
    rw [hz]
    intro w12 hE12
    refine hK _ _ (fun _ => hC.trans hE12) ?_
    clear hK
    replace hC := hC.trans hE12
    clear hE12
    refine scr_one rfl rfl (fun K hK => ?_)
    go_simp
    refine specCompareValues_c (cs := q.list) (ds := r.list) (hx'.out.mv ((hE1.trans hC).mv _)) (hy'.out.mv ((hE1.trans hC).mv _)) _ ?_
    rw [hz]
    clear hz
    intro w13 hE13
    refine hK _ _ (fun _ => hC.trans hE13) ?_
    clear hK
    replace hC := hC.trans hE13
    clear hE13
    (apply scr_pure'; (· rfl); (· rfl); (· (intro w'; go_simp; try rfl)); (· (simp [go_sem]; try rfl)))
    (apply scr_pure'; (· rfl); (· rfl); (· (intro w'; go_simp; try rfl)); (· (simp [go_sem]; try rfl)))
    (first | (apply scr_rG; (· rfl); (· (first | rfl | (simp [Region.wanted, yielded, go_sem]; done) | (simp [Region.wanted, yielded, go_sem, *]; done))); (· first | exact hC | exact (Ext.refl _).drew); (· (intro w' hw'; have a0_ := hw'.keep a0; have a1_ := hw'.keep a1; have a2_ := hw'.keep a2; have a3_ := hw'.keep a3; have a4_ := hw'.keep a4; have a5_ := hw'.keep a5; go_simp; try rfl)); (· (simp [go_sem]; try rfl))) | (apply scr_r0G; (· rfl); (· (first | rfl | (simp [Region.wanted, yielded, go_sem]; done) | (simp [Region.wanted, yielded, go_sem, *]; done))); (· first | exact hC | exact (Ext.refl _).drew); (· (simp [go_sem]; try rfl))))
    (first | (apply scr_rG; (· rfl); (· (first | rfl | (simp [Region.wanted, yielded, go_sem]; done) | (simp [Region.wanted, yielded, go_sem, *]; done))); (· first | exact hC | exact (Ext.refl _).drew); (· (intro w' hw'; have b0_ := hw'.keep b0; have b1_ := hw'.keep b1; have b2_ := hw'.keep b2; have b3_ := hw'.keep b3; have b4_ := hw'.keep b4; have b5_ := hw'.keep b5; go_simp; try rfl)); (· (simp [go_sem]; try rfl))) | (apply scr_r0G; (· rfl); (· (first | rfl | (simp [Region.wanted, yielded, go_sem]; done) | (simp [Region.wanted, yielded, go_sem, *]; done))); (· first | exact hC | exact (Ext.refl _).drew); (· (simp [go_sem]; try rfl))))
    (first | (apply scr_rG; (· rfl); (· (first | rfl | (simp [Region.wanted, yielded, go_sem]; done) | (simp [Region.wanted, yielded, go_sem, *]; done))); (· first | exact hC | exact (Ext.refl _).drew); (· (intro w' hw'; have d0_ := hw'.keep d0; have d1_ := hw'.keep d1; have d2_ := hw'.keep d2; have d3_ := hw'.keep d3; have d4_ := hw'.keep d4; have d5_ := hw'.keep d5; go_simp; try rfl)); (· (simp [go_sem]; try rfl))) | (apply scr_r0G; (· rfl); (· (first | rfl | (simp [Region.wanted, yielded, go_sem]; done) | (simp [Region.wanted, yielded, go_sem, *]; done))); (· first | exact hC | exact (Ext.refl _).drew); (· (simp [go_sem]; try rfl))))
    (first | (apply scr_rG; (· rfl); (· (first | rfl | (simp [Region.wanted, yielded, go_sem]; done) | (simp [Region.wanted, yielded, go_sem, *]; done))); (· first | exact hC | exact (Ext.refl _).drew); (· (intro w' hw'; have e0_ := hw'.keep e0; have e1_ := hw'.keep e1; have e2_ := hw'.keep e2; have e3_ := hw'.keep e3; have e4_ := hw'.keep e4; have e5_ := hw'.keep e5; go_simp; try rfl)); (· (simp [go_sem]; try rfl))) | (apply scr_r0G; (· rfl); (· (first | rfl | (simp [Region.wanted, yielded, go_sem]; done) | (simp [Region.wanted, yielded, go_sem, *]; done))); (· first | exact hC | exact (Ext.refl _).drew); (· (simp [go_sem]; try rfl))))
    refine scr_oneG rfl (by simp [Region.wanted, yielded, go_sem]) (fun K hK => ?_)
    go_simp
    refine implEqualValues_c (cs := za.list) (ds := zb.list) (ha.out.mv (hC.mv _)) (hb.out.mv (hC.mv _)) _ ?_
    rw [heq.out]
    obtain ⟨t, ht⟩ : ∃ t, V.eqP x.clean y.clean = t := ⟨_, rfl⟩
    rw [ht]
    intro w14 hE14
    refine hK _ _ (fun _ => hC.trans hE14) ?_
    clear hK
    replace hC := hC.trans hE14
    clear hE14
    refine scr_oneG rfl (by simp [Region.wanted, yielded, go_sem]) (fun K hK => ?_)
    go_simp
    refine equalValues_c (cs := q.list) (ds := r.list) (hx'.out.mv ((hE1.trans hC).mv _)) (hy'.out.mv ((hE1.trans hC).mv _)) _ ?_
    rw [ht]
    clear ht
    intro w15 hE15
    refine hK _ _ (fun h => by simp at h) ?_
    clear hK
    (first | (apply scr_pG; (· rfl); (· (first | rfl | (simp [Region.wanted, yielded, go_sem]; done) | (simp [Region.wanted, yielded, go_sem, *]; done))); (· (intro w'; go_simp; try rfl)); (· (simp [go_sem]; try rfl))) | (apply scr_p0; (· rfl); (· (first | rfl | (simp [Region.wanted, yielded, go_sem]; done) | (simp [Region.wanted, yielded, go_sem, *]; done))); (· (simp [go_sem]; try rfl))))
    (first | (apply scr_pG; (· rfl); (· (first | rfl | (simp [Region.wanted, yielded, go_sem]; done) | (simp [Region.wanted, yielded, go_sem, *]; done))); (· (intro w'; go_simp; try rfl)); (· (simp [go_sem]; try rfl))) | (apply scr_p0; (· rfl); (· (first | rfl | (simp [Region.wanted, yielded, go_sem]; done) | (simp [Region.wanted, yielded, go_sem, *]; done))); (· (simp [go_sem]; try rfl))))
    (first | (apply scr_pG; (· rfl); (· (first | rfl | (simp [Region.wanted, yielded, go_sem]; done) | (simp [Region.wanted, yielded, go_sem, *]; done))); (· (intro w'; go_simp; try rfl)); (· (simp [go_sem]; try rfl))) | (apply scr_p0; (· rfl); (· (first | rfl | (simp [Region.wanted, yielded, go_sem]; done) | (simp [Region.wanted, yielded, go_sem, *]; done))); (· (simp [go_sem]; try rfl))))
    refine scr_end ?_
    simp only [Exit.then]
    go_wp2_with fail
    exact hR'.out.bool (by simp) _ (hE1.trans (hC.trans hE15))

set_option maxRecDepth 100000 in
theorem fnOneFieldDecides_walk : LawWalk 8 Try.f8 := by
  intro H enc W base args ds ps hA _ hw hval
  rw [Try.params8] at hA hw hval
  obtain ⟨v0, v1, v2, v3, d0, d1, d2, d3, p0, p1, p2, p3, hargs, rfl, rfl, h0, h1, h2, h3⟩ := trodAll_four hA
  obtain ⟨args⟩ := args
  obtain rfl : args = [v0, v1, v2, v3] := by simpa using hargs
  obtain ⟨cs0, rfl, hcs0⟩ := okWide_struct Try.underlying26 (hval 0 26 v0 rfl rfl)
  obtain ⟨key, rfl⟩ := okWide_string Try.underlying9 (hval 1 9 v1 rfl rfl)
  obtain ⟨cs2, rfl, hcs2⟩ := okWide_struct Try.underlying26 (hval 2 26 v2 rfl rfl)
  obtain ⟨cs3, rfl, hcs3⟩ := okWide_struct Try.underlying26 (hval 3 26 v3 rfl rfl)
  obtain ⟨fuel0, h0⟩ := h0
  obtain ⟨fuel2, h2⟩ := h2
  obtain ⟨fuel3, h3⟩ := h3
  simp only [DataW.weightsEach, List.all_append, Bool.and_eq_true] at hw
  obtain ⟨a, ha⟩ := read_v fuel0 _ _ h0 hw.1
  obtain ⟨b, hb⟩ := read_v fuel2 _ _ h2 hw.2.2.1
  obtain ⟨c, hc⟩ := read_v fuel3 _ _ h3 hw.2.2.2.1
  exact fnOneFieldDecides_law (cs := cs0.toList) (ds := cs2.toList) (es := cs3.toList) ha hb hc

set_option maxRecDepth 100000 in
theorem fnOneFieldDecides_lifted (os : Os) (started : os.Started) (H : Type) (enc : TypeId × Value → H) :
    ReturnsInHanded {} Try.checked os 8 .any (Rows.fnOneFieldDecidesSpec.pre6 enc Try.prog Try.f8 Rows.fnOneFieldDecidesRow.domain false) (Rows.fnOneFieldDecidesSpec.post enc Try.prog Try.f8 false true false false) :=
  law_lift (s := Rows.fnOneFieldDecidesSpec) started (by kernel_rfl) Try.func8 rfl rfl
    (by rw [Try.params8]; intro t ht; simp at ht; rcases ht with rfl | rfl | rfl | rfl <;> exact ⟨by kernel_rfl, of_decide_eq_true (by kernel_rfl)⟩)
    (by rw [Try.params8]; intro ds hd; match ds, hd with | [a, b, c, d], _ => rfl)
    (ChangeSpec.witness6 (enc := enc) (C := Try.checked) false ⟨#[], #[.agg #[.int .i64 0, .int .i64 0, .float .f64 0, .string ⟨#[]⟩, .slice none 0 0, .slice none 0 0], .string ⟨#[]⟩, .agg #[.int .i64 0, .int .i64 0, .float .f64 0, .string ⟨#[]⟩, .slice none 0 0, .slice none 0 0], .agg #[.int .i64 0, .int .i64 0, .float .f64 0, .string ⟨#[]⟩, .slice none 0 0, .slice none 0 0]], []⟩ 8 (by kernel_rfl) (by kernel_rfl) (by kernel_rfl) (by kernel_rfl))
    fnOneFieldDecides_walk

theorem FnOneFieldDecides_holds : Rows.FnOneFieldDecidesSaid :=
  OpenClaim.holds_of_wide 8 Try.f8 rfl rfl rfl rfl rfl rfl rfl ⟨rfl, rfl, rfl, rfl, rfl⟩ rfl rfl rfl rfl rfl (by kernel_rfl) Try.func8 (by kernel_rfl)
    (of_decide_eq_true (by kernel_rfl)) (by unfold Func.isWrapper; first | (rw [if_pos (by decide +kernel)]; kernel_rfl) | (rw [if_neg (by decide +kernel)]; exact ⟨rfl, rfl⟩))
    (fun os started H enc _ => fnOneFieldDecides_lifted os started H enc)

end Go.Proofs.Ytamcgcncghabhaa
