/- For all maps, a map in which a key was set has it with the value that was set, has under any other key what it had, and has one key more just if it did not have it; no condition beside the law's own. -/
import Derived.Test.YtamcgcncghabhaaMapS
import Derived.Test.YtamcgcncghabhaaLaw
namespace Go.Proofs.Ytamcgcncghabhaa
open Go.RowKit Go.ChangeShapes Go.WideShapes Go.ChangeAt
set_option linter.unusedSimpArgs false

theorem plainEnts_map (keys : List ByteArray) (l : List V) : plainEnts keys l = (putAll (keys.zip l)).map fun p => (p.1, p.2.plain) := by
  rw [plainEnts, V.plainL_eq, ← zip_map_right, putAll_map]
theorem plainEnts_nodup (keys : List ByteArray) (l : List V) : ((plainEnts keys l).map (·.1)).Nodup := putAll_nodup _
theorem map_fst {α β : Type} (f : α → β) (es : EntsOfT α) : (es.map fun p => (p.1, f p.2)).map (·.1) = es.map (·.1) := by
  rw [List.map_map]; rfl

/-- a map of trees taken apart, and made plain again -/
theorem back_ents {E : EntsOfT T} (h : (E.map (·.1)).Nodup) : ∃ kB lB, (T.map (E.map (·.1)) (E.map (·.2))).back = .mk 6 0 0 ⟨#[]⟩ kB lB ∧ (∀ q, getEnt q (plainEnts kB lB) = (getEnt q E).map fun t => t.back.plain) ∧ (plainEnts kB lB).length = E.length := by
  have hn : ((E.map fun p => (p.1, p.2.back)).map (·.1)).Nodup := by rw [map_fst]; exact h
  have hS : Rising ((insAll [] (E.map fun p => (p.1, p.2.back))).map (·.1)) := insAll_rising _ trivial
  refine ⟨(insAll [] (E.map fun p => (p.1, p.2.back))).map (·.1), (insAll [] (E.map fun p => (p.1, p.2.back))).map (·.2), ?_, ?_, ?_⟩
  · simp only [T.back]
    rw [T.backL_eq, zip_map_snd]
  · intro q
    rw [plainEnts_map, zip_fst_snd, getEnt_lookK, lookK_map, putAll_self hS.nodup, lookK_insAll, putAll_self hn, lookK_map, getEnt_lookK, Option.map_map]
    rfl
  · rw [plainEnts_map, zip_fst_snd, putAll_self hS.nodup, List.length_map, sort_len hn, List.length_map]

theorem mapset_facts (keys : List ByteArray) (l : List V) (v : V) (key : ByteArray) : ∃ kB lB, (T.map ((putEnt key v.plain (plainEnts keys l)).map (·.1)) ((putEnt key v.plain (plainEnts keys l)).map (·.2))).back = .mk 6 0 0 ⟨#[]⟩ kB lB ∧
    getEnt key (plainEnts kB lB) = some v.clean.plain ∧ (∀ q, q ≠ key → getEnt q (plainEnts kB lB) = (getEnt q (plainEnts keys l)).map fun t => t.back.plain) ∧
    ((getEnt key (plainEnts keys l)).isSome = true → (plainEnts kB lB).length = (plainEnts keys l).length) ∧ ((getEnt key (plainEnts keys l)).isSome = false → (plainEnts kB lB).length = (plainEnts keys l).length + 1) := by
  obtain ⟨kB, lB, h1, h2, h3⟩ := back_ents (E := putEnt key v.plain (plainEnts keys l)) (putEnt_keys (plainEnts_nodup keys l))
  refine ⟨kB, lB, h1, ?_, ?_, ?_, ?_⟩
  · rw [h2, getEnt_lookK, lookK_put, if_pos rfl, Option.map_some, back_plain]
  · intro q hq
    rw [h2, getEnt_lookK, getEnt_lookK, lookK_put, if_neg hq]
  · intro h
    rw [h3]
    cases hf : findEnt key (plainEnts keys l) 0 with
    | none => simp [getEnt, hf] at h
    | some p => obtain ⟨j, u⟩ := p; rw [putEnt_some hf, List.length_set]
  · intro h
    rw [h3]
    cases hf : findEnt key (plainEnts keys l) 0 with
    | none => rw [putEnt_none (findEnt_none.1 hf), List.length_append]; rfl
    | some p => simp [getEnt, hf] at h

theorem optV_again (keys : List ByteArray) (l : List V) (q : ByteArray) : optV ((getEnt q (plainEnts keys l)).map fun t => t.back.plain) = optV (getEnt q (plainEnts keys l)) := by
  rw [plainEnts_map, getEnt_lookK, lookK_map]
  cases lookK q (putAll (keys.zip l)) with
  | none => rfl
  | some u => simp only [Option.map_some, optV, back_plain, clean_clean]

set_option maxRecDepth 100000 in
set_option maxHeartbeats 1000000 in
theorem zzFits5_n {w : World} {X : List Nat} {cs : List Value} {kind n : Int} {f : Nat} {s : ByteArray} {keys : List ByteArray} {l : List V} (hv : IsV w X cs (.mk kind n f s keys l)) (R : Ending → World → Prop) (hR : ∀ b, (b = true → (l.length : Int) ≤ 2147483647) → Ends R w (.bool b)) :
    Calls Try.prog 11 #[.agg cs.toArray] w R := by
  obtain ⟨ko, kc, o, c, rfl, -, hks, -⟩ := hv.inv
  clear hv
  have hR' := Lib.hid hR
  have hks' := Lib.hid hks
  clear hR hks
  by_cases hl : (2147483647 : Int) < (l.length : Int)
  all_goals
    have hl' := Lib.hid hl
    go_enter Try.func11, Try.ntmps11
    go_wp2_with fail
    · exact hR'.out _ (fun h => by cases h) _ (.alloc _ _)
    · refine zzFits2_any (hks'.out.mv ((Ext.alloc _ _).mv X)) _ ?_
      intro b w1 hE1
      dsimp only
      obtain ⟨hc1, hf1, hz1⟩ := hE1.cells
      cases b
      · go_wp2_with fail
        exact hR'.out _ (fun h => by cases h) _ ((Ext.alloc _ _).trans hE1)
      · go_wp2_with fail
        exact hR'.out _ (fun h => by first | (cases h; done) | (have := hl'.out; omega)) _ ((Ext.alloc _ _).trans hE1)


set_option maxRecDepth 100000 in
set_option maxHeartbeats 1000000 in
theorem wSame_c {w : World} {X Y : List Nat} {cs ds : List Value} {v u : V} {p q : Bool} (hv : IsV w X cs v) (hu : IsV w Y ds u) (R : Ending → World → Prop) (hR : Ends R w (.bool (p == q && v.clean.same u.clean))) :
    Calls Try.prog 24 #[.agg cs.toArray, .bool p, .agg ds.toArray, .bool q] w R := by
  obtain ⟨x, rfl⟩ := hv.shape
  obtain ⟨y, rfl⟩ := hu.shape
  obtain ⟨b, hb⟩ : ∃ b, v.clean.same u.clean = b := ⟨_, rfl⟩
  rw [hb] at hR
  have hv' := Lib.hid (hv.mv ((Mv.refl _ _).less (Z := []) (by simp)))
  have hu' := Lib.hid (hu.mv ((Mv.refl _ _).less (Z := []) (by simp)))
  have hR' := Lib.hid hR
  have hb' := Lib.hid hb
  clear hv hu hR hb
  simp only [Cells6.list]
  cases p <;> cases q
  all_goals
    go_enter Try.func24, Try.ntmps24
    go_wp2_with fail
    first
    | exact hR'.out _ ((Ext.alloc _ _).push _)
    | (refine abs2 (G := fun wr => Calls _ _ _ wr _) ?_
       intro w1 hE1 hb1 hb2 hs1
       clear hb1 hb2 hs1
       refine sameValue_c (cs := x.list) (ds := y.list) (hv'.out.mv (hE1.mv _)) (hu'.out.mv (hE1.mv _)) _ ?_
       rw [hb'.out]
       intro w2 hE2
       dsimp only
       go_wp2_with fail
       exact hR'.out _ (hE1.trans hE2))

set_option maxRecDepth 100000 in
set_option maxHeartbeats 8000000 in
set_option pp.maxSteps 1000000 in
set_option pp.deepTerms true in
theorem fnMapSet_law {w : World} {cs ds : List Value} {a v : V} {key other : ByteArray} (ha : IsV w [] cs a) (hb : IsV w [] ds v) :
    Calls Try.prog 6 #[.agg cs.toArray, .string key, .agg ds.toArray, .string other] w fun e w' => e = .returned (.bool true) ∧ Below w.heap.size w w' := by
  suffices h : ∀ R : Ending → World → Prop, Ends R w (.bool true) → Calls Try.prog 6 #[.agg cs.toArray, .string key, .agg ds.toArray, .string other] w R from h _ (fun w' hE => ⟨rfl, hE⟩)
  intro R hR
  obtain ⟨x, rfl⟩ := ha.shape
  obtain ⟨y, rfl⟩ := hb.shape
  obtain ⟨kind, n, f, s, keys, l⟩ := a
  have ha' := Lib.hid ha
  have hv' := Lib.hid hb
  have hR' := Lib.hid hR
  clear hR ha hb
  simp only [Cells6.list]
  by_cases hkey : (2147483647 : Int) < (key.size : Int)
  · go_enter Try.func6, Try.ntmps6
    go_wp2_with fail
    refine abs2 (G := fun wr => Calls _ _ _ wr _) ?_
    intro w1 hE1 hb1 hb2 hs1
    clear hb1 hb2 hs1
    refine zzFits5_any (ha'.out.mv (hE1.mv [])) _ ?_
    intro t1 w2 hE2
    dsimp only
    cases t1
    · go_wp2_with fail
      exact hR'.out _ (hE1.trans hE2)
    · go_wp2_with fail
      exact hR'.out _ (hE1.trans hE2)
  by_cases hoth : (2147483647 : Int) < (other.size : Int)
  · go_enter Try.func6, Try.ntmps6
    go_wp2_with fail
    refine abs2 (G := fun wr => Calls _ _ _ wr _) ?_
    intro w1 hE1 hb1 hb2 hs1
    have e0 : w1.cell? ⟨w.heap.size + 1, 0, none⟩ = some (.int .i64 y.kind) := cells_of hb2 0; have e1 : w1.cell? ⟨w.heap.size + 1, 1, none⟩ = some (.int .i64 y.n) := cells_of hb2 1; have e2 : w1.cell? ⟨w.heap.size + 1, 2, none⟩ = some (.float .f64 y.f) := cells_of hb2 2; have e3 : w1.cell? ⟨w.heap.size + 1, 3, none⟩ = some (.string y.s) := cells_of hb2 3; have e4 : w1.cell? ⟨w.heap.size + 1, 4, none⟩ = some (.slice y.ko y.kn y.kc) := cells_of hb2 4; have e5 : w1.cell? ⟨w.heap.size + 1, 5, none⟩ = some (.slice y.o y.m y.c) := cells_of hb2 5
    clear hb1 hb2 hs1
    refine zzFits5_any (ha'.out.mv (hE1.mv [])) _ ?_
    intro t1 w2 hE2
    replace e0 := hE2.keep e0; replace e1 := hE2.keep e1; replace e2 := hE2.keep e2; replace e3 := hE2.keep e3; replace e4 := hE2.keep e4; replace e5 := hE2.keep e5
    replace hE1 := hE1.trans hE2
    clear hE2
    dsimp only
    cases t1
    · go_wp2_with fail
      exact hR'.out _ hE1
    go_wp2_with fail
    refine zzFits5_any (hv'.out.mv (hE1.mv [])) _ ?_
    intro t2 w3 hE3
    dsimp only
    cases t2
    · go_wp2_with fail
      exact hR'.out _ (hE1.trans hE3)
    · go_wp2_with fail
      exact hR'.out _ (hE1.trans hE3)
  go_enter Try.func6, Try.ntmps6
  go_wp2_with fail
  refine abs2 (G := fun wr => Calls _ _ _ wr _) ?_
  intro w1 hE1 hb1 hb2 hs1
  have d0 : w1.cell? ⟨w.heap.size, 0, none⟩ = some (.int .i64 x.kind) := cells_of hb1 0; have d1 : w1.cell? ⟨w.heap.size, 1, none⟩ = some (.int .i64 x.n) := cells_of hb1 1; have d2 : w1.cell? ⟨w.heap.size, 2, none⟩ = some (.float .f64 x.f) := cells_of hb1 2; have d3 : w1.cell? ⟨w.heap.size, 3, none⟩ = some (.string x.s) := cells_of hb1 3; have d4 : w1.cell? ⟨w.heap.size, 4, none⟩ = some (.slice x.ko x.kn x.kc) := cells_of hb1 4; have d5 : w1.cell? ⟨w.heap.size, 5, none⟩ = some (.slice x.o x.m x.c) := cells_of hb1 5
  have e0 : w1.cell? ⟨w.heap.size + 1, 0, none⟩ = some (.int .i64 y.kind) := cells_of hb2 0; have e1 : w1.cell? ⟨w.heap.size + 1, 1, none⟩ = some (.int .i64 y.n) := cells_of hb2 1; have e2 : w1.cell? ⟨w.heap.size + 1, 2, none⟩ = some (.float .f64 y.f) := cells_of hb2 2; have e3 : w1.cell? ⟨w.heap.size + 1, 3, none⟩ = some (.string y.s) := cells_of hb2 3; have e4 : w1.cell? ⟨w.heap.size + 1, 4, none⟩ = some (.slice y.ko y.kn y.kc) := cells_of hb2 4; have e5 : w1.cell? ⟨w.heap.size + 1, 5, none⟩ = some (.slice y.o y.m y.c) := cells_of hb2 5
  clear hb1 hb2 hs1
  refine zzFits5_n (ha'.out.mv (hE1.mv [])) _ ?_
  intro t1 ht1 w2 hE2
  have ht1' := Lib.hid ht1
  replace d0 := hE2.keep d0; replace d1 := hE2.keep d1; replace d2 := hE2.keep d2; replace d3 := hE2.keep d3; replace d4 := hE2.keep d4; replace d5 := hE2.keep d5; replace e0 := hE2.keep e0; replace e1 := hE2.keep e1; replace e2 := hE2.keep e2; replace e3 := hE2.keep e3; replace e4 := hE2.keep e4; replace e5 := hE2.keep e5
  replace hE1 := hE1.trans hE2
  clear hE2 ht1
  dsimp only
  cases t1
  · go_wp2_with fail
    exact hR'.out _ hE1
  go_wp2_with fail
  refine zzFits5_any (hv'.out.mv (hE1.mv [])) _ ?_
  intro t2 w3 hE3
  replace d0 := hE3.keep d0; replace d1 := hE3.keep d1; replace d2 := hE3.keep d2; replace d3 := hE3.keep d3; replace d4 := hE3.keep d4; replace d5 := hE3.keep d5; replace e0 := hE3.keep e0; replace e1 := hE3.keep e1; replace e2 := hE3.keep e2; replace e3 := hE3.keep e3; replace e4 := hE3.keep e4; replace e5 := hE3.keep e5
  replace hE1 := hE1.trans hE3
  clear hE3
  dsimp only
  cases t2
  · go_wp2_with fail
    exact hR'.out _ hE1
  have hl31 : (l.length : Int) ≤ 2147483647 := ht1'.out trivial
  have hkb : key.size ≤ 140737488351232 := by omega
  have hlen : (l.length + 1) * 88 ≤ 140737488351232 := by omega
  have hbd := plainEnts_len keys l
  obtain ⟨kB, lB, f1, f2, f3, f4, f5⟩ := mapset_facts keys l v key
  obtain ⟨nA, hnA⟩ : ∃ m, (plainEnts keys l).length = m := ⟨_, rfl⟩
  obtain ⟨nB, hnB⟩ : ∃ m, (plainEnts kB lB).length = m := ⟨_, rfl⟩
  obtain ⟨bh, hh⟩ : ∃ m, (getEnt key (plainEnts keys l)).isSome = m := ⟨_, rfl⟩
  rw [hh, hnA, hnB] at f4 f5
  rw [hnA] at hbd
  have hbd' := Lib.hid (show (nA : Int) ≤ 2147483647 by omega)
  have hnA' := Lib.hid hnA
  have hnB' := Lib.hid hnB
  have hh' := Lib.hid hh
  have ht' := Lib.hid f4
  have hf' := Lib.hid f5
  have f1' := Lib.hid f1
  have f2' := Lib.hid f2
  have f3' := Lib.hid f3
  have hkb' := Lib.hid hkb
  have hlen' := Lib.hid hlen
  clear ht1' hl31 hbd hnA hnB hh f1 f2 f3 f4 f5 hkb hlen
  go_wp2_with fail
  refine implMapSet_c (cs := x.list) (ds := y.list) (ha'.out.mv (hE1.mv _)) (hv'.out.mv (hE1.mv _)) hkb'.out hlen'.out _ ?_
  intro w4 us hE4 hB
  rw [f1'.out] at hB
  obtain ⟨u, rfl⟩ := hB.shape
  have onem : u.list.toArray.all (·.oneCell') = true := by simp [Cells6.list, Value.oneCell']
  have hB' := Lib.hid hB
  replace d0 := hE4.keep d0; replace d1 := hE4.keep d1; replace d2 := hE4.keep d2; replace d3 := hE4.keep d3; replace d4 := hE4.keep d4; replace d5 := hE4.keep d5; replace e0 := hE4.keep e0; replace e1 := hE4.keep e1; replace e2 := hE4.keep e2; replace e3 := hE4.keep e3; replace e4 := hE4.keep e4; replace e5 := hE4.keep e5
  replace hE1 := hE1.trans hE4
  clear hE4 hB hkb' hlen' f1'
  simp only [Cells6.list] at onem
  try dsimp only
  simp only [Cells6.list]
  go_wp2_with fail
  refine abs1 (G := fun wr => Calls _ _ _ wr _) ?_
  intro w5 hE5 hb5 hs5
  have g0 : w5.cell? ⟨w4.heap.size, 0, none⟩ = some (.int .i64 u.kind) := cells_of hb5 0; have g1 : w5.cell? ⟨w4.heap.size, 1, none⟩ = some (.int .i64 u.n) := cells_of hb5 1; have g2 : w5.cell? ⟨w4.heap.size, 2, none⟩ = some (.float .f64 u.f) := cells_of hb5 2; have g3 : w5.cell? ⟨w4.heap.size, 3, none⟩ = some (.string u.s) := cells_of hb5 3; have g4 : w5.cell? ⟨w4.heap.size, 4, none⟩ = some (.slice u.ko u.kn u.kc) := cells_of hb5 4; have g5 : w5.cell? ⟨w4.heap.size, 5, none⟩ = some (.slice u.o u.m u.c) := cells_of hb5 5
  replace d0 := hE5.keep d0; replace d1 := hE5.keep d1; replace d2 := hE5.keep d2; replace d3 := hE5.keep d3; replace d4 := hE5.keep d4; replace d5 := hE5.keep d5; replace e0 := hE5.keep e0; replace e1 := hE5.keep e1; replace e2 := hE5.keep e2; replace e3 := hE5.keep e3; replace e4 := hE5.keep e4; replace e5 := hE5.keep e5
  replace hE1 := hE1.trans hE5
  have hB' := Lib.hid (hB'.out.mv (hE5.mv _))
  clear hE5 hb5 hs5 onem
  refine implMapGet_c (cs := u.list) (key := key) hB'.out _ ?_
  rw [f2'.out]
  simp only [Option.isSome_some, optV, back_plain, clean_clean]
  intro w6 cs6 hE6 h6
  obtain ⟨z, rfl⟩ := h6.shape
  have onem : z.list.toArray.all (·.oneCell') = true := by simp [Cells6.list, Value.oneCell']
  have h6' := Lib.hid h6
  replace d0 := hE6.keep d0; replace d1 := hE6.keep d1; replace d2 := hE6.keep d2; replace d3 := hE6.keep d3; replace d4 := hE6.keep d4; replace d5 := hE6.keep d5; replace e0 := hE6.keep e0; replace e1 := hE6.keep e1; replace e2 := hE6.keep e2; replace e3 := hE6.keep e3; replace e4 := hE6.keep e4; replace e5 := hE6.keep e5; replace g0 := hE6.keep g0; replace g1 := hE6.keep g1; replace g2 := hE6.keep g2; replace g3 := hE6.keep g3; replace g4 := hE6.keep g4; replace g5 := hE6.keep g5
  replace hE1 := hE1.trans hE6
  have hB' := Lib.hid (hB'.out.mv (hE6.mv _))
  clear hE6 h6
  simp only [Cells6.list] at onem
  try dsimp only
  simp only [Cells6.list]
  go_upto_region 5 with fail
  refine abs1 (G := fun wr => Code.wp _ _ _ _ wr) ?_
  intro w7 hE7 hb7 hs7
  have q0 : w7.cell? ⟨w6.heap.size, 0, none⟩ = some (.int .i64 z.kind) := cells_of hb7 0; have q1 : w7.cell? ⟨w6.heap.size, 1, none⟩ = some (.int .i64 z.n) := cells_of hb7 1; have q2 : w7.cell? ⟨w6.heap.size, 2, none⟩ = some (.float .f64 z.f) := cells_of hb7 2; have q3 : w7.cell? ⟨w6.heap.size, 3, none⟩ = some (.string z.s) := cells_of hb7 3; have q4 : w7.cell? ⟨w6.heap.size, 4, none⟩ = some (.slice z.ko z.kn z.kc) := cells_of hb7 4; have q5 : w7.cell? ⟨w6.heap.size, 5, none⟩ = some (.slice z.o z.m z.c) := cells_of hb7 5
  replace d0 := hE7.keep d0; replace d1 := hE7.keep d1; replace d2 := hE7.keep d2; replace d3 := hE7.keep d3; replace d4 := hE7.keep d4; replace d5 := hE7.keep d5; replace e0 := hE7.keep e0; replace e1 := hE7.keep e1; replace e2 := hE7.keep e2; replace e3 := hE7.keep e3; replace e4 := hE7.keep e4; replace e5 := hE7.keep e5; replace g0 := hE7.keep g0; replace g1 := hE7.keep g1; replace g2 := hE7.keep g2; replace g3 := hE7.keep g3; replace g4 := hE7.keep g4; replace g5 := hE7.keep g5
  replace hE1 := hE1.trans hE7
  have hB' := Lib.hid (hB'.out.mv (hE7.mv _))
  clear hb7 hs7
  go_wp2_with fail
  refine wSame_c (cs := z.list) (ds := y.list) (h6'.out.mv (hE7.mv _)) (hv'.out.mv (hE1.mv _)) _ (Ends.bool (b := true) ?_ (by simp [clean_clean, same_refl]))
  clear hE7 onem h6' f2' q0 q1 q2 q3 q4 q5
  intro w8 hE8
  replace d0 := hE8.keep d0; replace d1 := hE8.keep d1; replace d2 := hE8.keep d2; replace d3 := hE8.keep d3; replace d4 := hE8.keep d4; replace d5 := hE8.keep d5; replace g0 := hE8.keep g0; replace g1 := hE8.keep g1; replace g2 := hE8.keep g2; replace g3 := hE8.keep g3; replace g4 := hE8.keep g4; replace g5 := hE8.keep g5
  replace hE1 := hE1.trans hE8
  have hB' := Lib.hid (hB'.out.mv (hE8.mv _))
  clear hE8 e0 e1 e2 e3 e4 e5
  dsimp only
  by_cases heq : other = key
  · have hnb : (other.toList == key.toList) = true := by rw [heq]; simp
    clear heq f3'
    go_wp2_with fail
    refine implMapSize_c (cs := x.list) (ha'.out.mv (hE1.mv _)) _ ?_
    rw [hnA'.out]
    intro wA hEA
    replace d0 := hEA.keep d0; replace d1 := hEA.keep d1; replace d2 := hEA.keep d2; replace d3 := hEA.keep d3; replace d4 := hEA.keep d4; replace d5 := hEA.keep d5; replace g0 := hEA.keep g0; replace g1 := hEA.keep g1; replace g2 := hEA.keep g2; replace g3 := hEA.keep g3; replace g4 := hEA.keep g4; replace g5 := hEA.keep g5
    replace hE1 := hE1.trans hEA
    have hB' := Lib.hid (hB'.out.mv (hEA.mv _))
    clear hEA
    dsimp only
    go_wp2_with fail
    refine implMapSize_c (cs := u.list) hB'.out _ ?_
    rw [hnB'.out]
    intro wB hEB
    replace d0 := hEB.keep d0; replace d1 := hEB.keep d1; replace d2 := hEB.keep d2; replace d3 := hEB.keep d3; replace d4 := hEB.keep d4; replace d5 := hEB.keep d5
    replace hE1 := hE1.trans hEB
    clear hEB
    dsimp only
    go_wp2_with fail
    refine implMapHas_c (cs := x.list) (key := key) (ha'.out.mv (hE1.mv _)) _ ?_
    rw [hh'.out]
    intro wC hEC
    replace hE1 := hE1.trans hEC
    clear hEC
    dsimp only
    cases bh
    · have hn : nB = nA + 1 := hf'.out rfl
      have hw : IntKind.i64.wrap ((nA : Int) + 1) = (nA : Int) + 1 := IntWalk.i64_in _ (by have := hbd'.out; omega)
      have hn' := Lib.hid hn
      clear hn
      go_wp2_with fail
      exact hR'.out.bool (by have := hn'.out; simp; omega) _ hE1
    · have hn : nB = nA := ht'.out rfl
      have hn' := Lib.hid hn
      clear hn
      go_wp2_with fail
      exact hR'.out.bool (by have := hn'.out; simp; omega) _ hE1
  · have hnb : (other.toList == key.toList) = false := beq_eq_false_iff_ne.2 fun h => heq (toList_inj h)
    have f3 := f3'.out other heq
    have f3' := Lib.hid f3
    clear heq f3
    go_wp2_with fail
    refine implMapGet_c (cs := x.list) (key := other) (ha'.out.mv (hE1.mv _)) _ ?_
    intro w9 cs9 hE9 h9
    obtain ⟨z2, rfl⟩ := h9.shape
    have onem : z2.list.toArray.all (·.oneCell') = true := by simp [Cells6.list, Value.oneCell']
    have h9' := Lib.hid h9
    replace d0 := hE9.keep d0; replace d1 := hE9.keep d1; replace d2 := hE9.keep d2; replace d3 := hE9.keep d3; replace d4 := hE9.keep d4; replace d5 := hE9.keep d5; replace g0 := hE9.keep g0; replace g1 := hE9.keep g1; replace g2 := hE9.keep g2; replace g3 := hE9.keep g3; replace g4 := hE9.keep g4; replace g5 := hE9.keep g5
    replace hE1 := hE1.trans hE9
    have hB' := Lib.hid (hB'.out.mv (hE9.mv _))
    obtain ⟨bo, hbo⟩ : ∃ m, (getEnt other (plainEnts keys l)).isSome = m := ⟨_, rfl⟩
    rw [hbo]
    have hbo' := Lib.hid hbo
    clear hE9 h9 hbo
    simp only [Cells6.list] at onem
    try dsimp only
    simp only [Cells6.list]
    go_upto_region 9 with fail
    refine abs1 (G := fun wr => Code.wp _ _ _ _ wr) ?_
    intro w10 hE10 hb10 hs10
    have p0 : w10.cell? ⟨w9.heap.size, 0, none⟩ = some (.int .i64 z2.kind) := cells_of hb10 0; have p1 : w10.cell? ⟨w9.heap.size, 1, none⟩ = some (.int .i64 z2.n) := cells_of hb10 1; have p2 : w10.cell? ⟨w9.heap.size, 2, none⟩ = some (.float .f64 z2.f) := cells_of hb10 2; have p3 : w10.cell? ⟨w9.heap.size, 3, none⟩ = some (.string z2.s) := cells_of hb10 3; have p4 : w10.cell? ⟨w9.heap.size, 4, none⟩ = some (.slice z2.ko z2.kn z2.kc) := cells_of hb10 4; have p5 : w10.cell? ⟨w9.heap.size, 5, none⟩ = some (.slice z2.o z2.m z2.c) := cells_of hb10 5
    replace d0 := hE10.keep d0; replace d1 := hE10.keep d1; replace d2 := hE10.keep d2; replace d3 := hE10.keep d3; replace d4 := hE10.keep d4; replace d5 := hE10.keep d5; replace g0 := hE10.keep g0; replace g1 := hE10.keep g1; replace g2 := hE10.keep g2; replace g3 := hE10.keep g3; replace g4 := hE10.keep g4; replace g5 := hE10.keep g5
    replace hE1 := hE1.trans hE10
    have hB' := Lib.hid (hB'.out.mv (hE10.mv _))
    have h9' := Lib.hid (h9'.out.mv (hE10.mv _))
    clear hE10 hb10 hs10 onem
    go_wp2_with fail
    refine implMapGet_c (cs := u.list) (key := other) hB'.out _ ?_
    rw [f3'.out, optV_again, Option.isSome_map, hbo'.out]
    intro w11 cs11 hE11 h11
    obtain ⟨z3, rfl⟩ := h11.shape
    have onem : z3.list.toArray.all (·.oneCell') = true := by simp [Cells6.list, Value.oneCell']
    have h11' := Lib.hid h11
    replace d0 := hE11.keep d0; replace d1 := hE11.keep d1; replace d2 := hE11.keep d2; replace d3 := hE11.keep d3; replace d4 := hE11.keep d4; replace d5 := hE11.keep d5; replace g0 := hE11.keep g0; replace g1 := hE11.keep g1; replace g2 := hE11.keep g2; replace g3 := hE11.keep g3; replace g4 := hE11.keep g4; replace g5 := hE11.keep g5; replace p0 := hE11.keep p0; replace p1 := hE11.keep p1; replace p2 := hE11.keep p2; replace p3 := hE11.keep p3; replace p4 := hE11.keep p4; replace p5 := hE11.keep p5
    replace hE1 := hE1.trans hE11
    have hB' := Lib.hid (hB'.out.mv (hE11.mv _))
    have h9' := Lib.hid (h9'.out.mv (hE11.mv _))
    clear hE11 h11
    simp only [Cells6.list] at onem
    try dsimp only
    simp only [Cells6.list]
    go_upto_region 10 with fail
    refine abs1 (G := fun wr => Code.wp _ _ _ _ wr) ?_
    intro w12 hE12 hb12 hs12
    have q0 : w12.cell? ⟨w11.heap.size, 0, none⟩ = some (.int .i64 z3.kind) := cells_of hb12 0; have q1 : w12.cell? ⟨w11.heap.size, 1, none⟩ = some (.int .i64 z3.n) := cells_of hb12 1; have q2 : w12.cell? ⟨w11.heap.size, 2, none⟩ = some (.float .f64 z3.f) := cells_of hb12 2; have q3 : w12.cell? ⟨w11.heap.size, 3, none⟩ = some (.string z3.s) := cells_of hb12 3; have q4 : w12.cell? ⟨w11.heap.size, 4, none⟩ = some (.slice z3.ko z3.kn z3.kc) := cells_of hb12 4; have q5 : w12.cell? ⟨w11.heap.size, 5, none⟩ = some (.slice z3.o z3.m z3.c) := cells_of hb12 5
    replace d0 := hE12.keep d0; replace d1 := hE12.keep d1; replace d2 := hE12.keep d2; replace d3 := hE12.keep d3; replace d4 := hE12.keep d4; replace d5 := hE12.keep d5; replace g0 := hE12.keep g0; replace g1 := hE12.keep g1; replace g2 := hE12.keep g2; replace g3 := hE12.keep g3; replace g4 := hE12.keep g4; replace g5 := hE12.keep g5; replace p0 := hE12.keep p0; replace p1 := hE12.keep p1; replace p2 := hE12.keep p2; replace p3 := hE12.keep p3; replace p4 := hE12.keep p4; replace p5 := hE12.keep p5
    replace hE1 := hE1.trans hE12
    have hB' := Lib.hid (hB'.out.mv (hE12.mv _))
    clear hb12 hs12
    go_wp2_with fail
    refine wSame_c (cs := z2.list) (ds := z3.list) (h9'.out.mv (hE12.mv _)) (h11'.out.mv (hE12.mv _)) _ (Ends.bool (b := true) ?_ (by simp [same_refl]))
    clear hE12 onem h9' h11' f3' p0 p1 p2 p3 p4 p5 q0 q1 q2 q3 q4 q5
    intro w13 hE13
    replace d0 := hE13.keep d0; replace d1 := hE13.keep d1; replace d2 := hE13.keep d2; replace d3 := hE13.keep d3; replace d4 := hE13.keep d4; replace d5 := hE13.keep d5; replace g0 := hE13.keep g0; replace g1 := hE13.keep g1; replace g2 := hE13.keep g2; replace g3 := hE13.keep g3; replace g4 := hE13.keep g4; replace g5 := hE13.keep g5
    replace hE1 := hE1.trans hE13
    have hB' := Lib.hid (hB'.out.mv (hE13.mv _))
    clear hE13
    dsimp only
    go_wp2_with fail
    refine implMapSize_c (cs := x.list) (ha'.out.mv (hE1.mv _)) _ ?_
    rw [hnA'.out]
    intro wA hEA
    replace d0 := hEA.keep d0; replace d1 := hEA.keep d1; replace d2 := hEA.keep d2; replace d3 := hEA.keep d3; replace d4 := hEA.keep d4; replace d5 := hEA.keep d5; replace g0 := hEA.keep g0; replace g1 := hEA.keep g1; replace g2 := hEA.keep g2; replace g3 := hEA.keep g3; replace g4 := hEA.keep g4; replace g5 := hEA.keep g5
    replace hE1 := hE1.trans hEA
    have hB' := Lib.hid (hB'.out.mv (hEA.mv _))
    clear hEA
    dsimp only
    go_wp2_with fail
    refine implMapSize_c (cs := u.list) hB'.out _ ?_
    rw [hnB'.out]
    intro wB hEB
    replace d0 := hEB.keep d0; replace d1 := hEB.keep d1; replace d2 := hEB.keep d2; replace d3 := hEB.keep d3; replace d4 := hEB.keep d4; replace d5 := hEB.keep d5
    replace hE1 := hE1.trans hEB
    clear hEB
    dsimp only
    go_wp2_with fail
    refine implMapHas_c (cs := x.list) (key := key) (ha'.out.mv (hE1.mv _)) _ ?_
    rw [hh'.out]
    intro wC hEC
    replace hE1 := hE1.trans hEC
    clear hEC
    dsimp only
    cases bh
    · have hn : nB = nA + 1 := hf'.out rfl
      have hw : IntKind.i64.wrap ((nA : Int) + 1) = (nA : Int) + 1 := IntWalk.i64_in _ (by have := hbd'.out; omega)
      have hn' := Lib.hid hn
      clear hn
      go_wp2_with fail
      exact hR'.out.bool (by have := hn'.out; simp; omega) _ hE1
    · have hn : nB = nA := ht'.out rfl
      have hn' := Lib.hid hn
      clear hn
      go_wp2_with fail
      exact hR'.out.bool (by have := hn'.out; simp; omega) _ hE1

set_option maxRecDepth 100000 in
theorem fnMapSet_walk : LawWalk 6 Try.f6 := by
  intro H enc W base args ds ps hA _ hw hval
  rw [Try.params6] at hA hw hval
  obtain ⟨v0, v1, v2, v3, d0, d1, d2, d3, p0, p1, p2, p3, hargs, rfl, rfl, h0, h1, h2, h3⟩ := trodAll_four hA
  obtain ⟨args⟩ := args
  obtain rfl : args = [v0, v1, v2, v3] := by simpa using hargs
  obtain ⟨cs0, rfl, hcs0⟩ := okWide_struct Try.underlying26 (hval 0 26 v0 rfl rfl)
  obtain ⟨key, rfl⟩ := okWide_string Try.underlying9 (hval 1 9 v1 rfl rfl)
  obtain ⟨cs2, rfl, hcs2⟩ := okWide_struct Try.underlying26 (hval 2 26 v2 rfl rfl)
  obtain ⟨other, rfl⟩ := okWide_string Try.underlying9 (hval 3 9 v3 rfl rfl)
  obtain ⟨fuel0, h0⟩ := h0
  obtain ⟨fuel2, h2⟩ := h2
  simp only [DataW.weightsEach, List.all_append, Bool.and_eq_true] at hw
  obtain ⟨a, ha⟩ := read_v fuel0 _ _ h0 hw.1
  obtain ⟨b, hb⟩ := read_v fuel2 _ _ h2 hw.2.2.1
  exact fnMapSet_law (cs := cs0.toList) (ds := cs2.toList) ha hb

set_option maxRecDepth 100000 in
theorem fnMapSet_lifted (os : Os) (started : os.Started) (H : Type) (enc : TypeId × Value → H) :
    ReturnsInHanded {} Try.checked os 6 .any (Rows.fnMapSetSpec.pre6 enc Try.prog Try.f6 Rows.fnMapSetRow.domain false) (Rows.fnMapSetSpec.post enc Try.prog Try.f6 false true false false) :=
  law_lift (s := Rows.fnMapSetSpec) started (by kernel_rfl) Try.func6 rfl rfl
    (by rw [Try.params6]; intro t ht; simp at ht; rcases ht with rfl | rfl | rfl | rfl <;> exact ⟨by kernel_rfl, of_decide_eq_true (by kernel_rfl)⟩)
    (by rw [Try.params6]; intro ds hd; match ds, hd with | [a, b, c, d], _ => rfl)
    (ChangeSpec.witness6 (enc := enc) (C := Try.checked) false ⟨#[], #[.agg #[.int .i64 0, .int .i64 0, .float .f64 0, .string ⟨#[]⟩, .slice none 0 0, .slice none 0 0], .string ⟨#[]⟩, .agg #[.int .i64 0, .int .i64 0, .float .f64 0, .string ⟨#[]⟩, .slice none 0 0, .slice none 0 0], .string ⟨#[]⟩], []⟩ 8 (by kernel_rfl) (by kernel_rfl) (by kernel_rfl) (by kernel_rfl))
    fnMapSet_walk

theorem FnMapSet_holds : Rows.FnMapSetSaid :=
  OpenClaim.holds_of_wide 6 Try.f6 rfl rfl rfl rfl rfl rfl rfl ⟨rfl, rfl, rfl, rfl, rfl⟩ rfl rfl rfl rfl rfl (by kernel_rfl) Try.func6 (by kernel_rfl)
    (of_decide_eq_true (by kernel_rfl)) (by unfold Func.isWrapper; first | (rw [if_pos (by decide +kernel)]; kernel_rfl) | (rw [if_neg (by decide +kernel)]; exact ⟨rfl, rfl⟩))
    (fun os started H enc _ => fnMapSet_lifted os started H enc)

end Go.Proofs.Ytamcgcncghabhaa
