/- impl.MapSet, MapGet, MapHas, MapSize. -/
import Derived.Test.YtamcgcncghabhaaSameW
import Derived.Test.YtamcgcncghabhaaMapsE
namespace Go.Proofs.Ytamcgcncghabhaa
open Go.RowKit
set_option linter.unusedSimpArgs false

set_option maxHeartbeats 1000000 in
set_option maxRecDepth 100000 in
theorem plainMap2_of {kind n : Int} {f : Nat} {s : ByteArray} {keys : List ByteArray} {l : List V} {w : World} {X : List Nat} {cs : List Value} (hv : IsV w X cs (.mk kind n f s keys l)) (hX : Old X w)
    (R : Ending → World → Prop) (hR : ∀ w' r es, Ext w w' → w.heap.size ≤ r → IsMap w' r es → EntsT w' (r :: X) es (plainEnts keys l) → R (.returned (.map (some r))) w') :
    Calls Try.prog 55 #[.agg cs.toArray] w R := by
  have ih : ∀ i (h : i < l.length), PlainC (l[i]) := fun i h => plain_all _
  obtain ⟨ko, kc, o, c, rfl, hwf, hks, hl⟩ := hv.inv
  obtain ⟨_, _, kb, koff, e, k2, k3, k4, k5⟩ := hks.ex
  cases e
  obtain ⟨_, _, b, off, e, h2, h3, h4, h5⟩ := hl.ex
  cases e
  have hR' := Lib.hid hR
  have hih := Lib.hid ih
  clear hR ih hv hks hl hwf
  have hmm := @run_makeMap Try.prog
  go_enter Try.func55, Try.ntmps55
  go_wp2_with fail
  refine abs2 (G := Code.wp _ _ _ _) ?_
  intro w1 hE1 hb1 hb2 hs1
  go_loopw [10] (fun i wr => ∃ k : Nat, k ≤ keys.length ∧ i = .int .i64 k ∧ Ext w wr ∧ wr.heap[w.heap.size]? = w1.heap[w.heap.size]? ∧ ∃ es, IsMap wr (w.heap.size + 1) es ∧ EntsT wr ((w.heap.size + 1) :: X) es (putAll ((keys.zip (V.plainL l)).take k)))
    (fun i _ => keys.length - (intOf i).toNat)
  case atStart => exact ⟨0, Nat.zero_le _, rfl, hE1, rfl, [], ⟨#[], 0, hb2, ⟨rfl, by simp, by simp, by simp⟩⟩, .nil⟩
  case round =>
    obtain ⟨k, hk, rfl, hE, hbox, es, hm, hes⟩ := hrel
    have hbox' := cells_of (hbox.trans hb1)
    by_cases hlt : k < keys.length
    · obtain ⟨rfl, hkX⟩ := k4 (by omega)
      have d0 := (hE.mv X |>.cell hkX (k5 k hlt).1).1
      have p5 : wr.cell? ⟨w.heap.size, 5, none⟩ = some (.slice o l.length c) := hbox' 5
      clear hb1 hb2 hs1 hE1 k4 k5 hbox'
      by_cases hkl : k < l.length
      · obtain ⟨rfl, hbX⟩ := h4 (by omega)
        obtain ⟨x, c0, c1, c2, c3, c4, c5, hx⟩ := h5 k hkl
        have q0 := (hE.mv X |>.cell hbX c0).1
        have q1 := (hE.mv X |>.cell hbX c1).1
        have q2 := (hE.mv X |>.cell hbX c2).1
        have q3 := (hE.mv X |>.cell hbX c3).1
        have q4 := (hE.mv X |>.cell hbX c4).1
        have q5 := (hE.mv X |>.cell hbX c5).1
        clear c0 c1 c2 c3 c4 c5 h4 h5 
        go_wp2_with fail
        refine hih.out k hkl wr ((w.heap.size + 1) :: X) x.list (hx.mv ((hE.mv X).more (by omega))) (.cons hm.lt (Old.le hX hE.size)) _ ?_
        intro w2 y hE2 hy
        dsimp only
        obtain ⟨w3, hr3, hm3, hg3, hs3⟩ := run_mapUpdate_ents (P := Try.prog) (T := 71) Try.underlying71 Try.underlying9 (hm.ext hE2) (keys[k]) y
        have hone := hy.one
        go_wp2_with fail
        go_roundw
        case rel =>
          refine ⟨k + 1, by omega, by go_num, (hE.trans hE2).grown hg3 (by intro j hj; cases hj; omega), ?_, _, hm3, ?_⟩
          · exact ((hg3.block _ (by have := hm.lt; have := hE2.size; omega) (by simp)).trans (hE2.below.block _ (by have := hm.lt; omega))).trans hbox
          · rw [zip_take_lt hlt (by rw [V.plainL_eq]; simpa using hkl), putAll_snoc]
            have hpl : (V.plainL l)[k]'(by rw [V.plainL_eq]; simpa using hkl) = (l[k]).plain := by simp [V.plainL_eq]
            rw [hpl]
            exact (hes.mv ((hE2.mv _).grown hg3 (by simp))).put (hy.mv ((Mv.refl _ _).grown hg3 (by simp)))
        case measure => simp [intOf]; omega
      · clear h4 h5
        go_wp2_with fail
        go_roundw
        case rel =>
          refine ⟨k + 1, by omega, by go_num, hE, hbox, es, hm, ?_⟩
          rw [zip_take_ge (by rw [V.plainL_eq]; simp; omega)]
          exact hes
        case measure => simp [intOf]; omega
    · go_wp2_with fail
      rw [List.take_of_length_le (by simp; omega)] at hes
      exact hR'.out _ _ es hE (by omega) hm hes


theorem plainEnts_len (keys : List ByteArray) (l : List V) : (plainEnts keys l).length ≤ l.length := by
  have h1 := putAll_length (keys.zip (V.plainL l))
  simp only [List.length_zip, V.plainL_eq, List.length_map] at h1
  simp only [plainEnts, V.plainL_eq]
  omega
theorem plainEnts_small {keys : List ByteArray} {l : List V} {N : Nat} (h : ∀ k ∈ keys, k.size ≤ N) : ∀ p ∈ plainEnts keys l, p.1.size ≤ N := by
  intro p hp
  have h1 := putAll_mem _ p hp
  obtain ⟨q, hq, e⟩ := List.mem_map.1 h1
  exact h _ (e ▸ (List.of_mem_zip hq).1)
theorem putEnt_in {α : Type} {k : ByteArray} {v : α} {p : ByteArray × α} : ∀ {es : EntsOfT α}, p ∈ putEnt k v es → p = (k, v) ∨ p ∈ es
  | [], h => .inl (by simpa [putEnt] using h)
  | e :: es, h => by
    simp only [putEnt] at h
    split at h
    · rcases List.mem_cons.1 h with h | h
      · exact .inl h
      · exact .inr (by simp [h])
    · rcases List.mem_cons.1 h with h | h
      · exact .inr (by simp [h])
      · rcases putEnt_in h with h | h
        · exact .inl h
        · exact .inr (by simp [h])

set_option maxRecDepth 100000 in
set_option maxHeartbeats 1000000 in
theorem newValue2_c {w : World} {x : Value} (hone : x.oneCell' = true) (R : Ending → World → Prop) (hR : ∀ w' b, Ext w w' → w'.heap[b]? = some (.cells #[x] 134 (0, 0)) → R (.returned (.iface 111 (.pointer (some ⟨b, 0, none⟩)))) w') :
    Calls Try.prog 56 #[x] w R := by
  have hR' := Lib.hid hR
  clear hR
  go_enter Try.func56, Try.ntmps56
  go_wp2_with (first | refine wpL_init1 rfl 20 _ _ rfl Try.info20 rfl (by simp) rfl hone (by decide) rfl ?_ | go_in)
  refine hR'.out _ _ ((Ext.alloc _ _).push _) ?_
  show ((w.heap.push _).push _)[_]? = _
  rw [push_get, if_pos (by simp)]

set_option maxRecDepth 100000 in
set_option maxHeartbeats 1000000 in
theorem asMapUsing2_c {w : World} {r : Nat} {al : Value} (R : Ending → World → Prop) (hR : ∀ w', Ext w w' → R (.returned (.iface 178 (.map (some r)))) w') :
    Calls Try.prog 124 #[.agg #[.iface 71 (.map (some r))], al] w R := by
  have hR' := Lib.hid hR
  clear hR
  go_enter Try.func124, Try.ntmps124
  go_wp2_with fail
  exact hR'.out _ (.alloc _ _)

set_option maxRecDepth 100000 in
set_option maxHeartbeats 1000000 in
theorem asMap2_c {w : World} {r : Nat} (R : Ending → World → Prop) (hR : ∀ w', Ext w w' → R (.returned (.iface 178 (.map (some r)))) w') :
    Calls Try.prog 123 #[.agg #[.iface 71 (.map (some r))]] w R := by
  have hR' := Lib.hid hR
  clear hR
  go_enter Try.func123, Try.ntmps123
  go_wp2_with fail
  refine abs2 (G := fun wr => Calls _ _ _ wr _) ?_
  intro w1 hE1 hb1 hb2 hs1
  clear hb1 hb2 hs1
  refine asMapUsing2_c _ ?_
  intro w2 hE2
  dsimp only
  go_wp2_with fail
  exact hR'.out _ (hE1.trans hE2)

@[go_sem] theorem meth_mSet (n r : Nat) (w : World) : (method (n + 1) 178 (.map (some r)) "Set").run Try.prog w = .ok (153, .map (some r)) w := by kernel_rfl
@[go_sem] theorem meth_mGet (n r : Nat) (w : World) : (method (n + 1) 178 (.map (some r)) "Get").run Try.prog w = .ok (147, .map (some r)) w := by kernel_rfl
@[go_sem] theorem meth_mHas (n r : Nat) (w : World) : (method (n + 1) 178 (.map (some r)) "Has").run Try.prog w = .ok (149, .map (some r)) w := by kernel_rfl

set_option maxRecDepth 100000 in
set_option maxHeartbeats 1000000 in
theorem mSet_c {w : World} {r vb : Nat} {es : Ents} {k : ByteArray} {x : Value} (hm : IsMap w r es) (h2 : w.heap[vb]? = some (.cells #[x] 134 (0, 0))) (R : Ending → World → Prop)
    (hR : ∀ w1 w', Ext w w1 → w1.grownBy w' (some r) → IsMap w' r (putEnt k x es) → R (.returned (.tuple #[])) w') :
    Calls Try.prog 153 #[.map (some r), .string k, .iface 111 (.pointer (some ⟨vb, 0, none⟩))] w R := by
  have c0 : w.cell? ⟨vb, 0, none⟩ = some x := cells_of h2 0
  have hR' := Lib.hid hR
  have hm' := Lib.hid hm
  clear hR h2 hm
  go_enter Try.func153, Try.ntmps153
  go_wp2_with fail
  refine unstructured_c _ ?_
  intro w1 hE1
  dsimp only
  obtain ⟨w3, hr3, hm3, hg3, hs3⟩ := run_mapUpdate_ents (P := Try.prog) (T := 178) Try.underlying178 Try.underlying9 (hm'.out.ext hE1) k x
  go_wp2_with fail
  exact bodyPost_end (by simp [results, Try.results153, go_sem]) rfl (hR'.out _ _ hE1 hg3 hm3)

set_option maxRecDepth 100000 in
set_option maxHeartbeats 1000000 in
theorem mGet_c {w : World} {X : List Nat} {r : Nat} {ts : EntsOfT T} {k : ByteArray} (h : IsTm w X r ts) (hX : Old X w) (R : Ending → World → Prop)
    (hR : ∀ w' v, Ext w w' → OptVal w' X v (getEnt k ts) → R (.returned (.tuple #[v, .bool (getEnt k ts).isSome])) w') :
    Calls Try.prog 147 #[.map (some r), .string k] w R := by
  obtain ⟨b, hb⟩ : ∃ b, (getEnt k ts).isSome = b := ⟨_, rfl⟩
  rw [hb] at hR
  have hb' := Lib.hid hb
  have h' := Lib.hid h
  have hX' := Lib.hid hX
  have hR' := Lib.hid hR
  clear hR h hX hb
  go_enter Try.func147, Try.ntmps147
  go_wp2_with fail
  refine abs1 (G := fun wr => Calls _ _ _ wr _) ?_
  intro w1 hE1 hb1 hs1
  clear hb1 hs1
  refine getUsing_c (h'.out.mv (hE1.mv X)) (hX'.out.le hE1.size) ⟨_, rfl⟩ _ ?_
  rw [hb'.out]
  intro w2 v hE2 hv
  have hv' := Lib.hid hv
  clear hv
  dsimp only
  go_wp2_with fail
  exact hR'.out _ _ (hE1.trans hE2) hv'.out

/-- a tree taken apart, or the zero value -/
def optV : Option T → V
  | none => .mk 0 0 0 ⟨#[]⟩ [] []
  | some t => t.back

set_option maxRecDepth 100000 in
set_option maxHeartbeats 1000000 in
theorem fromOpt_c {w : World} {X : List Nat} {v : Value} {o : Option T} (hv : OptVal w X v o) (hX : Old X w) (R : Ending → World → Prop) (hR : ∀ w' cs, Ext w w' → IsV w' X cs (optV o) → R (.returned (.agg cs.toArray)) w') :
    Calls Try.prog 50 #[v] w R := by
  cases o with
  | some t => exact fromValue_c hv hX R hR
  | none =>
    obtain rfl : v = .nilIface := hv
    have hR' := Lib.hid hR
    clear hR hX
    go_enter Try.func50, Try.ntmps50
    go_wp2_with fail
    refine bodyPost_ret (by simp [results, Try.results50, go_sem]; try rfl) rfl ?_
    refine hR'.out _ [_, _, _, _, _, _] (.alloc _ _) ?_
    simp only [optV]
    refine IsV.of (by decide) ?_ ?_ ?_ (IsStrs.nil _ _) (IsVs.nil _ _)
    all_goals first | decide | assumption

set_option maxRecDepth 100000 in
set_option maxHeartbeats 1000000 in
theorem implMapHas_c {w : World} {X : List Nat} {cs : List Value} {kind n : Int} {f : Nat} {s : ByteArray} {keys : List ByteArray} {l : List V} {key : ByteArray} (hv : IsV w X cs (.mk kind n f s keys l)) (R : Ending → World → Prop)
    (hR : Ends R w (.bool (getEnt key (plainEnts keys l)).isSome)) : Calls Try.prog 26 #[.agg cs.toArray, .string key] w R := by
  obtain ⟨x, rfl⟩ := hv.shape
  obtain ⟨b, hb⟩ : ∃ b, (getEnt key (plainEnts keys l)).isSome = b := ⟨_, rfl⟩
  rw [hb] at hR
  have hv' := Lib.hid (hv.mv ((Mv.refl _ _).less (Z := []) (by simp)))
  have hR' := Lib.hid hR
  have hb' := Lib.hid hb
  clear hR hv hb
  simp only [Cells6.list]
  go_enter Try.func26, Try.ntmps26
  go_wp2_with fail
  refine abs1 (G := fun wr => Calls _ _ _ wr _) ?_
  intro w1 hE1 hb1 hs1
  clear hb1 hs1
  refine toMapping_c (X := []) (cs := x.list) (hv'.out.mv (hE1.mv _)) (Old.nil _) _ ?_
  intro w2 v hE2 hm
  obtain ⟨r, rfl, hr⟩ := hm.ex
  have hr' := Lib.hid hr
  clear hr hm
  dsimp only
  go_wp2_with fail
  refine mHas_c hr'.out _ ?_
  rw [hb'.out]
  dsimp only
  go_wp2_with fail
  exact hR'.out _ (hE1.trans hE2)

set_option maxRecDepth 100000 in
set_option maxHeartbeats 1000000 in
theorem implMapSize_c {w : World} {X : List Nat} {cs : List Value} {kind n : Int} {f : Nat} {s : ByteArray} {keys : List ByteArray} {l : List V} (hv : IsV w X cs (.mk kind n f s keys l)) (R : Ending → World → Prop)
    (hR : ∀ w', Ext w w' → R (.returned (.tuple #[.int .i64 ((plainEnts keys l).length : Int), .bool (((plainEnts keys l).length : Int) == 0)])) w') : Calls Try.prog 25 #[.agg cs.toArray] w R := by
  obtain ⟨x, rfl⟩ := hv.shape
  obtain ⟨m, hm⟩ : ∃ m, (plainEnts keys l).length = m := ⟨_, rfl⟩
  rw [hm] at hR
  have hv' := Lib.hid (hv.mv ((Mv.refl _ _).less (Z := []) (by simp)))
  have hR' := Lib.hid hR
  have hm' := Lib.hid hm
  clear hR hv hm
  simp only [Cells6.list]
  go_enter Try.func25, Try.ntmps25
  go_wp2_with fail
  refine abs1 (G := fun wr => Calls _ _ _ wr _) ?_
  intro w1 hE1 hb1 hs1
  clear hb1 hs1
  refine toMapping_c (X := []) (cs := x.list) (hv'.out.mv (hE1.mv _)) (Old.nil _) _ ?_
  intro w2 v hE2 hmm
  obtain ⟨r, rfl, hr⟩ := hmm.ex
  obtain ⟨es, hes, hlen⟩ := hr.len
  rw [hm'.out] at hlen
  subst hlen
  have hes' := Lib.hid hes
  clear hr hmm hes
  dsimp only
  go_wp2_with fail
  refine mLength_c hes'.out _ ?_
  dsimp only
  go_wp2_with fail
  refine mEmpty_c hes'.out _ ?_
  dsimp only
  go_wp2_with fail
  exact hR'.out _ (hE1.trans hE2)

set_option maxRecDepth 100000 in
set_option maxHeartbeats 1000000 in
theorem implMapGet_c {w : World} {X : List Nat} {cs : List Value} {kind n : Int} {f : Nat} {s : ByteArray} {keys : List ByteArray} {l : List V} {key : ByteArray} (hv : IsV w X cs (.mk kind n f s keys l)) (R : Ending → World → Prop)
    (hR : ∀ w' ds, Ext w w' → IsV w' [] ds (optV (getEnt key (plainEnts keys l))) → R (.returned (.tuple #[.agg ds.toArray, .bool (getEnt key (plainEnts keys l)).isSome])) w') :
    Calls Try.prog 23 #[.agg cs.toArray, .string key] w R := by
  obtain ⟨x, rfl⟩ := hv.shape
  obtain ⟨b, hb⟩ : ∃ b, (getEnt key (plainEnts keys l)).isSome = b := ⟨_, rfl⟩
  rw [hb] at hR
  have hv' := Lib.hid (hv.mv ((Mv.refl _ _).less (Z := []) (by simp)))
  have hR' := Lib.hid hR
  have hb' := Lib.hid hb
  clear hR hv hb
  simp only [Cells6.list]
  go_enter Try.func23, Try.ntmps23
  go_wp2_with fail
  refine abs2 (G := fun wr => Calls _ _ _ wr _) ?_
  intro w1 hE1 hb1 hb2 hs1
  refine toMapping_c (X := [w.heap.size + 1]) (cs := x.list) (hv'.out.mv ((hE1.mv _).more (by omega))) (.cons (by omega) (Old.nil _)) _ ?_
  intro w2 v hE2 hm
  obtain ⟨r, rfl, hr⟩ := hm.ex
  have hb3 := (hE2.below.block (w.heap.size + 1) (by omega)).trans hb2
  have hs2 := hE2.size
  have hlt : w.heap.size + 1 < w2.heap.size := by omega
  have hr' := Lib.hid hr
  clear hr hm hb1 hb2 hs1 hs2
  dsimp only
  go_wp2_with fail
  refine mGet_c hr'.out (.cons hlt (Old.nil _)) _ ?_
  rw [hb'.out]
  intro w3 u hE3 hu
  have hb4 := (hE3.below.block (w.heap.size + 1) hlt).trans hb3
  have hlt3 := Nat.lt_of_lt_of_le hlt hE3.size
  have hu' := Lib.hid hu
  clear hu hb3
  dsimp only
  go_wp2_with fail
  refine fromOpt_c hu'.out (.cons hlt3 (Old.nil _)) _ ?_
  intro w4 ds hE4 hd
  obtain ⟨y, rfl⟩ := hd.shape
  have hb5 : w4.heap[w.heap.size + 1]? = _ := (hE4.below.block (w.heap.size + 1) hlt3).trans hb4
  have hd' := Lib.hid hd
  clear hd hb4
  dsimp only
  simp only [Cells6.list]
  go_wp2_with (refine wpL_storeRow (cells := #[Value.int .i64 y.kind, .int .i64 y.n, .float .f64 y.f, .string y.s, .slice y.ko y.kn y.kc, .slice y.o y.m y.c]) rfl _ _ _ rfl Try.size26 rfl rfl hb5 rfl (by simp [Value.oneCell']) ?_; intro w5 hh5 hg5)
  go_simp
  have z0 : w5.cell? ⟨w.heap.size + 1, 0, none⟩ = some (.int .i64 y.kind) := cells_of hh5 0
  have z1 : w5.cell? ⟨w.heap.size + 1, 1, none⟩ = some (.int .i64 y.n) := cells_of hh5 1
  have z2 : w5.cell? ⟨w.heap.size + 1, 2, none⟩ = some (.float .f64 y.f) := cells_of hh5 2
  have z3 : w5.cell? ⟨w.heap.size + 1, 3, none⟩ = some (.string y.s) := cells_of hh5 3
  have z4 : w5.cell? ⟨w.heap.size + 1, 4, none⟩ = some (.slice y.ko y.kn y.kc) := cells_of hh5 4
  have z5 : w5.cell? ⟨w.heap.size + 1, 5, none⟩ = some (.slice y.o y.m y.c) := cells_of hh5 5
  refine bodyPost_ret (by simp [results, Try.results23, go_sem, z0, z1, z2, z3, z4, z5]; try rfl) rfl ?_
  exact hR'.out w5 y.list ((hE1.trans (hE2.trans (hE3.trans hE4))).grown hg5 (fun j hj => by simp at hj; omega)) ((hd'.out.mv ((Mv.refl _ _).grown hg5 (fun j hj => by cases hj; simp))).mv ((Mv.refl _ _).less fun b hb => by simp at hb))

set_option maxRecDepth 100000 in
set_option maxHeartbeats 2000000 in
set_option pp.maxSteps 1000000 in
set_option pp.deepTerms true in
theorem implMapSet_c {w : World} {X Y : List Nat} {cs ds : List Value} {kind n : Int} {f : Nat} {s : ByteArray} {keys : List ByteArray} {l : List V} {v : V} {key : ByteArray} (ha : IsV w X cs (.mk kind n f s keys l)) (hb : IsV w Y ds v)
    (hkey : key.size ≤ 140737488351232) (hlen : (l.length + 1) * 88 ≤ 140737488351232) (R : Ending → World → Prop)
    (hR : ∀ w' es, Ext w w' → IsV w' [] es (T.map ((putEnt key v.plain (plainEnts keys l)).map (·.1)) ((putEnt key v.plain (plainEnts keys l)).map (·.2))).back → R (.returned (.agg es.toArray)) w') :
    Calls Try.prog 22 #[.agg cs.toArray, .string key, .agg ds.toArray] w R := by
  obtain ⟨x, rfl⟩ := ha.shape
  obtain ⟨y, rfl⟩ := hb.shape
  have hsm : ∀ k ∈ keys, k.size ≤ 140737488351232 := by obtain ⟨_, _, _, _, _, _, hks, _⟩ := ha.inv; exact hks.small
  have hsm' := Lib.hid hsm
  have ha' := Lib.hid (ha.mv ((Mv.refl _ _).less (Z := []) (by simp)))
  have hb' := Lib.hid (hb.mv ((Mv.refl _ _).less (Z := []) (by simp)))
  have hkey' := Lib.hid hkey
  have hlen' := Lib.hid hlen
  have hR' := Lib.hid hR
  clear hR ha hb hsm hkey hlen
  simp only [Cells6.list]
  go_enter Try.func22, Try.ntmps22
  go_wp2_with fail
  refine abs3 (G := fun wr => Calls _ _ _ wr _) ?_
  intro w1 hE1 hb1 hb2 hb3 hs1
  have d0 : w1.cell? ⟨w.heap.size + 1, 0, none⟩ = some (.int .i64 y.kind) := cells_of hb2 0; have d1 : w1.cell? ⟨w.heap.size + 1, 1, none⟩ = some (.int .i64 y.n) := cells_of hb2 1; have d2 : w1.cell? ⟨w.heap.size + 1, 2, none⟩ = some (.float .f64 y.f) := cells_of hb2 2; have d3 : w1.cell? ⟨w.heap.size + 1, 3, none⟩ = some (.string y.s) := cells_of hb2 3; have d4 : w1.cell? ⟨w.heap.size + 1, 4, none⟩ = some (.slice y.ko y.kn y.kc) := cells_of hb2 4; have d5 : w1.cell? ⟨w.heap.size + 1, 5, none⟩ = some (.slice y.o y.m y.c) := cells_of hb2 5
  refine plainMap2_of (X := [w.heap.size + 2]) (cs := x.list) (ha'.out.mv ((hE1.mv _).more (by omega))) (.cons (by omega) (Old.nil _)) _ ?_
  intro w2 r es hE2 hr hm hes
  replace d0 := hE2.keep d0; replace d1 := hE2.keep d1; replace d2 := hE2.keep d2; replace d3 := hE2.keep d3; replace d4 := hE2.keep d4; replace d5 := hE2.keep d5
  have hs2 := hE2.size
  have hlt : w.heap.size + 2 < w2.heap.size := by omega
  have hro : w.heap.size + 3 ≤ r := by omega
  have hb4 := (hE2.below.block (w.heap.size + 2) (by omega)).trans hb3
  have hlt' := Lib.hid hlt
  have hro' := Lib.hid hro
  have hm' := Lib.hid hm
  have hes' := Lib.hid hes
  have hb4' := Lib.hid hb4
  clear hb1 hb2 hb3 hs1 hs2 hlt hro hr hm hes hb4
  dsimp only
  go_wp2_with fail
  have hC : Ext w2 w2.drew := (Ext.refl _).drew
  refine wp_region_script [0, 1, 4, 5, 7, 8, 9] [2, 3] (fun w' => Ext w2 w') [(.pure, 0), (.pure, 1), (.pure, 4), (.read, 5), (.one, 2), (.one, 3), (.pure, 7), (.pure, 8), (.pure, 9), (.one, 6), (.one, 10)] (by kernel_rfl) (by kernel_rfl) ?_
  (apply scr_pure'; (· rfl); (· rfl); (· (intro w'; go_simp; try rfl)); (· (simp [go_sem]; try rfl)))
  (apply scr_pure'; (· rfl); (· rfl); (· (intro w'; go_simp; try rfl)); (· (simp [go_sem]; try rfl)))
  (apply scr_pure'; (· rfl); (· rfl); (· (intro w'; go_simp; try rfl)); (· (simp [go_sem]; try rfl)))
  (apply scr_read'; (· rfl); (· rfl); (· first | exact hC | exact (Ext.refl _).drew); (· (intro w' hw'; have d0_ := hw'.keep d0; have d1_ := hw'.keep d1; have d2_ := hw'.keep d2; have d3_ := hw'.keep d3; have d4_ := hw'.keep d4; have d5_ := hw'.keep d5; go_simp; try rfl)); (· (simp [go_sem]; try rfl)))
  refine scr_one rfl rfl (fun K hK => ?_)
  go_simp
  refine newValue2_c rfl _ ?_
  intro w3 nb hE3 hb5
  have e0 : w3.cell? ⟨nb, 0, none⟩ = some _ := cells_of hb5 0
  replace hE3 := hC.trans hE3
  refine hK _ _ (fun _ => hE3) ?_
  clear hK hb5
  refine scr_one rfl rfl (fun K hK => ?_)
  go_simp
  refine asMap2_c _ ?_
  intro w4 hE4
  replace hE3 := hE3.trans hE4
  refine hK _ _ (fun _ => hE3) ?_
  clear hK hE4 e0
  (apply scr_pure'; (· rfl); (· rfl); (· (intro w'; go_simp; try rfl)); (· (simp [go_sem]; try rfl)))
  (apply scr_pure'; (· rfl); (· rfl); (· (intro w'; go_simp; try rfl)); (· (simp [go_sem]; try rfl)))
  (apply scr_pure'; (· rfl); (· rfl); (· (intro w'; go_simp; try rfl)); (· (simp [go_sem]; try rfl)))
  refine scr_one rfl rfl (fun K hK => ?_)
  go_simp
  have hE14 := hE1.trans (hE2.trans hE3)
  refine toValue_c (X := [r, w.heap.size + 2]) (cs := y.list) (hb'.out.mv (((hE14.mv []).more (by omega)).more (by have := hro'.out; omega))) (.cons (Nat.lt_of_lt_of_le hm'.out.lt hE3.size) (.cons (Nat.lt_of_lt_of_le hlt'.out hE3.size) (Old.nil _))) _ ?_
  intro w5 z hE5 hz
  obtain ⟨vb, xv, rfl, hh, hp, hx⟩ := hz.ex
  have hh' := Lib.hid hh
  have hx' := Lib.hid hx
  refine hK _ _ (fun h => by simp at h) ?_
  clear hK hz hh hx hp
  refine scr_one rfl rfl (fun K hK => ?_)
  go_simp
  refine mSet_c (hm'.out.ext (hE3.trans hE5)) hh'.out _ ?_
  intro w6 w7 hE6 hg7 hm7
  have hm7' := Lib.hid hm7
  refine hK _ _ (fun h => by simp at h) ?_
  clear hK hm7
  refine scr_end ?_
  simp only [Exit.then]
  have hm27 : Mv w2 [r, w.heap.size + 2] w7 [r, w.heap.size + 2] := (((hE3.trans hE5).trans hE6).mv _).grown hg7 (by simp)
  have hm57 : Mv w5 [r, w.heap.size + 2] w7 [r, w.heap.size + 2] := (hE6.mv _).grown hg7 (by simp)
  have hb8 := ((hm27.block (w.heap.size + 2) hlt'.out))
  go_wp2_with fail
  have hx7 := hx'.out.mv hm57
  have hsmE : ∀ p ∈ putEnt key v.plain (plainEnts keys l), p.1.size ≤ 140737488351232 := fun p hp => by
    rcases putEnt_in hp with rfl | hp
    · exact hkey'.out
    · exact plainEnts_small hsm'.out p hp
  have hbdE : (putEnt key v.plain (plainEnts keys l)).length * 88 ≤ 140737488351232 := by
    have h1 := putEnt_length key v.plain (plainEnts keys l)
    have h2 := plainEnts_len keys l
    have h3 := hlen'.out
    exact Nat.le_trans (Nat.mul_le_mul_right 88 (by omega)) h3
  have hT : IsTm w7 [w.heap.size + 2] r (putEnt key v.plain (plainEnts keys l)) := ⟨⟨_, hm7'.out, ((hes'.out.mv hm27).put hx7).mv ((Mv.refl _ _).less (by simp))⟩, by have := hro'.out; simp; omega, hbdE, hsmE⟩
  have hlt7 := Nat.lt_of_lt_of_le hlt'.out hm27.size
  have hb9 : w7.heap[w.heap.size + 2]? = _ := (hg7.block (w.heap.size + 2) (Nat.lt_of_lt_of_le hlt'.out ((hE3.trans hE5).trans hE6).size) (by have := hro'.out; simp; omega)).trans ((((hE3.trans hE5).trans hE6).below.block (w.heap.size + 2) hlt'.out).trans hb4'.out)
  have hE17 : Ext w w7 := ((hE14.trans hE5).trans hE6).grown hg7 (fun j hj => by cases hj; have := hro'.out; omega)
  refine fromTree_c _ _ [w.heap.size + 2] _ hT.mk_map (.cons hlt7 (Old.nil _)) _ ?_
  intro w8 cs8 hE8 h8
  obtain ⟨u, rfl⟩ := h8.shape
  have hb10 : w8.heap[w.heap.size + 2]? = _ := (hE8.below.block (w.heap.size + 2) hlt7).trans hb9
  have h8' := Lib.hid h8
  clear h8 hb9 hb8 hT hsmE hbdE hx7 d0 d1 d2 d3 d4 d5 hm27 hm57
  dsimp only
  simp only [Cells6.list]
  go_wp2_with (refine wpL_storeRow (cells := #[Value.int .i64 u.kind, .int .i64 u.n, .float .f64 u.f, .string u.s, .slice u.ko u.kn u.kc, .slice u.o u.m u.c]) rfl _ _ _ rfl Try.size26 rfl rfl hb10 rfl (by simp [Value.oneCell']) ?_; intro w9 hh9 hg9)
  go_simp
  have z0 : w9.cell? ⟨w.heap.size + 2, 0, none⟩ = some (.int .i64 u.kind) := cells_of hh9 0
  have z1 : w9.cell? ⟨w.heap.size + 2, 1, none⟩ = some (.int .i64 u.n) := cells_of hh9 1
  have z2 : w9.cell? ⟨w.heap.size + 2, 2, none⟩ = some (.float .f64 u.f) := cells_of hh9 2
  have z3 : w9.cell? ⟨w.heap.size + 2, 3, none⟩ = some (.string u.s) := cells_of hh9 3
  have z4 : w9.cell? ⟨w.heap.size + 2, 4, none⟩ = some (.slice u.ko u.kn u.kc) := cells_of hh9 4
  have z5 : w9.cell? ⟨w.heap.size + 2, 5, none⟩ = some (.slice u.o u.m u.c) := cells_of hh9 5
  refine bodyPost_ret (by simp [results, Try.results22, go_sem, z0, z1, z2, z3, z4, z5]; try rfl) rfl ?_
  exact hR'.out w9 u.list ((hE17.trans hE8).grown hg9 (fun j hj => by cases hj; omega)) ((h8'.out.mv ((Mv.refl _ _).grown hg9 (fun j hj => by cases hj; simp))).mv ((Mv.refl _ _).less fun b hb => by simp at hb))
end Go.Proofs.Ytamcgcncghabhaa
