/- FieldList.Compare, FieldList.Less, spec.CompareKeys, impl.LessKeys. impl.toMapping, value.MapCompare, impl.CompareMaps. value.MapEquals: the walk over two maps in no order. (In a seat that fill.py filled before it knew run_float64bits this text held what was missing; else nothing.) impl.MapSet, MapGet, MapHas, MapSize. -/
import Derived.Test.YtnndacgokehkpaaCmpO
import Derived.Test.YtnndacgokehkpaaFits
import Derived.Test.YtnndacgokehkpaaSameV
namespace Go.Proofs.Ytnndacgokehkpaa
open Go.RowKit
set_option linter.unusedSimpArgs false

theorem cmpE_at {α : Type} {r : α → α → Int} {P Q : EntsOfT α} {k : Nat} (h : cmpE r P Q = cmpE r (P.drop k) (Q.drop k)) (h1 : k < P.length) (h2 : k < Q.length) :
    cmpE r P Q = if cmpS (P[k]).1 (Q[k]).1 ≠ 0 then cmpS (P[k]).1 (Q[k]).1 else if r (P[k]).2 (Q[k]).2 ≠ 0 then r (P[k]).2 (Q[k]).2 else cmpE r (P.drop (k + 1)) (Q.drop (k + 1)) := by
  rw [h, List.drop_eq_getElem_cons h1, List.drop_eq_getElem_cons h2]
  simp only [cmpE]
theorem cmpE_end {α : Type} {r : α → α → Int} {P Q : EntsOfT α} {k : Nat} (h : cmpE r P Q = cmpE r (P.drop k) (Q.drop k)) (h1 : k ≤ P.length) (h2 : k ≤ Q.length) (h3 : k = P.length ∨ k = Q.length) : cmpE r P Q = cmpI P.length Q.length := by
  rw [h, ← cmpI_sub h1 h2, ← List.length_drop, ← List.length_drop]
  have h4 : P.drop k = [] ∨ Q.drop k = [] := by
    rcases h3 with h3 | h3
    · exact .inl (by simp [h3])
    · exact .inr (by simp [h3])
  generalize P.drop k = x at h4
  generalize Q.drop k = y at h4
  cases x with
  | nil => cases y with
    | nil => simp [cmpE, cmpI]
    | cons b y => simp [cmpE, cmpI] <;> omega
  | cons a x => cases y with
    | nil => simp [cmpE, cmpI] <;> omega
    | cons b y => simp at h4
theorem cmpE_neg {α : Type} {r : α → α → Int} (hr : ∀ x y, r y x = - r x y) : ∀ P Q : EntsOfT α, cmpE r Q P = - cmpE r P Q
  | [], [] => rfl
  | [], _ :: _ => rfl
  | _ :: _, [] => rfl
  | p :: ps, q :: qs => by
    simp only [cmpE]
    rw [cmpS_neg p.1 q.1, hr p.2 q.2, cmpE_neg hr ps qs]
    exact neg_if2 _ _ _
theorem cmpE_rng {α : Type} {r : α → α → Int} (hr : ∀ x y, r x y = -1 ∨ r x y = 0 ∨ r x y = 1) : ∀ P Q : EntsOfT α, cmpE r P Q = -1 ∨ cmpE r P Q = 0 ∨ cmpE r P Q = 1
  | [], [] => .inr (.inl rfl)
  | [], _ :: _ => .inl rfl
  | _ :: _, [] => .inr (.inr rfl)
  | p :: ps, q :: qs => by
    simp only [cmpE]
    split
    · exact cmpS_rng _ _
    split
    · exact hr _ _
    · exact cmpE_rng hr ps qs

/-- how two values compare -/
def rV (x y : V) : Int := V.cmpP x.clean y.clean
theorem rV_neg (x y : V) : rV y x = - rV x y := cmpP_neg _ _
theorem rV_rng (x y : V) : rV x y = -1 ∨ rV x y = 0 ∨ rV x y = 1 := cmpP_rng _ _
theorem cmpE_plain (ks js : List ByteArray) (l m : List V) : cmpE cmpT (ks.zip (V.plainL l)) (js.zip (V.plainL m)) = cmpE rV (ks.zip l) (js.zip m) := by
  rw [V.plainL_eq, V.plainL_eq, ← zip_map_right, ← zip_map_right, cmpE_map]
  congr 1
  funext x y
  exact cmpT_plain x y

end Go.Proofs.Ytnndacgokehkpaa

namespace Go.Proofs.Ytnndacgokehkpaa
open Go.RowKit
set_option linter.unusedSimpArgs false

set_option maxRecDepth 100000 in
set_option maxHeartbeats 1000000 in
theorem asMap_c {w w0 : World} {X : List Nat} {x : Value} {keys : List ByteArray} {l : List T} (hx : IsT w0 X x (.map keys l)) (hm : Mv w0 X w X) (R : Ending → World → Prop) (hR : ∀ w' v, Ext w w' → IsMp w' X v (keys.zip l) → R (.returned v) w') :
    Calls Try.prog 83 #[.agg #[x]] w R := by
  have hone := hx.one
  have hx' := Lib.hid hx
  have hm' := Lib.hid hm
  have hR' := Lib.hid hR
  clear hR hx hm
  go_enter Try.func83, Try.ntmps83
  go_wp2_with fail
  refine abs2 (G := fun wr => Calls _ _ _ wr _) ?_
  intro w1 hE1 hb1 hb2 hs1
  clear hb1 hb2 hs1
  refine asMapUsing_c hx'.out (hm'.out.ext hE1) _ ?_
  intro w2 v hE2 hv
  have hv' := Lib.hid hv
  clear hv
  dsimp only
  go_wp2_with fail
  exact hR'.out _ _ (hE1.trans hE2) hv'.out

set_option maxRecDepth 100000 in
set_option maxHeartbeats 1000000 in
theorem toMapping_c {w : World} {X : List Nat} {cs : List Value} {kind n : Int} {f : Nat} {s : ByteArray} {keys : List ByteArray} {l : List V} (hv : IsV w X cs (.mk kind n f s keys l)) (hX : Old X w) (R : Ending → World → Prop)
    (hR : ∀ w' v, Ext w w' → IsMp w' X v (plainEnts keys l) → R (.returned v) w') : Calls Try.prog 17 #[.agg cs.toArray] w R := by
  have hv' := Lib.hid hv
  obtain ⟨ko, kc, o, c, rfl, -, -, -⟩ := hv.inv
  have hX' := Lib.hid hX
  have hR' := Lib.hid hR
  clear hR hX hv
  go_enter Try.func17, Try.ntmps17
  go_wp2_with fail
  refine abs1 (G := fun wr => Calls _ _ _ wr _) ?_
  intro w1 hE1 hb1 hs1
  clear hb1 hs1
  refine plainMap_of (fun i _ => plain_all _) _ X [_, _, _, _, _, _] (hv'.out.mv (hE1.mv X)) (hX'.out.le hE1.size) _ ?_
  intro w2 r hE2 hr
  have ht := hr.mk_map
  have ht' := Lib.hid ht
  have hX2 := Lib.hid (hX'.out.le (hE1.trans hE2).size)
  clear hr ht
  dsimp only
  go_wp2_with fail
  refine newValue_c ht'.out hX2.out _ ?_
  intro w3 v hE3 hvv
  obtain ⟨p, x, rfl, hh, hp, hx⟩ := hvv.ex
  have c0 := cells_of hh 0
  simp only [List.getElem?_toArray, List.getElem?_cons_zero] at c0
  have hx' := Lib.hid hx
  clear hvv hh hp hx
  dsimp only
  go_wp2_with fail
  refine asMap_c hx'.out (Mv.refl _ _) _ ?_
  intro w4 u hE4 hu
  rw [zip_fst_snd] at hu
  have hu' := Lib.hid hu
  clear hu
  dsimp only
  go_wp2_with fail
  exact hR'.out _ _ (hE1.trans (hE2.trans (hE3.trans hE4))) hu'.out

/-- two maps of plain values, sorted -/
theorem sortPlain (keys : List ByteArray) (l : List V) : insAll [] (plainEnts keys l) = (insAll [] (keys.zip l)).map fun p => (p.1, p.2.plain) := by
  rw [plainEnts, insAll_putAll, V.plainL_eq, ← zip_map_right, insAll_map]

end Go.Proofs.Ytnndacgokehkpaa

namespace Go.Proofs.Ytnndacgokehkpaa
open Go.RowKit
set_option linter.unusedSimpArgs false

theorem abs4 {w : World} {o1 o2 o3 o4 : Obj} {G : World → Prop} (h : ∀ w1, Ext w w1 → w1.heap[w.heap.size]? = some o1 → w1.heap[w.heap.size + 1]? = some o2 → w1.heap[w.heap.size + 2]? = some o3 → w1.heap[w.heap.size + 3]? = some o4 → w1.heap.size = w.heap.size + 4 → G w1) : G ((((w.alloc o1).alloc o2).alloc o3).alloc o4) :=
  h _ ((((Ext.alloc _ _).push _).push _).push _) (by show ((((w.heap.push _).push _).push _).push _)[_]? = _; rw [push_get, if_neg (by simp <;> omega), push_get, if_neg (by simp <;> omega), push_get, if_neg (by simp), push_get, if_pos rfl])
    (by show ((((w.heap.push _).push _).push _).push _)[_]? = _; rw [push_get, if_neg (by simp <;> omega), push_get, if_neg (by simp), push_get, if_pos (by simp)])
    (by show ((((w.heap.push _).push _).push _).push _)[_]? = _; rw [push_get, if_neg (by simp), push_get, if_pos (by simp)]) (by show ((((w.heap.push _).push _).push _).push _)[_]? = _; rw [push_get, if_pos (by simp)]) (by simp)

def qE (o p : Option T) : Bool := match o, p with
  | some x, some y => eqT x y
  | _, _ => false

set_option maxRecDepth 100000 in
theorem callFunc_un1 (args : Array Value) (w : World) : (callFunc 111 args).run Try.prog w = .ok (.enter 111 args) w := rfl
set_option maxRecDepth 100000 in
theorem callFunc_un2 (args : Array Value) (w : World) : (callFunc 112 args).run Try.prog w = .ok (.enter 112 args) w := rfl

/-- what the walk over two maps finds -/
structure ZE (P Q : EntsOfT T) : Prop where
  one : ∀ i (h : i < P.length), qE (some (P[i]).2) (getEnt (P[i]).1 Q) = true
  two : ∀ j (h : j < Q.length), (getEnt (Q[j]).1 P).isSome = true

@[go_sem] theorem meth_mEmpty (n r : Nat) (w : World) : (method (n + 1) 183 (.map (some r)) "Empty").run Try.prog w = .ok (96, .map (some r)) w := by kernel_rfl
theorem mEmpty_c {w : World} {r : Nat} {es : Ents} (hm : IsMap w r es) (R : Ending → World → Prop) (hR : R (.returned (.bool ((es.length : Int) == 0))) w) : Calls Try.prog 96 #[.map (some r)] w R := by
  have hl := run_len_ents (P := Try.prog) Try.underlying183 3 hm
  obtain ⟨b, hb⟩ : ∃ b, ((es.length : Int) == 0) = b := ⟨_, rfl⟩
  rw [hb] at hR
  have hR' := Lib.hid hR
  clear hR
  go_enter Try.func96, Try.ntmps96
  go_wp2_with fail
  exact hR'.out
end Go.Proofs.Ytnndacgokehkpaa



namespace Go.Proofs.Ytnndacgokehkpaa
open Go.RowKit
set_option linter.unusedSimpArgs false

set_option maxHeartbeats 1000000 in
set_option maxRecDepth 100000 in
theorem plainMap2_of {kind n : Int} {f : Nat} {s : ByteArray} {keys : List ByteArray} {l : List V} {w : World} {X : List Nat} {cs : List Value} (hv : IsV w X cs (.mk kind n f s keys l)) (hX : Old X w)
    (R : Ending → World → Prop) (hR : ∀ w' r es, Ext w w' → w.heap.size ≤ r → IsMap w' r es → EntsT w' (r :: X) es (plainEnts keys l) → R (.returned (.map (some r))) w') :
    Calls Try.prog 37 #[.agg cs.toArray] w R := by
  have ih : ∀ i (h : i < l.length), PlainC (l[i]) := fun i h => plain_all _
  obtain ⟨ko, kc, o, c, rfl, hwf, hks, hl⟩ := hv.inv
  obtain ⟨_, _, kb, koff, e, k2, k3, k4, k5⟩ := hks.ex
  cases e
  obtain ⟨_, _, b, off, e, h2, h3, h4, h5⟩ := hl.ex
  cases e
  have hR' := Lib.hid hR
  have hih := Lib.hid ih
  clear hR ih hv hks hl hwf
  have hmm := @run_makeMap Try.prog
  go_enter Try.func37, Try.ntmps37
  go_wp2_with fail
  refine abs2 (G := Code.wp _ _ _ _) ?_
  intro w1 hE1 hb1 hb2 hs1
  go_loopw [10] (fun i wr => ∃ k : Nat, k ≤ keys.length ∧ i = .int .i64 k ∧ Ext w wr ∧ wr.heap[w.heap.size]? = w1.heap[w.heap.size]? ∧ ∃ es, IsMap wr (w.heap.size + 1) es ∧ EntsT wr ((w.heap.size + 1) :: X) es (putAll ((keys.zip (V.plainL l)).take k)))
    (fun i _ => keys.length - (intOf i).toNat)
  case atStart => exact ⟨0, Nat.zero_le _, rfl, hE1, rfl, [], ⟨#[], 0, hb2, ⟨rfl, by simp, by simp, by simp⟩⟩, .nil⟩
  case round =>
    obtain ⟨k, hk, rfl, hE, hbox, es, hm, hes⟩ := hrel
    have hbox' := cells_of (hbox.trans hb1)
    by_cases hlt : k < keys.length
    · obtain ⟨rfl, hkX⟩ := k4 (by omega)
      have d0 := (hE.mv X |>.cell hkX (k5 k hlt).1).1
      have p5 : wr.cell? ⟨w.heap.size, 5, none⟩ = some (.slice o l.length c) := hbox' 5
      clear hb1 hb2 hs1 hE1 k4 k5 hbox'
      by_cases hkl : k < l.length
      · obtain ⟨rfl, hbX⟩ := h4 (by omega)
        obtain ⟨x, c0, c1, c2, c3, c4, c5, hx⟩ := h5 k hkl
        have q0 := (hE.mv X |>.cell hbX c0).1
        have q1 := (hE.mv X |>.cell hbX c1).1
        have q2 := (hE.mv X |>.cell hbX c2).1
        have q3 := (hE.mv X |>.cell hbX c3).1
        have q4 := (hE.mv X |>.cell hbX c4).1
        have q5 := (hE.mv X |>.cell hbX c5).1
        clear c0 c1 c2 c3 c4 c5 h4 h5 
        go_wp2_with fail
        refine hih.out k hkl wr ((w.heap.size + 1) :: X) x.list (hx.mv ((hE.mv X).more (by omega))) (.cons hm.lt (Old.le hX hE.size)) _ ?_
        intro w2 y hE2 hy
        dsimp only
        obtain ⟨w3, hr3, hm3, hg3, hs3⟩ := run_mapUpdate_ents (P := Try.prog) (T := 86) Try.underlying86 Try.underlying9 (hm.ext hE2) (keys[k]) y
        have hone := hy.one
        go_wp2_with fail
        go_roundw
        case rel =>
          refine ⟨k + 1, by omega, by go_num, (hE.trans hE2).grown hg3 (by intro j hj; cases hj; omega), ?_, _, hm3, ?_⟩
          · exact ((hg3.block _ (by have := hm.lt; have := hE2.size; omega) (by simp)).trans (hE2.below.block _ (by have := hm.lt; omega))).trans hbox
          · rw [zip_take_lt hlt (by rw [V.plainL_eq]; simpa using hkl), putAll_snoc]
            have hpl : (V.plainL l)[k]'(by rw [V.plainL_eq]; simpa using hkl) = (l[k]).plain := by simp [V.plainL_eq]
            rw [hpl]
            exact (hes.mv ((hE2.mv _).grown hg3 (by simp))).put (hy.mv ((Mv.refl _ _).grown hg3 (by simp)))
        case measure => simp [intOf]; omega
      · clear h4 h5
        go_wp2_with fail
        go_roundw
        case rel =>
          refine ⟨k + 1, by omega, by go_num, hE, hbox, es, hm, ?_⟩
          rw [zip_take_ge (by rw [V.plainL_eq]; simp; omega)]
          exact hes
        case measure => simp [intOf]; omega
    · go_wp2_with fail
      rw [List.take_of_length_le (by simp; omega)] at hes
      exact hR'.out _ _ es hE (by omega) hm hes


theorem plainEnts_len (keys : List ByteArray) (l : List V) : (plainEnts keys l).length ≤ l.length := by
  have h1 := putAll_length (keys.zip (V.plainL l))
  simp only [List.length_zip, V.plainL_eq, List.length_map] at h1
  simp only [plainEnts, V.plainL_eq]
  omega
theorem plainEnts_small {keys : List ByteArray} {l : List V} {N : Nat} (h : ∀ k ∈ keys, k.size ≤ N) : ∀ p ∈ plainEnts keys l, p.1.size ≤ N := by
  intro p hp
  have h1 := putAll_mem _ p hp
  obtain ⟨q, hq, e⟩ := List.mem_map.1 h1
  exact h _ (e ▸ (List.of_mem_zip hq).1)
theorem putEnt_in {α : Type} {k : ByteArray} {v : α} {p : ByteArray × α} : ∀ {es : EntsOfT α}, p ∈ putEnt k v es → p = (k, v) ∨ p ∈ es
  | [], h => .inl (by simpa [putEnt] using h)
  | e :: es, h => by
    simp only [putEnt] at h
    split at h
    · rcases List.mem_cons.1 h with h | h
      · exact .inl h
      · exact .inr (by simp [h])
    · rcases List.mem_cons.1 h with h | h
      · exact .inr (by simp [h])
      · rcases putEnt_in h with h | h
        · exact .inl h
        · exact .inr (by simp [h])

set_option maxRecDepth 100000 in
set_option maxHeartbeats 1000000 in
theorem newValue2_c {w : World} {x : Value} (hone : x.oneCell' = true) (R : Ending → World → Prop) (hR : ∀ w' b, Ext w w' → w'.heap[b]? = some (.cells #[x] 135 (0, 0)) → R (.returned (.iface 114 (.pointer (some ⟨b, 0, none⟩)))) w') :
    Calls Try.prog 36 #[x] w R := by
  have hR' := Lib.hid hR
  clear hR
  go_enter Try.func36, Try.ntmps36
  go_wp2_with (first | refine wpL_init1 rfl 20 _ _ rfl Try.info20 rfl (by simp) rfl hone (by decide) rfl ?_ | go_in)
  refine hR'.out _ _ ((Ext.alloc _ _).push _) ?_
  show ((w.heap.push _).push _)[_]? = _
  rw [push_get, if_pos (by simp)]

set_option maxRecDepth 100000 in
set_option maxHeartbeats 1000000 in
theorem asMapUsing2_c {w : World} {r : Nat} {al : Value} (R : Ending → World → Prop) (hR : ∀ w', Ext w w' → R (.returned (.iface 183 (.map (some r)))) w') :
    Calls Try.prog 84 #[.agg #[.iface 86 (.map (some r))], al] w R := by
  have hR' := Lib.hid hR
  clear hR
  go_enter Try.func84, Try.ntmps84
  go_wp2_with fail
  exact hR'.out _ (.alloc _ _)

set_option maxRecDepth 100000 in
set_option maxHeartbeats 1000000 in
theorem asMap2_c {w : World} {r : Nat} (R : Ending → World → Prop) (hR : ∀ w', Ext w w' → R (.returned (.iface 183 (.map (some r)))) w') :
    Calls Try.prog 83 #[.agg #[.iface 86 (.map (some r))]] w R := by
  have hR' := Lib.hid hR
  clear hR
  go_enter Try.func83, Try.ntmps83
  go_wp2_with fail
  refine abs2 (G := fun wr => Calls _ _ _ wr _) ?_
  intro w1 hE1 hb1 hb2 hs1
  clear hb1 hb2 hs1
  refine asMapUsing2_c _ ?_
  intro w2 hE2
  dsimp only
  go_wp2_with fail
  exact hR'.out _ (hE1.trans hE2)

@[go_sem] theorem meth_mSet (n r : Nat) (w : World) : (method (n + 1) 183 (.map (some r)) "Set").run Try.prog w = .ok (105, .map (some r)) w := by kernel_rfl
@[go_sem] theorem meth_mGet (n r : Nat) (w : World) : (method (n + 1) 183 (.map (some r)) "Get").run Try.prog w = .ok (99, .map (some r)) w := by kernel_rfl
@[go_sem] theorem meth_mHas (n r : Nat) (w : World) : (method (n + 1) 183 (.map (some r)) "Has").run Try.prog w = .ok (101, .map (some r)) w := by kernel_rfl

/-- a tree taken apart, or the zero value -/
def optV : Option T → V
  | none => .mk 0 0 0 ⟨#[]⟩ [] []
  | some t => t.back

set_option maxRecDepth 100000 in
set_option maxHeartbeats 1000000 in
theorem fromOpt_c {w : World} {X : List Nat} {v : Value} {o : Option T} (hv : OptVal w X v o) (hX : Old X w) (R : Ending → World → Prop) (hR : ∀ w' cs, Ext w w' → IsV w' X cs (optV o) → R (.returned (.agg cs.toArray)) w') :
    Calls Try.prog 19 #[v] w R := by
  cases o with
  | some t => exact fromValue_c hv hX R hR
  | none =>
    obtain rfl : v = .nilIface := hv
    have hR' := Lib.hid hR
    clear hR hX
    go_enter Try.func19, Try.ntmps19
    go_wp2_with fail
    refine bodyPost_ret (by simp [results, Try.results19, go_sem]; try rfl) rfl ?_
    refine hR'.out _ [_, _, _, _, _, _] (.alloc _ _) ?_
    simp only [optV]
    refine IsV.of (by decide) ?_ ?_ ?_ (IsStrs.nil _ _) (IsVs.nil _ _)
    all_goals first | decide | assumption

end Go.Proofs.Ytnndacgokehkpaa
