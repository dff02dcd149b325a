/- value.unorderedMapZip, value.MapEquals, impl.EqualMaps, spec.CompareMaps. (printed by gen_mapsf.py) -/
import Derived.Test.YtamcgcncghabhaaMapsE
namespace Go.Proofs.Ytamcgcncghabhaa
open Go.RowKit
set_option linter.unusedSimpArgs false

set_option maxRecDepth 100000 in
set_option maxHeartbeats 4000000 in
set_option pp.maxSteps 1000000 in
set_option pp.deepTerms true in
theorem unordZip_c {w : World} {r1 r2 b3 : Nat} {al : Value} {P Q : EntsOfT T} (h1 : IsTm w [] r1 P) (h2 : IsTm w [] r2 Q) (hal : IsAl al) (ca : w.cell? ⟨b3, 0, none⟩ = some al) (hlen : P.length = Q.length) (R : Ending → World → Prop) (hR : ∀ b w', Ext w w' → (b = true ↔ ZE P Q) → R (.returned (.bool b)) w') :
    Calls Try.prog 158 #[al, .iface 178 (.map (some r1)), .iface 178 (.map (some r2)), fnV b3] w R := by
  have hmf : ∀ (fn : Fn) (first cap : Array Value) (w : World), (Instr.makeFunc fn first cap).run Try.prog w = .ok (.func fn first cap) w := fun _ _ _ _ => rfl
  obtain ⟨ab, rfl⟩ := hal
  obtain ⟨us1, hu1, hl1⟩ := h1.len
  obtain ⟨us2, hu2, hl2⟩ := h2.len
  have h1' := Lib.hid h1
  have h2' := Lib.hid h2
  have hR' := Lib.hid hR
  have hu1' := Lib.hid hu1
  have hu2' := Lib.hid hu2
  have hl1' := Lib.hid hl1
  have hl2' := Lib.hid hl2
  have hlen' := Lib.hid hlen
  clear h1 h2 hR hu1 hu2 hl1 hl2 hlen
  by_cases hz : P.length = 0
  · have hz1 : ((us1.length : Int) == 0) = true := by have := hl1'.out; simp; exact List.eq_nil_of_length_eq_zero (by omega)
    have hz2 : ((us2.length : Int) == 0) = true := by have := hl2'.out; have := hlen'.out; simp; exact List.eq_nil_of_length_eq_zero (by omega)
    have hP : P = [] := List.eq_nil_of_length_eq_zero hz
    have hQ : Q = [] := List.eq_nil_of_length_eq_zero (by have := hlen'.out; omega)
    have hze : ZE P Q := by subst hP; subst hQ; exact ⟨fun i h => by simp at h, fun j h => by simp at h⟩
    have hze' := Lib.hid hze
    have hz1' := Lib.hid hz1
    have hz2' := Lib.hid hz2
    clear hz hP hQ hze hz1 hz2
    go_enter Try.func158, Try.ntmps158
    go_wp2_with fail
    refine abs4 (G := fun wr => Calls _ _ _ wr _) ?_
    intro w1 hE1 hb1 hb2 hb3 hb4 hs1
    have c5 := cells_of hb2 0
    have c6 := cells_of hb3 0
    simp only [List.getElem?_toArray, List.getElem?_cons_zero] at c5 c6
    clear hb1 hb2 hb3 hb4 hs1
    refine mEmpty_c (hu1'.out.ext hE1) _ ?_
    rw [hz1'.out]
    dsimp only
    go_wp2_with fail
    refine mEmpty_c (hu2'.out.ext hE1) _ ?_
    rw [hz2'.out]
    dsimp only
    go_wp2_with fail
    exact hR'.out true _ hE1 ⟨fun _ => hze'.out, fun _ => rfl⟩
  · have hz1 : ((us1.length : Int) == 0) = false := by have := hl1'.out; rw [beq_eq_false_iff_ne]; omega
    have hz1' := Lib.hid hz1
    clear hz hz1
    go_enter Try.func158, Try.ntmps158
    go_wp2_with fail
    refine abs4 (G := fun wr => Calls _ _ _ wr _) ?_
    intro w1 hE1 hb1 hb2 hb3 hb4 hs1
    have c4 := cells_of hb1 0
    have c5 := cells_of hb2 0
    have c6 := cells_of hb3 0
    have c7 := cells_of hb4 0
    simp only [List.getElem?_toArray, List.getElem?_cons_zero] at c4 c5 c6 c7
    have ca1 := hE1.keep ca
    clear hb1 hb2 hb3 hb4 hs1
    refine mEmpty_c (hu1'.out.ext hE1) _ ?_
    rw [hz1'.out]
    dsimp only
    go_wp2_with fail
    refine iterate_c (X := []) (h1'.out.mv (hE1.mv [])) (Old.nil _) ⟨ab, rfl⟩ (un1_visit (Q := Q) ⟨ab, rfl⟩ ca1 c4 c6 c7 (h2'.out.mv (hE1.mv []))) _ ?_ ?_
    rotate_left
    · intro w2 B hM hs
      have hE2 : Ext w w2 := hE1.mutated hM (by simp)
      have hn : ¬ ZE P Q := fun h => by
        obtain ⟨i, hi, hf⟩ := hs
        rw [h.one i hi] at hf
        cases hf
      have hn' := Lib.hid hn
      clear hn hs hM
      dsimp only
      go_wp2_with fail
      exact hR'.out false _ hE2 ⟨fun h => (by cases h), fun h => absurd h hn'.out⟩
    intro w2 B don hM hinv hall
    have hone := Lib.hid (show ∀ i (h : i < P.length), qE (some (P[i]).2) (getEnt (P[i]).1 Q) = true from fun i h => hinv i (hall i h) h)
    have hE12 : Ext w1 w2 := (Ext.refl w1).mutated hM (by simp)
    replace ca1 := hE12.keep ca1
    replace c4 := hE12.keep c4
    replace c5 := hE12.keep c5
    replace c6 := hE12.keep c6
    replace c7 := hE12.keep c7
    replace hE1 := hE1.trans hE12
    clear hM hinv hall hE12
    dsimp only
    go_wp2_with fail
    refine iterate_c (X := []) (h2'.out.mv (hE1.mv [])) (Old.nil _) ⟨ab, rfl⟩ (un2_visit (P := P) ⟨ab, rfl⟩ ca1 c5 c7 (h1'.out.mv (hE1.mv []))) _ ?_ ?_
    · intro w3 B2 don2 hM hinv hall
      have hE3 : Ext w w3 := hE1.mutated hM (by simp)
      have hze := Lib.hid (show ZE P Q from ⟨hone.out, fun j h => hinv j (hall j h) h⟩)
      clear hM hinv hall
      dsimp only
      go_wp2_with fail
      exact hR'.out true _ hE3 ⟨fun _ => hze.out, fun _ => rfl⟩
    · intro w3 B2 hM hs
      have hE3 : Ext w w3 := hE1.mutated hM (by simp)
      have hn : ¬ ZE P Q := fun h => by
        obtain ⟨i, hi, hf⟩ := hs
        rw [h.two i hi] at hf
        cases hf
      have hn' := Lib.hid hn
      clear hn hs hM
      dsimp only
      go_wp2_with fail
      exact hR'.out false _ hE3 ⟨fun h => (by cases h), fun h => absurd h hn'.out⟩

set_option maxRecDepth 100000 in
set_option maxHeartbeats 4000000 in
set_option pp.maxSteps 1000000 in
set_option pp.deepTerms true in
theorem zip0_c {w : World} {r1 r2 b3 : Nat} {al : Value} {P Q : EntsOfT T} (h1 : IsTm w [] r1 P) (h2 : IsTm w [] r2 Q) (hal : IsAl al) (ca : w.cell? ⟨b3, 0, none⟩ = some al) (hlen : P.length = Q.length) (R : Ending → World → Prop) (hR : ∀ b w', Ext w w' → (b = true ↔ ZE P Q) → R (.returned (.bool b)) w') :
    Calls Try.prog 79 #[al, .iface 178 (.map (some r1)), .iface 178 (.map (some r2)), .int .i64 0, fnV b3] w R := by
  obtain ⟨ab, rfl⟩ := hal
  have h1' := Lib.hid h1
  have h2' := Lib.hid h2
  have hR' := Lib.hid hR
  have hlen' := Lib.hid hlen
  clear h1 h2 hR hlen
  go_enter Try.func79, Try.ntmps79
  go_wp2_with fail
  refine abs1 (G := fun wr => Calls _ _ _ wr _) ?_
  intro w1 hE1 hb1 hs1
  have ca1 := hE1.keep ca
  clear hb1 hs1
  go_enter Try.func155, Try.ntmps155
  go_wp2_with fail
  go_enter Try.func157, Try.ntmps157
  go_wp2_with fail
  refine unordZip_c (h1'.out.mv (hE1.mv [])) (h2'.out.mv (hE1.mv [])) ⟨ab, rfl⟩ ca1 hlen'.out _ ?_
  intro b w2 hE2 hb
  have hfin := Lib.hid (hR'.out b w2 (hE1.trans hE2) hb)
  clear hb
  dsimp only
  go_wp2_with fail
  exact hfin.out

set_option maxRecDepth 100000 in
set_option maxHeartbeats 4000000 in
set_option pp.maxSteps 1000000 in
set_option pp.deepTerms true in
theorem mapEqualsU_c {w : World} {r1 r2 : Nat} {al : Value} {P Q : EntsOfT T} (h1 : IsTm w [] r1 P) (h2 : IsTm w [] r2 Q) (hal : IsAl al) (R : Ending → World → Prop) (hR : ∀ b w', Ext w w' → (b = true ↔ P.length = Q.length ∧ ZE P Q) → R (.returned (.bool b)) w') :
    Calls Try.prog 87 #[al, .iface 178 (.map (some r1)), .iface 178 (.map (some r2))] w R := by
  have hmf : ∀ (fn : Fn) (first cap : Array Value) (w : World), (Instr.makeFunc fn first cap).run Try.prog w = .ok (.func fn first cap) w := fun _ _ _ _ => rfl
  obtain ⟨ab, rfl⟩ := hal
  obtain ⟨us1, hu1, hl1⟩ := h1.len
  obtain ⟨us2, hu2, hl2⟩ := h2.len
  obtain ⟨n1, hn1⟩ : ∃ n, us1.length = n := ⟨_, rfl⟩
  obtain ⟨n2, hn2⟩ : ∃ n, us2.length = n := ⟨_, rfl⟩
  have e1 : P.length = n1 := by rw [← hl1, hn1]
  have e2 : Q.length = n2 := by rw [← hl2, hn2]
  have h1' := Lib.hid h1
  have h2' := Lib.hid h2
  have hR' := Lib.hid hR
  have hn1' := Lib.hid hn1
  have hn2' := Lib.hid hn2
  have hu1' := Lib.hid hu1
  have hu2' := Lib.hid hu2
  have e1' := Lib.hid e1
  have e2' := Lib.hid e2
  clear h1 h2 hR hn1 hn2 hu1 hu2 hl1 hl2 e1 e2
  by_cases hne : n1 = n2
  · subst hne
    go_enter Try.func87, Try.ntmps87
    go_wp2_with fail
    refine abs1 (G := fun wr => Calls _ _ _ wr _) ?_
    intro w1 hE1 hb1 hs1
    have ca := cells_of hb1 0
    simp only [List.getElem?_toArray, List.getElem?_cons_zero] at ca
    clear hb1 hs1
    refine mLength_c (hu1'.out.ext hE1) _ ?_
    rw [hn1'.out]
    dsimp only
    go_wp2_with fail
    refine mLength_c (hu2'.out.ext hE1) _ ?_
    rw [hn2'.out]
    dsimp only
    go_wp2_with fail
    refine zip0_c (h1'.out.mv (hE1.mv [])) (h2'.out.mv (hE1.mv [])) ⟨ab, rfl⟩ ca (e1'.out.trans e2'.out.symm) _ ?_
    intro b w2 hE2 hb
    have hfin := Lib.hid (hR'.out b w2 (hE1.trans hE2) ⟨fun h => ⟨e1'.out.trans e2'.out.symm, hb.1 h⟩, fun h => hb.2 h.2⟩)
    clear hb
    dsimp only
    go_wp2_with fail
    exact hfin.out
  · have hneb : ((n1 : Int) != (n2 : Int)) = true := by rw [bne_iff_ne]; omega
    have hne' := Lib.hid hne
    clear hne
    go_enter Try.func87, Try.ntmps87
    go_wp2_with fail
    refine abs1 (G := fun wr => Calls _ _ _ wr _) ?_
    intro w1 hE1 hb1 hs1
    clear hb1 hs1
    refine mLength_c (hu1'.out.ext hE1) _ ?_
    rw [hn1'.out]
    dsimp only
    go_wp2_with fail
    refine mLength_c (hu2'.out.ext hE1) _ ?_
    rw [hn2'.out]
    dsimp only
    go_wp2_with fail
    exact hR'.out false _ hE1 ⟨fun h => (by cases h), fun h => absurd (e1'.out.symm.trans (h.1.trans e2'.out)) hne'.out⟩

set_option maxRecDepth 100000 in
set_option maxHeartbeats 4000000 in
set_option pp.maxSteps 1000000 in
set_option pp.deepTerms true in
theorem mapEqualsT_c {w : World} {X Y : List Nat} {v u : Value} {P Q : EntsOfT T} (hv : IsMp w X v P) (hu : IsMp w Y u Q) (R : Ending → World → Prop) (hR : ∀ b w', Ext w w' → (b = true ↔ P.length = Q.length ∧ ZE P Q) → R (.returned (.bool b)) w') :
    Calls Try.prog 65 #[v, u] w R := by
  obtain ⟨r1, rfl, h1⟩ := hv.ex
  obtain ⟨r2, rfl, h2⟩ := hu.ex
  have h1' := Lib.hid h1
  have h2' := Lib.hid h2
  have hR' := Lib.hid hR
  clear hR hv hu h1 h2
  go_enter Try.func65, Try.ntmps65
  go_wp2_with fail
  refine abs1 (G := fun wr => Calls _ _ _ wr _) ?_
  intro w1 hE1 hb1 hs1
  clear hb1 hs1
  refine mapEqualsU_c ((h1'.out.mv (hE1.mv X)).mv ((Mv.refl _ _).less (by simp))) ((h2'.out.mv (hE1.mv Y)).mv ((Mv.refl _ _).less (by simp))) ⟨_, rfl⟩ _ ?_
  intro b w2 hE2 hb
  have hfin := Lib.hid (hR'.out b w2 (hE1.trans hE2) hb)
  clear hb
  dsimp only
  go_wp2_with fail
  exact hfin.out

/-- what the walk finds is what equality of maps asks for -/
theorem ze_iff {P Q : EntsOfT T} (hP : (P.map (·.1)).Nodup) (hQ : (Q.map (·.1)).Nodup) : (P.length = Q.length ∧ ZE P Q) ↔ eqT (.map (P.map (·.1)) (P.map (·.2))) (.map (Q.map (·.1)) (Q.map (·.2))) = true := by
  have e : eqT (.map (P.map (·.1)) (P.map (·.2))) (.map (Q.map (·.1)) (Q.map (·.2))) = (decide (P.length = Q.length) && eqTm P (Q.map (·.1)) (Q.map (·.2))) := by
    simp only [eqT, zip_fst_snd]
  rw [e, Bool.and_eq_true, decide_eq_true_eq, eqTm_iff]
  have hz : (Q.map (·.1)).zip (Q.map (·.2)) = Q := zip_fst_snd Q
  have hget : ∀ {ts : EntsOfT T}, (ts.map (·.1)).Nodup → ∀ i (h : i < ts.length), getEnt (ts[i]).1 ts = some (ts[i]).2 := fun hn i h => by
    rw [getEnt_lookK]; exact lookK_at hn (List.getElem_mem h)
  have hmem : ∀ {ts : EntsOfT T} {k : ByteArray} {t : T}, getEnt k ts = some t → (k, t) ∈ ts := fun h => by rw [getEnt_lookK] at h; exact lookK_mem h
  constructor
  · rintro ⟨hl, z1, z2⟩
    refine ⟨hl, fun i hi => ?_⟩
    simp only [hz] at hi ⊢
    have h2 := z2 i hi
    obtain ⟨x, hx⟩ := Option.isSome_iff_exists.1 h2
    obtain ⟨j, hj, ej⟩ := List.getElem_of_mem (hmem hx)
    have h1 := z1 j hj
    rw [ej] at h1
    simp only at h1
    rw [hget hQ i hi] at h1
    simp only [inMap, hx]
    exact h1
  · rintro ⟨hl, hq⟩
    simp only [hz] at hq
    have h2 : ∀ j (h : j < Q.length), ∃ x, getEnt (Q[j]).1 P = some x ∧ eqT x (Q[j]).2 = true := fun j h => by
      have := hq j h
      simp only [inMap] at this
      cases hg : getEnt (Q[j]).1 P with
      | none => rw [hg] at this; cases this
      | some x => rw [hg] at this; exact ⟨x, rfl, this⟩
    have hsub : ∀ k ∈ Q.map (·.1), k ∈ P.map (·.1) := fun k hk => by
      obtain ⟨p, hp, rfl⟩ := List.mem_map.1 hk
      obtain ⟨j, hj, rfl⟩ := List.getElem_of_mem hp
      obtain ⟨x, hx, -⟩ := h2 j hj
      exact List.mem_map.2 ⟨_, hmem hx, rfl⟩
    have hsup : ∀ k ∈ P.map (·.1), k ∈ Q.map (·.1) := fun k hk => Classical.byContradiction fun hn => by
      have := nodup_le (l := k :: Q.map (·.1)) (G := P.map (·.1)) (List.nodup_cons.2 ⟨hn, hQ⟩) (fun x hx => by
        rcases List.mem_cons.1 hx with rfl | hx
        · exact hk
        · exact hsub x hx)
      simp at this
      omega
    refine ⟨hl, ⟨fun i hi => ?_, fun j hj => ?_⟩⟩
    · obtain ⟨q, hq1, hq2⟩ := List.mem_map.1 (hsup _ (List.mem_map.2 ⟨_, List.getElem_mem hi, rfl⟩))
      obtain ⟨j, hj, rfl⟩ := List.getElem_of_mem hq1
      obtain ⟨x, hx, hxe⟩ := h2 j hj
      rw [hq2, hget hP i hi] at hx
      rw [← hq2, hget hQ j hj]
      cases hx
      exact hxe
    · obtain ⟨x, hx, -⟩ := h2 j hj
      rw [hx]; rfl

set_option maxRecDepth 100000 in
set_option maxHeartbeats 4000000 in
set_option pp.maxSteps 1000000 in
set_option pp.deepTerms true in
theorem implEqualMaps_c {w : World} {X Y : List Nat} {cs ds : List Value} {k n : Int} {f : Nat} {s : ByteArray} {keys : List ByteArray} {l : List V} {k2 n2 : Int} {f2 : Nat} {s2 : ByteArray} {keys2 : List ByteArray} {l2 : List V} (ha : IsV w X cs (.mk k n f s keys l)) (hb : IsV w Y ds (.mk k2 n2 f2 s2 keys2 l2)) (R : Ending → World → Prop)
    (hR : Ends R w (.bool (V.eqP (V.clean (.mk 6 0 0 ⟨#[]⟩ keys l)) (V.clean (.mk 6 0 0 ⟨#[]⟩ keys2 l2))))) :
    Calls Try.prog 34 #[.agg cs.toArray, .agg ds.toArray] w R := by
  obtain ⟨x, rfl⟩ := ha.shape
  obtain ⟨y, rfl⟩ := hb.shape
  have ha' := Lib.hid (ha.mv ((Mv.refl _ _).less (Z := []) (by simp)))
  have hb' := Lib.hid (hb.mv ((Mv.refl _ _).less (Z := []) (by simp)))
  obtain ⟨v, hv⟩ : ∃ v, V.eqP (V.clean (.mk 6 0 0 ⟨#[]⟩ keys l)) (V.clean (.mk 6 0 0 ⟨#[]⟩ keys2 l2)) = v := ⟨_, rfl⟩
  rw [hv] at hR
  have hR' := Lib.hid hR
  have hv' := Lib.hid hv
  clear hR ha hb hv
  simp only [Cells6.list]
  go_enter Try.func34, Try.ntmps34
  go_wp2_with fail
  refine abs2 (G := Code.wp _ _ _ _) ?_
  intro w1 hE1 hb1 hb2 hs1
  have e0 : w1.cell? ⟨w.heap.size, 0, none⟩ = some (.int .i64 x.kind) := cells_of hb1 0; have e1 : w1.cell? ⟨w.heap.size, 1, none⟩ = some (.int .i64 x.n) := cells_of hb1 1; have e2 : w1.cell? ⟨w.heap.size, 2, none⟩ = some (.float .f64 x.f) := cells_of hb1 2; have e3 : w1.cell? ⟨w.heap.size, 3, none⟩ = some (.string x.s) := cells_of hb1 3; have e4 : w1.cell? ⟨w.heap.size, 4, none⟩ = some (.slice x.ko x.kn x.kc) := cells_of hb1 4; have e5 : w1.cell? ⟨w.heap.size, 5, none⟩ = some (.slice x.o x.m x.c) := cells_of hb1 5
  have f0 : w1.cell? ⟨w.heap.size + 1, 0, none⟩ = some (.int .i64 y.kind) := cells_of hb2 0; have f1 : w1.cell? ⟨w.heap.size + 1, 1, none⟩ = some (.int .i64 y.n) := cells_of hb2 1; have f2 : w1.cell? ⟨w.heap.size + 1, 2, none⟩ = some (.float .f64 y.f) := cells_of hb2 2; have f3 : w1.cell? ⟨w.heap.size + 1, 3, none⟩ = some (.string y.s) := cells_of hb2 3; have f4 : w1.cell? ⟨w.heap.size + 1, 4, none⟩ = some (.slice y.ko y.kn y.kc) := cells_of hb2 4; have f5 : w1.cell? ⟨w.heap.size + 1, 5, none⟩ = some (.slice y.o y.m y.c) := cells_of hb2 5
  clear hb1 hb2 hs1
  have hC : Ext w1 w1.drew := (Ext.refl _).drew
  refine wp_region_script [0, 2, 5] [1] (fun w' => Ext w1 w') [(.read, 0), (.read, 2), (.one, 1), (.one, 3), (.one, 4), (.pure, 5)] (by kernel_rfl) (by kernel_rfl) ?_
  (apply scr_read'; (· rfl); (· rfl); (· first | exact hC | exact (Ext.refl _).drew); (· (intro w' hw'; have e0_ := hw'.keep e0; have e1_ := hw'.keep e1; have e2_ := hw'.keep e2; have e3_ := hw'.keep e3; have e4_ := hw'.keep e4; have e5_ := hw'.keep e5; go_simp; try rfl)); (· (simp [go_sem]; try rfl)))
  (apply scr_read'; (· rfl); (· rfl); (· first | exact hC | exact (Ext.refl _).drew); (· (intro w' hw'; have f0_ := hw'.keep f0; have f1_ := hw'.keep f1; have f2_ := hw'.keep f2; have f3_ := hw'.keep f3; have f4_ := hw'.keep f4; have f5_ := hw'.keep f5; go_simp; try rfl)); (· (simp [go_sem]; try rfl)))
  refine scr_one rfl rfl (fun K hK => ?_)
  go_simp
  refine toMapping_c (X := []) (cs := x.list) (ha'.out.mv ((hE1.trans hC).mv _)) (Old.nil _) _ ?_
  intro w2 y1 hE2 h2
  have h2' := Lib.hid h2
  clear h2
  refine hK _ _ (fun _ => hC.trans hE2) ?_
  clear hK
  refine scr_one rfl rfl (fun K hK => ?_)
  go_simp
  refine toMapping_c (X := []) (cs := y.list) (hb'.out.mv ((hE1.trans (hC.trans hE2)).mv _)) (Old.nil _) _ ?_
  intro w3 y2 hE3 h3
  have h3' := Lib.hid h3
  clear h3
  refine hK _ _ (fun h => by simp at h) ?_
  clear hK
  refine scr_one rfl rfl (fun K hK => ?_)
  go_simp
  refine mapEqualsT_c (h2'.out.mv (hE3.mv _)) h3'.out _ ?_
  intro t w4 hE4 ht
  have htv : t = v := by
    rw [Bool.eq_iff_iff, ht, ← hv'.out, ← eqT_plain, plain_6, plain_6]
    exact ze_iff (putAll_nodup _) (putAll_nodup _)
  clear ht
  refine hK _ _ (fun h => by simp at h) ?_
  clear hK
  subst htv
  (apply scr_pure'; (· rfl); (· rfl); (· (intro w'; go_simp; try rfl)); (· (simp [go_sem]; try rfl)))
  refine scr_end ?_
  simp only [Exit.then]
  go_wp2_with fail
  exact hR'.out _ (hE1.trans (hC.trans (hE2.trans (hE3.trans hE4))))

set_option maxRecDepth 100000 in
set_option maxHeartbeats 4000000 in
set_option pp.maxSteps 1000000 in
set_option pp.deepTerms true in
theorem specCompareMaps_c {w : World} {X Y : List Nat} {cs ds : List Value} {k n : Int} {f : Nat} {s : ByteArray} {keys : List ByteArray} {l : List V} {k2 n2 : Int} {f2 : Nat} {s2 : ByteArray} {keys2 : List ByteArray} {l2 : List V} (ha : IsV w X cs (.mk k n f s keys l)) (hb : IsV w Y ds (.mk k2 n2 f2 s2 keys2 l2)) (R : Ending → World → Prop)
    (hR : Ends R w (.int .i64 (V.cmpP (V.clean (.mk 6 0 0 ⟨#[]⟩ keys l)) (V.clean (.mk 6 0 0 ⟨#[]⟩ keys2 l2))))) :
    Calls Try.prog 33 #[.agg cs.toArray, .agg ds.toArray] w R := by
  obtain ⟨x, rfl⟩ := ha.shape
  obtain ⟨y, rfl⟩ := hb.shape
  have ha' := Lib.hid (ha.mv ((Mv.refl _ _).less (Z := []) (by simp)))
  have hb' := Lib.hid (hb.mv ((Mv.refl _ _).less (Z := []) (by simp)))
  obtain ⟨v, hv⟩ : ∃ v, V.cmpP (V.clean (.mk 6 0 0 ⟨#[]⟩ keys l)) (V.clean (.mk 6 0 0 ⟨#[]⟩ keys2 l2)) = v := ⟨_, rfl⟩
  rw [hv] at hR
  have ht1 := clean_tidy (.mk 6 0 0 ⟨#[]⟩ keys l)
  have ht2 := clean_tidy (.mk 6 0 0 ⟨#[]⟩ keys2 l2)
  rw [clean_6, clean_6, cmpP_same' (by decide), if_neg (by decide), if_neg (by decide), if_neg (by decide), if_neg (by decide), if_pos (by decide)] at hv
  rw [clean_6] at ht1 ht2
  have hR' := Lib.hid hR
  have hv' := Lib.hid hv
  have ht1' := Lib.hid ht1
  have ht2' := Lib.hid ht2
  clear hR ha hb hv ht1 ht2
  simp only [Cells6.list]
  go_enter Try.func33, Try.ntmps33
  go_wp2_with fail
  refine abs2 (G := Code.wp _ _ _ _) ?_
  intro w1 hE1 hb1 hb2 hs1
  have e0 : w1.cell? ⟨w.heap.size, 0, none⟩ = some (.int .i64 x.kind) := cells_of hb1 0; have e1 : w1.cell? ⟨w.heap.size, 1, none⟩ = some (.int .i64 x.n) := cells_of hb1 1; have e2 : w1.cell? ⟨w.heap.size, 2, none⟩ = some (.float .f64 x.f) := cells_of hb1 2; have e3 : w1.cell? ⟨w.heap.size, 3, none⟩ = some (.string x.s) := cells_of hb1 3; have e4 : w1.cell? ⟨w.heap.size, 4, none⟩ = some (.slice x.ko x.kn x.kc) := cells_of hb1 4; have e5 : w1.cell? ⟨w.heap.size, 5, none⟩ = some (.slice x.o x.m x.c) := cells_of hb1 5
  have f0 : w1.cell? ⟨w.heap.size + 1, 0, none⟩ = some (.int .i64 y.kind) := cells_of hb2 0; have f1 : w1.cell? ⟨w.heap.size + 1, 1, none⟩ = some (.int .i64 y.n) := cells_of hb2 1; have f2 : w1.cell? ⟨w.heap.size + 1, 2, none⟩ = some (.float .f64 y.f) := cells_of hb2 2; have f3 : w1.cell? ⟨w.heap.size + 1, 3, none⟩ = some (.string y.s) := cells_of hb2 3; have f4 : w1.cell? ⟨w.heap.size + 1, 4, none⟩ = some (.slice y.ko y.kn y.kc) := cells_of hb2 4; have f5 : w1.cell? ⟨w.heap.size + 1, 5, none⟩ = some (.slice y.o y.m y.c) := cells_of hb2 5
  clear hb1 hb2 hs1
  have hC : Ext w1 w1.drew := (Ext.refl _).drew
  refine wp_region_script [0, 2, 5] [1] (fun w' => Ext w1 w') [(.read, 0), (.read, 2), (.one, 1), (.one, 3), (.one, 4), (.pure, 5)] (by kernel_rfl) (by kernel_rfl) ?_
  (apply scr_read'; (· rfl); (· rfl); (· first | exact hC | exact (Ext.refl _).drew); (· (intro w' hw'; have e0_ := hw'.keep e0; have e1_ := hw'.keep e1; have e2_ := hw'.keep e2; have e3_ := hw'.keep e3; have e4_ := hw'.keep e4; have e5_ := hw'.keep e5; go_simp; try rfl)); (· (simp [go_sem]; try rfl)))
  (apply scr_read'; (· rfl); (· rfl); (· first | exact hC | exact (Ext.refl _).drew); (· (intro w' hw'; have f0_ := hw'.keep f0; have f1_ := hw'.keep f1; have f2_ := hw'.keep f2; have f3_ := hw'.keep f3; have f4_ := hw'.keep f4; have f5_ := hw'.keep f5; go_simp; try rfl)); (· (simp [go_sem]; try rfl)))
  refine scr_one rfl rfl (fun K hK => ?_)
  go_simp
  refine cleanMap_of (X := []) (cs := x.list) (fun i _ => clean_all _) (ha'.out.mv ((hE1.trans hC).mv _)) (Old.nil _) _ ?_
  intro w2 cs2 hE2 h2
  obtain ⟨x2, rfl⟩ := h2.shape
  have h2' := Lib.hid h2
  clear h2
  refine hK _ _ (fun _ => hC.trans hE2) ?_
  clear hK
  refine scr_one rfl rfl (fun K hK => ?_)
  go_simp
  refine cleanMap_of (X := []) (cs := y.list) (fun i _ => clean_all _) (hb'.out.mv ((hE1.trans (hC.trans hE2)).mv _)) (Old.nil _) _ ?_
  intro w3 cs3 hE3 h3
  obtain ⟨y2, rfl⟩ := h3.shape
  have h3' := Lib.hid h3
  clear h3
  refine hK _ _ (fun h => by simp at h) ?_
  clear hK
  refine scr_one rfl rfl (fun K hK => ?_)
  go_simp
  refine comparePlainMaps_c (X := []) (Y := []) (cs := x2.list) (ds := y2.list) (fun i _ => comparePlain_c _) (h2'.out.mv (hE3.mv _)) h3'.out ht1'.out ht2'.out _ ?_
  rw [hv'.out]
  intro w4 hE4
  refine hK _ _ (fun h => by simp at h) ?_
  clear hK
  (apply scr_pure'; (· rfl); (· rfl); (· (intro w'; go_simp; try rfl)); (· (simp [go_sem]; try rfl)))
  refine scr_end ?_
  simp only [Exit.then]
  go_wp2_with fail
  exact hR'.out _ (hE1.trans (hC.trans (hE2.trans (hE3.trans hE4))))

end Go.Proofs.Ytamcgcncghabhaa
