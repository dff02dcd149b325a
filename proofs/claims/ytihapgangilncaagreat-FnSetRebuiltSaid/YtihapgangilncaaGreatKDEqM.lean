/- mapUnstructuredString.EqualsUsing. -/
import Derived.Test.YtihapgangilncaaGreatKDIterate
namespace Go.Proofs.YtihapgangilncaaGreat
open Go.RowKit

def inMap (es : EntsOfT T) (p : ByteArray × T) : Bool := match getEnt p.1 es with
  | some x => eqT x p.2
  | none => false

theorem eqTm_iff {es : EntsOfT T} : ∀ {ks : List ByteArray} {l : List T}, eqTm es ks l = true ↔ ∀ i (h : i < (ks.zip l).length), inMap es (ks.zip l)[i] = true
  | [], l => by cases l <;> simp [eqTm]
  | k :: ks, [] => by simp [eqTm]
  | k :: ks, y :: l => by
    have ih := @eqTm_iff es ks l
    have e : eqTm es (k :: ks) (y :: l) = (inMap es (k, y) && eqTm es ks l) := by simp [eqTm, inMap]; rfl
    rw [e, Bool.and_eq_true, ih]
    constructor
    · rintro ⟨h1, h2⟩ i hi
      cases i with
      | zero => exact h1
      | succ i => exact h2 i (by simpa using hi)
    · intro h
      exact ⟨h 0 (by simp), fun i hi => h (i + 1) (by simpa using hi)⟩

set_option maxRecDepth 100000 in
theorem zero_any : ∀ w, (zeroValue 20).run Tryz.prog w = .ok .nilIface w := fun _ => by kernel_rfl

set_option maxRecDepth 100000 in
theorem callFunc_eq1 (args : Array Value) (w : World) : (callFunc 282 args).run Tryz.prog w = .ok (.enter 282 args) w := rfl

set_option maxRecDepth 100000 in
set_option maxHeartbeats 4000000 in
set_option pp.maxSteps 1000000 in
set_option pp.deepTerms true in
theorem eqFn_c {w : World} {r1 bm ba bv vvb : Nat} {al val x0 : Value} {es : EntsOfT T} {k : ByteArray} {t : T} (ih : EqC t) (hal : IsAl al) (h1 : IsTm w [vvb] r1 es) (hval : IsVal w [vvb] val t)
    (c0 : w.cell? ⟨bm, 0, none⟩ = some (.map (some r1))) (c1 : w.cell? ⟨ba, 0, none⟩ = some al) (c2 : w.cell? ⟨bv, 0, none⟩ = some (.pointer (some ⟨vvb, 0, none⟩))) (c3 : w.heap[vvb]? = some (.cells #[x0] 292 (0, 0)))
    (hn0 : ba ≠ vvb) (hn1 : bv ≠ vvb) (K : Ending → World → Prop) (hK : ∀ w2, Mut w [vvb] w2 → (∃ x, w2.heap[vvb]? = some (.cells #[x] 292 (0, 0))) → K (.returned (.bool (inMap es (k, t)))) w2) :
    Calls Tryz.prog 282 #[.string k, val, .pointer (some ⟨bm, 0, none⟩), .pointer (some ⟨ba, 0, none⟩), .pointer (some ⟨bv, 0, none⟩)] w K := by
  obtain ⟨⟨us, hm1, hm2⟩, hrX, hb, hks⟩ := id h1
  have hlk := fun w' (h : IsMap w' r1 us) => run_lookup_ents_ok (P := Tryz.prog) (w := w') Tryz.underlying362 Tryz.underlying9 h k .nilIface (zero_any w')
  have hlw := hlk w hm1
  have hK' := Lib.hid hK
  have hval' := Lib.hid hval
  have h1' := Lib.hid h1
  have ih' := Lib.hid ih
  clear hK hval h1 ih hlk
  rcases hm2.find k with ⟨g1, g2⟩ | ⟨x, u, g1, g2, g3⟩
  · have hin : inMap es (k, t) = false := by simp [inMap, g2]
    rw [g1] at hlw
    have hin' := Lib.hid hin
    clear hin g1 g2 hm2
    go_enter Tryz.func282, Tryz.ntmps282
    go_wp2_with fail
    have := hK'.out w ((Ext.refl w).mut _) ⟨_, c3⟩
    rw [hin'.out] at this
    exact this
  · have hin : inMap es (k, t) = eqT u t := by simp [inMap, g2]
    have hone := g3.one
    rw [g1] at hlw
    have hin' := Lib.hid hin
    have g3' := Lib.hid g3
    clear hin g1 g2 hm2 g3
    go_enter Tryz.func282, Tryz.ntmps282
    go_wp2_with fail
    refine wp_region_script [0, 1, 2, 4, 6] [3] (fun w' => w'.cell? ⟨ba, 0, none⟩ = some al ∧ w'.cell? ⟨bv, 0, none⟩ = some (.pointer (some ⟨vvb, 0, none⟩))) [(.read, 0), (.read, 1), (.pure, 2), (.pure, 4), (.one, 3), (.one, 5), (.pure, 6)] (by kernel_rfl) (by kernel_rfl) ?_
    have hC : w.drew.cell? ⟨ba, 0, none⟩ = some al ∧ w.drew.cell? ⟨bv, 0, none⟩ = some (.pointer (some ⟨vvb, 0, none⟩)) := ⟨c1, c2⟩
    (apply scr_read'; (· rfl); (· rfl); (· exact hC); (· (intro w' hw'; obtain ⟨q1, q2⟩ := hw'; go_simp; try rfl)); (· (simp [go_sem]; try rfl)))
    (apply scr_read'; (· rfl); (· rfl); (· exact hC); (· (intro w' hw'; obtain ⟨q1, q2⟩ := hw'; go_simp; try rfl)); (· (simp [go_sem]; try rfl)))
    (apply scr_pure'; (· rfl); (· rfl); (· (intro w'; go_simp; try rfl)); (· (simp [go_sem]; try rfl)))
    (apply scr_pure'; (· rfl); (· rfl); (· (intro w'; go_simp; try rfl)); (· (simp [go_sem]; try rfl)))
    refine scr_one rfl rfl (fun K2 hK2 => ?_)
    go_simp
    refine reuse_c (w := w.drew) (x := x0) c3 hone _ ?_
    intro w3 hh3 hg3
    have hM3 : Mut w [vvb] w3 := ((Ext.refl w).drew.mut _).trans (grown_mut hg3 (by simp))
    refine hK2 _ _ (fun _ => ⟨grown_keep hg3 hC.1 hn0, grown_keep hg3 hC.2 hn1⟩) ?_
    clear hK2
    refine scr_one rfl rfl (fun K2 hK2 => ?_)
    go_simp
    refine ih'.out w3 [] [vvb] u _ _ _ ⟨vvb, x, rfl, hh3, by simp, g3'.out.mv ((hM3.mv (X := [vvb]) (fun _ h => h)).less (by simp))⟩ (hval'.out.mv (hM3.mv (fun _ h => h))) hal _ ?_
    intro w4 hE4
    refine hK2 _ _ (fun h => by simp at h) ?_
    clear hK2
    (apply scr_pure'; (· rfl); (· rfl); (· (intro w'; go_simp; try rfl)); (· (simp [go_sem]; try rfl)))
    refine scr_end ?_
    simp only [Exit.then]
    go_wp2_with fail
    have := hK'.out w4 (hM3.trans (hE4.mut _)) ⟨_, (hE4.below.block _ (Array.getElem?_eq_some_iff.1 hh3).1).trans hh3⟩
    rw [hin'.out] at this
    exact this

theorem eq_visit {w : World} {r1 bm ba bv vvb : Nat} {al x0 : Value} {es ts : EntsOfT T} (ih : ∀ i (h : i < ts.length), EqC (ts[i]).2) (hal : IsAl al) (h1 : IsTm w [vvb] r1 es)
    (c0 : w.cell? ⟨bm, 0, none⟩ = some (.map (some r1))) (c1 : w.cell? ⟨ba, 0, none⟩ = some al) (c2 : w.cell? ⟨bv, 0, none⟩ = some (.pointer (some ⟨vvb, 0, none⟩))) (c3 : w.heap[vvb]? = some (.cells #[x0] 292 (0, 0)))
    (hn : bm ≠ vvb) (hn0 : ba ≠ vvb) (hn1 : bv ≠ vvb) :
    Visit w [vvb] ts 282 #[.pointer (some ⟨bm, 0, none⟩), .pointer (some ⟨ba, 0, none⟩), .pointer (some ⟨bv, 0, none⟩)]
      (fun _ don w1 => (∀ i ∈ don, ∀ h : i < ts.length, inMap es ts[i] = true) ∧ ∃ x, w1.heap[vvb]? = some (.cells #[x] 292 (0, 0))) (fun _ _ => ∃ i, ∃ h : i < ts.length, inMap es ts[i] = false) where
  start := fun B w1 hE _ => ⟨(fun i hi => by cases hi), x0, (hE.below.block _ (Array.getElem?_eq_some_iff.1 c3).1).trans c3⟩
  keep := fun B don w1 w2 hB ⟨h1, x, h2⟩ hM => ⟨h1, x, (hM.block _ (Array.getElem?_eq_some_iff.1 h2).1 (fun h => by have := hB _ h; have := (Array.getElem?_eq_some_iff.1 c3).1; omega)).trans h2⟩
  step := fun B don i hi w1 val hni hB hoB hM ⟨g1, x, g2⟩ hval K hK => by
    have hmv : Mv w [vvb] w1 [vvb] := hM.mv (fun _ h => h)
    refine eqFn_c (ih i hi) hal (h1.mv hmv) hval (hmv.cell (by simpa using hn) c0).1 (hmv.cell (by simpa using hn0) c1).1 (hmv.cell (by simpa using hn1) c2).1 g2 hn0 hn1 K fun w2 hM2 hx => ?_
    refine hK w2 _ (hM.trans hM2) hM2.size (fun k hk => hM2.block k (hoB k hk) (fun h => by have := hB k hk; rw [List.mem_singleton] at h; subst h; have := (Array.getElem?_eq_some_iff.1 c3).1; omega)) (fun hb => ⟨fun j hj h => ?_, hx⟩) (fun hb => ⟨i, hi, hb⟩)
    rw [List.mem_append, List.mem_singleton] at hj
    rcases hj with hj | rfl
    · exact g1 j hj h
    · exact hb
  enter := callFunc_eq1

theorem mLength_c {w : World} {r : Nat} {es : Ents} (hm : IsMap w r es) (R : Ending → World → Prop) (hR : R (.returned (.int .i64 es.length)) w) : Calls Tryz.prog 278 #[.map (some r)] w R := by
  have hl := run_len_ents (P := Tryz.prog) Tryz.underlying362 3 hm
  have hR' := Lib.hid hR
  clear hR
  go_enter Tryz.func278, Tryz.ntmps278
  go_wp2_with fail
  exact hR'.out
@[go_sem] theorem meth_mIterateUsing (n r : Nat) (w : World) : (method (n + 1) 362 (.map (some r)) "IterateUsing").run Tryz.prog w = .ok (277, .map (some r)) w := by kernel_rfl
theorem IsTm.len {w : World} {X : List Nat} {r : Nat} {ts : EntsOfT T} (h : IsTm w X r ts) : ∃ es, IsMap w r es ∧ es.length = ts.length := by
  obtain ⟨⟨es, h1, h2⟩, _⟩ := h
  exact ⟨es, h1, h2.length⟩
set_option maxRecDepth 100000 in
set_option maxHeartbeats 4000000 in
set_option pp.maxSteps 1000000 in
set_option pp.deepTerms true in
theorem mapEquals_c {w : World} {r1 r2 : Nat} {al : Value} {es : EntsOfT T} {keys : List ByteArray} {l : List T} (ih : ∀ i (h : i < (keys.zip l).length), EqC (keys.zip l)[i].2) (hal : IsAl al) (h1 : IsTm w [] r1 es) (h2 : IsTm w [] r2 (keys.zip l))
    (R : Ending → World → Prop) (hR : Ends R w (.bool (decide (es.length = (keys.zip l).length) && eqTm es keys l))) :
    Calls Tryz.prog 272 #[.map (some r1), al, .iface 362 (.map (some r2))] w R := by
  have hmf : ∀ (fn : Fn) (first cap : Array Value) (w : World), (Instr.makeFunc fn first cap).run Tryz.prog w = .ok (.func fn first cap) w := fun _ _ _ _ => rfl
  obtain ⟨us1, hu1, hl1⟩ := h1.len
  obtain ⟨us2, hu2, hl2⟩ := h2.len
  obtain ⟨n1, hn1⟩ : ∃ n, us1.length = n := ⟨_, rfl⟩
  obtain ⟨n2, hn2⟩ : ∃ n, us2.length = n := ⟨_, rfl⟩
  obtain ⟨ab, rfl⟩ := hal
  have h1' := Lib.hid h1
  have h2' := Lib.hid h2
  have hR' := Lib.hid hR
  have ih' := Lib.hid ih
  have hn1' := Lib.hid hn1
  have hn2' := Lib.hid hn2
  have hl1' := Lib.hid hl1
  have hl2' := Lib.hid hl2
  have hu1' := Lib.hid hu1
  have hu2' := Lib.hid hu2
  clear hR h1 h2 ih hn1 hn2 hl1 hl2 hu1 hu2
  have e12 : es.length = n1 := by rw [← hn1'.out, hl1'.out]
  have e22 : (keys.zip l).length = n2 := by rw [← hn2'.out, hl2'.out]
  rw [e12, e22] at hR'
  have e12' := Lib.hid e12
  have e22' := Lib.hid e22
  clear e12 e22
  by_cases hlen : n1 = n2
  · subst hlen
    by_cases hz : n1 = 0
    · subst hz
      have hd : (decide (0 = 0) && eqTm es keys l) = true := by
        rw [decide_eq_true rfl, Bool.true_and]
        exact eqTm_iff.2 fun i hi => by have := e22'.out; omega
      have hd' := Lib.hid hd
      clear hd
      go_enter_defers Tryz.func272, Tryz.ntmps272
      go_wp2_with fail
      refine abs2 (G := fun wr => Calls _ _ _ wr _) ?_
      intro w1 hE1 hb1 hb2 hs1
      have hs1' := Lib.hid hs1
      clear hs1
      refine mLength_c (hu1'.out.ext hE1) _ ?_
      rw [hn1'.out]
      have c0 := cells_of hb1 0
      have c1 := cells_of hb2 0
      simp only [List.getElem?_toArray, List.getElem?_cons_zero] at c0 c1
      dsimp only
      go_wp2_with fail
      refine mLength_c (hu2'.out.ext hE1) _ ?_
      rw [hn2'.out]
      dsimp only
      go_wp2_with fail
      refine leaves_free (by simp [results, Tryz.results272, go_sem]; try rfl) (hR'.out.bool hd'.out _ hE1) _ (by simp)
    · have hz' : ((n1 : Int) == 0) = false := by rw [beq_eq_false_iff_ne]; omega
      have hz0 := Lib.hid hz
      clear hz
      go_enter_defers Tryz.func272, Tryz.ntmps272
      go_wp2_with fail
      refine abs2 (G := fun wr => Calls _ _ _ wr _) ?_
      intro w1 hE1 hb1 hb2 hs1
      have hs1' := Lib.hid hs1
      clear hs1
      refine mLength_c (hu1'.out.ext hE1) _ ?_
      rw [hn1'.out]
      have c0 := cells_of hb1 0
      have c1 := cells_of hb2 0
      simp only [List.getElem?_toArray, List.getElem?_cons_zero] at c0 c1
      dsimp only
      go_wp2_with fail
      refine mLength_c (hu2'.out.ext hE1) _ ?_
      rw [hn2'.out]
      dsimp only
      go_wp2_with fail
      refine allocValue_c _ ?_
      intro w2 hE2 hb3
      have hE12 := hE1.trans hE2
      replace c0 := hE2.keep c0; replace c1 := hE2.keep c1
      dsimp only
      go_wp2_with fail
      refine abs1 (G := fun wr => Code.wp _ _ _ _ wr) ?_
      intro w3 hE3 hb4 hs3
      have hE13 := hE12.trans hE3
      replace c0 := hE3.keep c0; replace c1 := hE3.keep c1
      have c2 := cells_of hb4 0
      simp only [List.getElem?_toArray, List.getElem?_cons_zero] at c2
      have hb3' := (hE3.below.block _ (Array.getElem?_eq_some_iff.1 hb3).1).trans hb3
      have hl2 := hE2.size
      have hl1 := hs1'.out
      have hl3 := (Array.getElem?_eq_some_iff.1 hb3).1
      have hl1' := Lib.hid hl1
      clear hs3 hb4 hb3 hb1 hb2 hE2 hE3 hl1
      have hC : Ext w3 w3.drew := (Ext.refl _).drew
      refine wp_region_script [0, 1, 2, 3] [] (fun w' => Ext w3 w') [(.read, 0), (.pure, 1), (.read, 2), (.pure, 3), (.one, 4)] (by kernel_rfl) (by kernel_rfl) ?_
      (apply scr_read'; (· rfl); (· rfl); (· first | exact hC | exact (Ext.refl _).drew); (· (intro w' hw'; have c1_ := hw'.keep c1; go_simp; try rfl)); (· (simp [go_sem]; try rfl)))
      (apply scr_pure'; (· rfl); (· rfl); (· (intro w'; go_simp; try rfl)); (· (simp [go_sem]; try rfl)))
      (apply scr_read'; (· rfl); (· rfl); (· first | exact hC | exact (Ext.refl _).drew); (· (intro w' hw'; have c2_ := hw'.keep c2; go_simp; try rfl)); (· (simp [go_sem]; try rfl)))
      (apply scr_pure'; (· rfl); (· rfl); (· (intro w'; go_simp; try rfl)); (· (simp [go_sem]; try rfl)))
      refine scr_one rfl rfl (fun K2 hK2 => ?_)
      go_simp
      refine hK2 _ _ (fun h => by simp at h) ?_
      clear hK2
      refine scr_end ?_
      simp only [Exit.then]
      replace c0 := hC.keep c0; replace c1 := hC.keep c1; replace c2 := hC.keep c2
      have hE4 := hE13.trans hC
      have hb5 := (hC.below.block _ (Array.getElem?_eq_some_iff.1 hb3').1).trans hb3'
      clear hE1 hE12 hE13 hb3' hC
      go_wp2_with fail
      refine iterate_c (X := [w1.heap.size]) (h2'.out.mv ((hE4.mv []).more (by have := hl1'.out; omega))) (Old.cons (Array.getElem?_eq_some_iff.1 hb5).1 (Old.nil _)) ⟨ab, rfl⟩
        (eq_visit (x0 := .nilIface) ih'.out ⟨ab, rfl⟩ (h1'.out.mv ((hE4.mv []).more (by have := hl1'.out; omega))) c0 c1 c2 hb5 (by have := hl1'.out; omega) (by have := hl1'.out; omega) (by omega)) _ ?_ ?_
      · intro w5 B don hM hinv hall
        have hd : (decide (n1 = n1) && eqTm es keys l) = true := by
          rw [decide_eq_true rfl, Bool.true_and]
          exact eqTm_iff.2 fun i hi => hinv.1 i (hall i hi) hi
        have hE5 : Ext w w5 := hE4.mutated hM (by have := hl1'.out; simp; omega)
        have hd' := Lib.hid hd
        clear hd hinv hall
        dsimp only
        go_wp2_with fail
        refine leaves_free (by simp [results, Tryz.results272, go_sem]; try rfl) (hR'.out.bool hd'.out _ hE5) _ (by simp [freeD])
      · intro w5 B hM hs
        have hd : (decide (n1 = n1) && eqTm es keys l) = false := by
          rw [decide_eq_true rfl, Bool.true_and, Bool.eq_false_iff]
          intro h
          obtain ⟨i, hi, hf⟩ := hs
          rw [eqTm_iff.1 h i hi] at hf
          cases hf
        have hE5 : Ext w w5 := hE4.mutated hM (by have := hl1'.out; simp; omega)
        have hd' := Lib.hid hd
        clear hd hs
        dsimp only
        go_wp2_with fail
        refine leaves_free (by simp [results, Tryz.results272, go_sem]; try rfl) (hR'.out.bool hd'.out _ hE5) _ (by simp [freeD])
  · go_enter_defers Tryz.func272, Tryz.ntmps272
    go_wp2_with fail
    refine abs2 (G := fun wr => Calls _ _ _ wr _) ?_
    intro w1 hE1 hb1 hb2 hs1
    have hs1' := Lib.hid hs1
    clear hs1
    refine mLength_c (hu1'.out.ext hE1) _ ?_
    rw [hn1'.out]
    have c0 := cells_of hb1 0
    have c1 := cells_of hb2 0
    simp only [List.getElem?_toArray, List.getElem?_cons_zero] at c0 c1
    dsimp only
    go_wp2_with fail
    refine mLength_c (hu2'.out.ext hE1) _ ?_
    rw [hn2'.out]
    dsimp only
    go_wp2_with fail
    refine leaves_free (by simp [results, Tryz.results272, go_sem]; try rfl) (hR'.out.bool (by simp [hlen]) _ hE1) _ (by simp)

set_option maxRecDepth 100000 in
set_option maxHeartbeats 4000000 in
theorem listEqualsM_c {w : World} {s1 s2 al : Value} {ms ls : List T} (ih : ∀ i (h : i < ls.length), EqC ls[i]) (h1 : IsTs w [] s1 ms) (h2 : IsTs w [] s2 ls) (hal : IsAl al)
    (R : Ending → World → Prop) (hR : Ends R w (.bool (decide (ms.length = ls.length) && eqTs ms ls))) :
    Calls Tryz.prog 264 #[s1, al, .iface 361 s2] w R := by
  have hone : s1.oneCell' = true := by obtain ⟨b, o, c, rfl, _⟩ := h1.ex; rfl
  obtain ⟨b1, f1, k1, rfl, -⟩ := id h1.ex
  have h1' := Lib.hid h1
  have h2' := Lib.hid h2
  have hR' := Lib.hid hR
  have ih' := Lib.hid ih
  clear hR h1 h2 ih
  go_enter Tryz.func264, Tryz.ntmps264
  go_wp2_with fail
  refine abs1 (G := fun wr => Calls _ _ _ wr _) ?_
  intro w1 hE1 hb1 hs1
  refine listEquals_c ih'.out hb1 (h1'.out.mv (hE1.mv _)) (h2'.out.mv (hE1.mv _)) hal _ ?_
  intro w2 hE2
  dsimp only
  go_wp2_with fail
  exact hR'.out _ (hE1.trans hE2)
@[go_sem] theorem meth_lEqualsUsing (n c m : Nat) (o : Option Addr) (w : World) : (method (n + 1) 361 (.slice o m c) "EqualsUsing").run Tryz.prog w = .ok (264, .slice o m c) w := by kernel_rfl
@[go_sem] theorem meth_mEqualsUsing (n r : Nat) (w : World) : (method (n + 1) 362 (.map (some r)) "EqualsUsing").run Tryz.prog w = .ok (272, .map (some r)) w := by kernel_rfl
end Go.Proofs.YtihapgangilncaaGreat
