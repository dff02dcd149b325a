/- ManagedFields.Equals. impl.EqualManagers; the two comparisons say the same (plain). The law FnEqualManagers. -/
import Derived.Test.YtihapgangilncaaGreatKGMgrB
import Derived.Test.YtihapgangilncaaGreatKGEqM
import Derived.Test.YtihapgangilncaaGreatKGSetEq
import Derived.Test.YtihapgangilncaaGreatKGSetP
import Derived.Test.YtihapgangilncaaGreatKGPar
import Derived.Test.YtihapgangilncaaGreatKGMgrD
namespace Go.Proofs.YtihapgangilncaaGreat
open Go.RowKit
set_option linter.unusedSimpArgs false

section
variable {P : Program} {w : World}
theorem run_method_dir {t : TypeId} {name : String} {fid : FuncId} {rv : Value} {fs : Array Field} (n : Nat)
    (h1 : (P.info? t).bind (fun i => (i.methods.find? (·.name == name)).map (fun m => (m.path.toList, m.func))) = some ([], some (fid, false))) (hu : P.underlying t = some (.struct fs)) : (method (n + 1) t rv name).run P w = .ok (fid, rv) w := by
  obtain ⟨i, hi, h2⟩ := Option.bind_eq_some_iff.1 h1
  obtain ⟨m, hm, h3⟩ := Option.map_eq_some_iff.1 h2
  simp only [Prod.mk.injEq] at h3
  obtain ⟨h3, h4⟩ := h3
  rw [method]
  simp [typeInfo, hi, hm, h3, h4, follow, receiverAt, run_underlying hu, Place.get]
end
@[go_sem] theorem meth_vsV (n : Nat) (x : Value) (w : World) : (method (n + 1) 234 x "APIVersion").run Tryz.prog w = .ok (238, x) w := run_method_dir n (by kernel_rfl) Tryz.underlying234
@[go_sem] theorem meth_vsA (n : Nat) (x : Value) (w : World) : (method (n + 1) 234 x "Applied").run Tryz.prog w = .ok (239, x) w := run_method_dir n (by kernel_rfl) Tryz.underlying234
@[go_sem] theorem meth_vsS (n : Nat) (x : Value) (w : World) : (method (n + 1) 234 x "Set").run Tryz.prog w = .ok (240, x) w := run_method_dir n (by kernel_rfl) Tryz.underlying234

set_option maxRecDepth 100000 in
theorem vsVer_c {w : World} {b1 : Nat} {s : ByteArray} {b : Bool} (R : Ending → World → Prop) (hR : Ends R w (.string s)) : Calls Tryz.prog 238 #[.agg #[.pointer (some ⟨b1, 0, none⟩), .string s, .bool b]] w R := by
  have hR' := Lib.hid hR
  clear hR
  go_enter Tryz.func238, Tryz.ntmps238
  go_upto_region 1 with (fail)
  refine abs1 (G := Code.wp _ _ _ _) ?_
  intro w1 hE1 hb1 hs1
  have e0 : w1.cell? ⟨w.heap.size, 0, none⟩ = some (.pointer (some ⟨b1, 0, none⟩)) := cells_of hb1 0; have e1 : w1.cell? ⟨w.heap.size, 1, none⟩ = some (.string s) := cells_of hb1 1; have e2 : w1.cell? ⟨w.heap.size, 2, none⟩ = some (.bool b) := cells_of hb1 2
  clear hb1 hs1
  go_wp2_with fail
  exact hR'.out _ hE1
set_option maxRecDepth 100000 in
theorem vsApp_c {w : World} {b1 : Nat} {s : ByteArray} {b : Bool} (R : Ending → World → Prop) (hR : Ends R w (.bool b)) : Calls Tryz.prog 239 #[.agg #[.pointer (some ⟨b1, 0, none⟩), .string s, .bool b]] w R := by
  have hR' := Lib.hid hR
  clear hR
  go_enter Tryz.func239, Tryz.ntmps239
  go_upto_region 1 with (fail)
  refine abs1 (G := Code.wp _ _ _ _) ?_
  intro w1 hE1 hb1 hs1
  have e0 : w1.cell? ⟨w.heap.size, 0, none⟩ = some (.pointer (some ⟨b1, 0, none⟩)) := cells_of hb1 0; have e1 : w1.cell? ⟨w.heap.size, 1, none⟩ = some (.string s) := cells_of hb1 1; have e2 : w1.cell? ⟨w.heap.size, 2, none⟩ = some (.bool b) := cells_of hb1 2
  clear hb1 hs1
  go_wp2_with fail
  exact hR'.out _ hE1
set_option maxRecDepth 100000 in
theorem vsSet_c {w : World} {b1 : Nat} {s : ByteArray} {b : Bool} (R : Ending → World → Prop) (hR : Ends R w (.pointer (some ⟨b1, 0, none⟩))) : Calls Tryz.prog 240 #[.agg #[.pointer (some ⟨b1, 0, none⟩), .string s, .bool b]] w R := by
  have hR' := Lib.hid hR
  clear hR
  go_enter Tryz.func240, Tryz.ntmps240
  go_upto_region 1 with (fail)
  refine abs1 (G := Code.wp _ _ _ _) ?_
  intro w1 hE1 hb1 hs1
  have e0 : w1.cell? ⟨w.heap.size, 0, none⟩ = some (.pointer (some ⟨b1, 0, none⟩)) := cells_of hb1 0; have e1 : w1.cell? ⟨w.heap.size, 1, none⟩ = some (.string s) := cells_of hb1 1; have e2 : w1.cell? ⟨w.heap.size, 2, none⟩ = some (.bool b) := cells_of hb1 2
  clear hb1 hs1
  go_wp2_with fail
  exact hR'.out _ hE1

/-- two versioned sets are the same -/
def sameMV (a b : MV) : Prop := a.ver = b.ver ∧ a.app = b.app ∧ ∀ q, GP GoodE q → (Tr.has cmpPe a.set q ↔ Tr.has cmpPe b.set q)
/-- .. that of a name in a map -/
def inMm (m2 : EntsOfT MV) (p : ByteArray × MV) : Prop := ∃ v, getEnt p.1 m2 = some v ∧ sameMV p.2 v
def eqMm (m1 m2 : EntsOfT MV) : Prop := m1.length = m2.length ∧ ∀ p ∈ m1, inMm m2 p

set_option maxRecDepth 100000 in
set_option maxHeartbeats 8000000 in
set_option pp.maxSteps 1000000 in
set_option pp.deepTerms true in
theorem mfEquals_c {w : World} {X : List Nat} {r1 r2 : Nat} {m1 m2 : EntsOfT MV} (h1 : IsMm w X r1 m1) (h2 : IsMm w X r2 m2) (hw1 : ∀ p ∈ m1, Tr.Wf cmpPe GoodE p.2.set) (hw2 : ∀ n v, getEnt n m2 = some v → Tr.Wf cmpPe GoodE v.set) (R : Ending → World → Prop)
    (hR : ∀ e : Bool, (e = true ↔ eqMm m1 m2) → Ends R w (.bool e)) :
    Calls Tryz.prog 75 #[.map (some r1), .map (some r2)] w R := by
  obtain ⟨⟨es1, p1, e1⟩, x1⟩ := h1
  obtain ⟨⟨es2, p2, e2⟩, x2⟩ := h2
  have hlen1 := e1.length
  have hlen2 := e2.length
  have lr1 := run_len_ents (P := Tryz.prog) Tryz.underlying113 3 p1
  have lr2 := run_len_ents (P := Tryz.prog) Tryz.underlying113 3 p2
  rw [hlen1] at lr1
  rw [hlen2] at lr2
  have hR' := Lib.hid hR
  have hw1' := Lib.hid hw1
  have hw2' := Lib.hid hw2
  have e1' := Lib.hid e1
  have e2' := Lib.hid e2
  have hlen1' := Lib.hid hlen1
  have p2' := Lib.hid p2
  clear hR hw1 hw2 e1 e2 hlen1 hlen2
  by_cases hll : m1.length = m2.length
  · have hlI : ((m1.length : Int) != (m2.length : Int)) = false := by simp [hll]
    have hll' := Lib.hid hll
    clear hll
    obtain ⟨ob, hrun, hit⟩ := run_range_ents (P := Tryz.prog) Tryz.underlying113 p1
    have hE1 : Ext w (w.alloc ob) := Ext.alloc _ _
    go_enter Tryz.func75, Tryz.ntmps75
    go_wp2_with fail
    clear hrun lr1 lr2 p1
    go_loopw [5, 6, 7, 8, 21] (fun _ _ _ _ _ wr => ∃ don : List Nat, Ext w wr ∧ w.heap.size < wr.heap.size ∧ IterAt wr w.heap.size r1 es1 don ∧ Hid (∀ i ∈ don, i < es1.length) ∧ Hid (∀ i ∈ don, ∀ h : i < m1.length, inMm m2 m1[i])) (fun _ _ _ _ _ wr => es1.length - seenOf wr w.heap.size)
    case atStart => exact ⟨[], hE1, (by show w.heap.size < (w.heap.push _).size; simp), hit, Lib.hid (by simp), Lib.hid (by simp)⟩
    case round =>
      obtain ⟨don, hEr, hsz, hI, hdl, hdn⟩ := hrel
      rename World => wr
      clear hit hE1
      go_wp2_with (refine wpL_next rfl _ rfl rfl hI ?_ ?_)
      · intro i hi hni w2 hI2 hg2 hs2
        have hent := run_entry_ents (P := Tryz.prog) hi hI2
        have hi' : i < m1.length := by rw [← hlen1'.out]; exact hi
        obtain ⟨hkey, b1, d1, hv1, hst1⟩ := All2.get e1'.out i hi hi'
        have hE2 := Lib.hid (hEr.grown hg2 (fun j hj => by cases hj; exact Nat.le_refl _))
        have hlk := run_lookup_ents_ok (P := Tryz.prog) Tryz.underlying113 Tryz.underlying9 (p2'.out.ext hE2.out) (es1[i]).1 .nilIface (by kernel_rfl)
        have hmea := Lib.hid hI.seen
        have hseen2 := Lib.hid hI2.seen
        have hst1' := Lib.hid hst1
        have hsz2 : w.heap.size < w2.heap.size := by omega
        rw [hv1] at hent
        have hkey' := Lib.hid hkey
        obtain ⟨nk, hnk⟩ : ∃ nk, (es1[i]).1 = nk := ⟨_, rfl⟩
        rw [hnk] at hent hlk hkey'
        clear hkey hv1 hst1 hI hg2 hs2 hEr hsz hnk
        rcases e2'.out.look (k := nk) with ⟨g1, g2⟩ | ⟨x, v2, g1, g2, b2, d2, rfl, hst2⟩
        · rw [g1] at hlk
          have hne := Lib.hid (show ¬ eqMm m1 m2 from fun h => by
            obtain ⟨v, hv, -⟩ := h.2 _ (List.getElem_mem hi')
            rw [← hkey'.out, g2] at hv
            cases hv)
          clear g1 g2
          simp only [Option.getD_none, Option.isSome_none] at hlk
          go_wp2_with fail
          exact hR'.out false (by simpa using hne.out) w2 hE2.out
        · rw [g1] at hlk
          simp only [Option.getD_some, Option.isSome_some] at hlk
          have hst2' := Lib.hid hst2
          have hin := Lib.hid (show inMm m2 m1[i] ↔ sameMV m1[i].2 v2 from ⟨fun ⟨v, hv, h⟩ => by rw [← hkey'.out, g2] at hv; cases hv; exact h, fun h => ⟨v2, by rw [← hkey'.out]; exact g2, h⟩⟩)
          have hwv2 := Lib.hid (hw2'.out _ _ g2)
          have hwv1 := Lib.hid (hw1'.out _ (List.getElem_mem hi'))
          have hne := Lib.hid (show ¬ sameMV m1[i].2 v2 → ¬ eqMm m1 m2 from fun hn h => hn (hin.out.1 (h.2 _ (List.getElem_mem hi'))))
          obtain ⟨v1, hv1⟩ : ∃ v1, m1[i].2 = v1 := ⟨_, rfl⟩
          rw [hv1] at hent hst1' hin hwv1 hne
          clear g1 g2 hv1
          obtain ⟨ver1, app1, s1⟩ := v1
          obtain ⟨ver2, app2, s2⟩ := v2
          simp only at hent hlk hst1' hst2' hwv1 hwv2
          go_wp2_with fail
          refine vsVer_c _ ?_
          intro w3 hE3
          have hE03 := Lib.hid (hE2.out.trans hE3)
          have hE23 := Lib.hid hE3
          clear hE3
          dsimp only
          go_wp2_with fail
          refine vsVer_c _ ?_
          intro w4 hE4
          have hE04 := Lib.hid (hE03.out.trans hE4)
          have hE24 := Lib.hid (hE23.out.trans hE4)
          clear hE4
          dsimp only
          by_cases c1 : ver1 = ver2
          · subst c1
            go_wp2_with fail
            refine vsApp_c _ ?_
            intro w5 hE5
            have hE05 := Lib.hid (hE04.out.trans hE5)
            have hE25 := Lib.hid (hE24.out.trans hE5)
            clear hE5
            dsimp only
            go_wp2_with fail
            refine vsApp_c _ ?_
            intro w6 hE6
            have hE06 := Lib.hid (hE05.out.trans hE6)
            have hE26 := Lib.hid (hE25.out.trans hE6)
            clear hE6
            dsimp only
            by_cases c2 : app1 = app2
            · subst c2
              go_wp2_with fail
              refine vsSet_c _ ?_
              intro w7 hE7
              have hE07 := Lib.hid (hE06.out.trans hE7)
              have hE27 := Lib.hid (hE26.out.trans hE7)
              clear hE7
              dsimp only
              go_wp2_with fail
              refine vsSet_c _ ?_
              intro w8 hE8
              have hE08 := Lib.hid (hE07.out.trans hE8)
              have hE28 := Lib.hid (hE27.out.trans hE8)
              clear hE8
              dsimp only
              go_wp2_with fail
              refine setEquals_all d1 d2 ((kSt d1).mv hst1'.out (hE08.out.mv X)) ((kSt d2).mv hst2'.out (hE08.out.mv X)) _ ?_
              have hiff := eqBt_law (e := d2) (Y := []) (ds := []) hst1'.out hwv1.out hwv2.out
              obtain ⟨r, hr⟩ : ∃ r, eqBt d1 s1 s2 = r := ⟨_, rfl⟩
              rw [hr] at hiff ⊢
              have hiff' := Lib.hid (show r = true ↔ sameMV ⟨ver1, app1, s1⟩ ⟨ver1, app1, s2⟩ from hiff.trans ⟨fun h => ⟨rfl, rfl, h⟩, fun h => h.2.2⟩)
              clear hiff hr
              intro w9 hE9
              have hE09 := Lib.hid (hE08.out.trans hE9)
              have hE29 := Lib.hid (hE28.out.trans hE9)
              clear hE9
              dsimp only
              cases r
              · go_wp2_with fail
                exact hR'.out false (by simpa using hne.out (fun h => by have := hiff'.out.2 h; cases this)) w9 hE09.out
              · go_wp2_with fail
                go_roundw
                case rel =>
                  refine ⟨don ++ [i], hE09.out, Nat.lt_of_lt_of_le hsz2 hE29.out.size, hI2.ext hE29.out, Lib.hid fun j hj => ?_, Lib.hid fun j hj h => ?_⟩
                  · rcases List.mem_append.1 hj with hj | hj
                    · exact hdl.out j hj
                    · rw [List.mem_singleton] at hj; rw [hj]; exact hi
                  · rcases List.mem_append.1 hj with hj | hj
                    · exact hdn.out j hj h
                    · rw [List.mem_singleton] at hj; subst hj; exact hin.out.2 (hiff'.out.1 rfl)
                case measure =>
                  rw [(hI2.ext hE29.out).seen, hmea.out, List.length_append, List.length_singleton]
                  have := nodup_bound es1.length _ hI2.nodup (fun j hj => by
                    rcases List.mem_append.1 hj with hj | hj
                    · exact hdl.out j hj
                    · rw [List.mem_singleton] at hj; rw [hj]; exact hi)
                  simp only [List.length_append, List.length_singleton] at this
                  omega
            · have c2b : (app1 != app2) = true := by simpa using c2
              have c2c : (app1 == app2) = false := by simpa using c2
              go_wp2_with fail
              exact hR'.out false (by simpa using hne.out (fun h => c2 h.2.1)) w6 hE06.out
          · have c1b : (ver1.toList == ver2.toList) = false := beq_eq_false_iff_ne.2 fun h => c1 (toList_inj h)
            go_wp2_with fail
            exact hR'.out false (by simpa using hne.out (fun h => c1 h.1)) w4 hE04.out
      · intro hall
        have hall' := Lib.hid hall
        clear hall
        have hy : eqMm m1 m2 := ⟨hll'.out, fun p hp => by
          obtain ⟨i, hi, rfl⟩ := List.getElem_of_mem hp
          exact hdn.out i (hall'.out i (by rw [hlen1'.out]; exact hi)) hi⟩
        have hy' := Lib.hid hy
        clear hy hI
        go_wp2_with fail
        exact hR'.out true (by simpa using hy'.out) wr hEr
  · have hlI : ((m1.length : Int) != (m2.length : Int)) = true := by simp; omega
    have hne := Lib.hid (show ¬ eqMm m1 m2 from fun h => hll h.1)
    clear hll
    go_enter Tryz.func75, Tryz.ntmps75
    go_wp2_with fail
    exact hR'.out false (by simpa using hne.out) w (Ext.refl _)
end Go.Proofs.YtihapgangilncaaGreat
namespace Go.Proofs.YtihapgangilncaaGreat
open Go.RowKit
set_option linter.unusedSimpArgs false

/-- two managers are the same but for their names -/
def sameMg (m n : Mg) : Prop := m.ver = n.ver ∧ m.app = n.app ∧ ∀ q, GP GoodE q → (memP m.set q ↔ memP n.set q)
theorem mrel_some {l : List Mg} {ms : EntsOfT MV} (h : MRel l ms) {n : ByteArray} {v : MV} (hv : getEnt n ms = some v) : ∃ m, lastOf l n = some m ∧ goodMV v m := by
  have := h.2 n
  rw [hv] at this
  cases hl : lastOf l n with
  | none => rw [hl] at this; exact this.elim
  | some m => rw [hl] at this; exact ⟨m, rfl, this⟩
theorem mrel_last {l : List Mg} {ms : EntsOfT MV} (h : MRel l ms) {n : ByteArray} {m : Mg} (hm : lastOf l n = some m) : ∃ v, getEnt n ms = some v ∧ goodMV v m := by
  have := h.2 n
  rw [hm] at this
  cases hl : getEnt n ms with
  | none => rw [hl] at this; exact this.elim
  | some v => rw [hl] at this; exact ⟨v, rfl, this⟩
theorem mrel_none {l : List Mg} {ms : EntsOfT MV} (h : MRel l ms) {n : ByteArray} : getEnt n ms = none ↔ lastOf l n = none := by
  constructor
  · intro hn
    cases hl : lastOf l n with
    | none => rfl
    | some m => obtain ⟨v, hv, -⟩ := mrel_last h hl; rw [hn] at hv; cases hv
  · intro hn
    cases hl : getEnt n ms with
    | none => rfl
    | some v => obtain ⟨m, hm, -⟩ := mrel_some h hl; rw [hn] at hm; cases hm
theorem same_good {u v : MV} {m n : Mg} (hu : goodMV u m) (hv : goodMV v n) : sameMV u v ↔ sameMg m n := by
  unfold sameMV sameMg
  rw [hu.1, hu.2.1, hv.1, hv.2.1]
  refine and_congr Iff.rfl (and_congr Iff.rfl ⟨fun h q hq => (hu.2.2.2 q hq).symm.trans ((h q hq).trans (hv.2.2.2 q hq)), fun h q hq => (hu.2.2.2 q hq).trans ((h q hq).trans (hv.2.2.2 q hq).symm)⟩)
theorem key_get {ms : EntsOfT MV} {n : ByteArray} : n ∈ ms.map (·.1) ↔ ∃ v, getEnt n ms = some v := by
  constructor
  · intro h
    cases hl : getEnt n ms with
    | none => exact absurd h (getEnt_none.1 hl)
    | some v => exact ⟨v, rfl⟩
  · rintro ⟨v, hv⟩
    refine Classical.byContradiction fun h => ?_
    rw [getEnt_none.2 h] at hv
    cases hv
theorem eqMm_iff {a b : List Mg} {p q : EntsOfT MV} (h1 : MRel a p) (h2 : MRel b q) : eqMm p q ↔ ∀ n, optR sameMg (lastOf a n) (lastOf b n) := by
  constructor
  · rintro ⟨hl, hin⟩ n
    have hsub : ∀ k ∈ p.map (·.1), k ∈ q.map (·.1) := fun k hk => by
      obtain ⟨e, he, rfl⟩ := List.mem_map.1 hk
      obtain ⟨v, hv, -⟩ := hin e he
      exact key_get.2 ⟨v, hv⟩
    have hfull := nodup_full h1.1 hsub (by rw [List.length_map, List.length_map]; omega)
    cases hp : getEnt n p with
    | none =>
      have hq : getEnt n q = none := by
        cases hq : getEnt n q with
        | none => rfl
        | some v =>
          obtain ⟨u, hu⟩ := key_get.1 (hfull n (key_get.2 ⟨v, hq⟩))
          rw [hp] at hu
          cases hu
      rw [(mrel_none h1).1 hp, (mrel_none h2).1 hq]
      trivial
    | some u =>
      obtain ⟨v, hv, hs⟩ := hin (n, u) ((getEnt_mem h1.1).2 hp)
      obtain ⟨m, hm, gm⟩ := mrel_some h1 hp
      obtain ⟨k, hk, gk⟩ := mrel_some h2 hv
      rw [hm, hk]
      exact (same_good gm gk).1 hs
  · intro h
    have hin : ∀ e ∈ p, inMm q e := fun e he => by
      obtain ⟨n, u⟩ := e
      have hp := (getEnt_mem h1.1).1 he
      obtain ⟨m, hm, gm⟩ := mrel_some h1 hp
      have hn := h n
      rw [hm] at hn
      cases hk : lastOf b n with
      | none => rw [hk] at hn; exact hn.elim
      | some k =>
        rw [hk] at hn
        obtain ⟨v, hv, gv⟩ := mrel_last h2 hk
        exact ⟨v, hv, (same_good gm gv).2 hn⟩
    have k1 : ∀ k ∈ p.map (·.1), k ∈ q.map (·.1) := fun k hk => by
      obtain ⟨e, he, rfl⟩ := List.mem_map.1 hk
      obtain ⟨v, hv, -⟩ := hin e he
      exact key_get.2 ⟨v, hv⟩
    have k2 : ∀ k ∈ q.map (·.1), k ∈ p.map (·.1) := fun k hk => by
      obtain ⟨v, hv⟩ := key_get.1 hk
      obtain ⟨m, hm, -⟩ := mrel_some h2 hv
      have hn := h k
      rw [hm] at hn
      cases hl : lastOf a k with
      | none => rw [hl] at hn; exact hn.elim
      | some m2 =>
        obtain ⟨u, hu, -⟩ := mrel_last h1 hl
        exact key_get.2 ⟨u, hu⟩
    have e1 := nodup_le h1.1 k1
    have e2 := nodup_le h2.1 k2
    rw [List.length_map, List.length_map] at e1 e2
    exact ⟨Nat.le_antisymm e1 e2, hin⟩
theorem clean_same {m n : Mg} (hm : ∀ p ∈ m.set, GP GoodE (p.map toE)) (hn : ∀ p ∈ n.set, GP GoodE (p.map toE)) (he : m.name = n.name) : eqMg m.clean n.clean = true ↔ sameMg m n := by
  unfold eqMg sameMg Mg.clean
  simp only [Bool.and_eq_true, beq_iff_eq, he, true_and]
  rw [equalSets_iff hm hn, and_assoc]
/-- the reference's comparison -/
theorem eqC_iff {a b : List Mg} (ha : ∀ m ∈ a, ∀ p ∈ m.set, GP GoodE (p.map toE)) (hb : ∀ m ∈ b, ∀ p ∈ m.set, GP GoodE (p.map toE)) : listB eqMg (cleanM a) (cleanM b) = true ↔ ∀ n, optR sameMg (lastOf a n) (lastOf b n) := by
  have fa := cleanM_facts a
  have fb := cleanM_facts b
  rw [eqMs_iff fa.1 fb.1]
  refine forall_congr' fun n => ?_
  rw [fa.2.1 n, fb.2.1 n]
  cases h1 : lastOf a n with
  | none => cases h2 : lastOf b n with
    | none => exact Iff.rfl
    | some k => exact Iff.rfl
  | some m => cases h2 : lastOf b n with
    | none => exact Iff.rfl
    | some k =>
      obtain ⟨m1, m2⟩ := lastOf_mem h1
      obtain ⟨k1, k2⟩ := lastOf_mem h2
      exact clean_same (ha m m1) (hb k k1) (m2.trans k2.symm)
theorem mg_sets {w : World} {X : List Nat} {va : Value} {l : List Mg} (h : IsSl kMg 64 w X va l) : ∀ m ∈ l, ∃ sv, IsSl kPth 24 w X sv m.set := by
  intro m hm
  obtain ⟨_, _, _, _, -, -, -, -, l5⟩ := h.ex
  obtain ⟨i, hi, rfl⟩ := List.getElem_of_mem hm
  obtain ⟨cs, -, sv, -, -, -, hs⟩ := l5 i hi
  exact ⟨sv, hs⟩
theorem good_mgs {w : World} {X : List Nat} {va : Value} {l : List Mg} (h : IsSl kMg 64 w X va l) (ht : ∀ m ∈ l, ∀ p ∈ m.set, ∀ e ∈ p, tameEl e) : ∀ m ∈ l, ∀ p ∈ m.set, GP GoodE (p.map toE) := by
  intro m hm
  obtain ⟨sv, hs⟩ := mg_sets h m hm
  exact good_list hs (ht m hm)

set_option maxRecDepth 100000 in
set_option maxHeartbeats 4000000 in
set_option pp.maxSteps 1000000 in
set_option pp.deepTerms true in
theorem implEqualManagers_c {w : World} {X : List Nat} {va vb' : Value} {a b : List Mg} (ha : IsSl kMg 64 w X va a) (hb : IsSl kMg 64 w X vb' b) (hX : Old X w) (hGa : ∀ m ∈ a, ∀ p ∈ m.set, GP GoodE (p.map toE)) (hGb : ∀ m ∈ b, ∀ p ∈ m.set, GP GoodE (p.map toE)) (hsa : ∀ m ∈ a, (m.set.length + 1) * 40 ≤ 140737488351232) (hsb : ∀ m ∈ b, (m.set.length + 1) * 40 ≤ 140737488351232) (R : Ending → World → Prop)
    (hR : ∀ e : Bool, (e = true ↔ ∀ n, optR sameMg (lastOf a n) (lastOf b n)) → Ends R w (.bool e)) :
    Calls Tryz.prog 32 #[va, vb'] w R := by
  have hao := ha.one
  have hbo := hb.one
  have ha' := Lib.hid ha
  have hb' := Lib.hid hb
  have hX' := Lib.hid hX
  have hGa' := Lib.hid hGa
  have hGb' := Lib.hid hGb
  have hsa' := Lib.hid hsa
  have hsb' := Lib.hid hsb
  have hR' := Lib.hid hR
  clear ha hb hX hGa hGb hsa hsb hR
  go_enter Tryz.func32, Tryz.ntmps32
  go_wp2_with fail
  refine toManagers_c ha'.out hX'.out hGa'.out hsa'.out _ ?_
  intro w1 r1 p hE1 hm1 hr1 hl1
  have hm1' := Lib.hid hm1
  have hr1' := Lib.hid hr1
  clear hm1 hr1 hl1
  dsimp only
  go_wp2_with fail
  refine toManagers_c (hb'.out.mv (hE1.mv X) (by decide)) (hX'.out.le hE1.size) hGb'.out hsb'.out _ ?_
  intro w2 r2 q hE2 hm2 hr2 hl2
  have hm2' := Lib.hid hm2
  have hr2' := Lib.hid hr2
  clear hm2 hr2 hl2
  dsimp only
  go_wp2_with fail
  refine mfEquals_c (hm1'.out.mv (hE2.mv X)) hm2'.out (fun e he => ?_) (fun n v hv => ?_) _ ?_
  · obtain ⟨m, -, gm⟩ := mrel_some hr1'.out ((getEnt_mem hr1'.out.1).1 (show (e.1, e.2) ∈ p from he))
    exact gm.2.2.1
  · obtain ⟨m, -, gm⟩ := mrel_some hr2'.out hv
    exact gm.2.2.1
  · intro e he w3 hE3
    have he' := Lib.hid (he.trans (eqMm_iff hr1'.out hr2'.out))
    clear he
    dsimp only
    go_wp2_with fail
    exact hR'.out e he'.out w3 ((hE1.trans hE2).trans hE3)
end Go.Proofs.YtihapgangilncaaGreat
namespace Go.Proofs.YtihapgangilncaaGreat
open Go.RowKit
set_option linter.unusedSimpArgs false

set_option maxRecDepth 100000 in
set_option maxHeartbeats 8000000 in
set_option pp.maxSteps 1000000 in
set_option pp.deepTerms true in
theorem fnEqualManagers_law {w : World} {va vb' : Value} {a b : List Mg} (ha : IsSl kMg 64 w [] va a) (hb : IsSl kMg 64 w [] vb' b) (hla : a.length ≤ 1048576) (hlb : b.length ≤ 1048576) (hsa : ∀ m ∈ a, m.set.length ≤ 1048576) (hsb : ∀ m ∈ b, m.set.length ≤ 1048576) : Calls Tryz.prog 9 #[va, vb'] w fun e w' => e = .returned (.bool true) ∧ Below w.heap.size w w' := by
  suffices h : ∀ R : Ending → World → Prop, Ends R w (.bool true) → Calls Tryz.prog 9 #[va, vb'] w R from h _ (fun w' hE => ⟨rfl, hE⟩)
  intro R hR
  obtain ⟨o, c, _, _, rfl, -⟩ := id ha.ex
  obtain ⟨o2, c2, _, _, rfl, -⟩ := id hb.ex
  have h1b : ¬ (2147483647 : Int) < (a.length : Int) := by omega
  have h2b : ¬ (2147483647 : Int) < (b.length : Int) := by omega
  have ha' := Lib.hid ha
  have hb' := Lib.hid hb
  have hR' := Lib.hid hR
  have na := Lib.hid (show (a.length + 1) * 64 ≤ 140737488351232 by omega)
  have nb := Lib.hid (show (b.length + 1) * 64 ≤ 140737488351232 by omega)
  have sa := Lib.hid (show ∀ m ∈ a, (m.set.length + 1) * 40 ≤ 140737488351232 from fun m hm => by have := hsa m hm; omega)
  have sb := Lib.hid (show ∀ m ∈ b, (m.set.length + 1) * 40 ≤ 140737488351232 from fun m hm => by have := hsb m hm; omega)
  have sa2 := Lib.hid (show ∀ m ∈ a, (m.set.length + 1) * 24 ≤ 140737488351232 from fun m hm => by have := hsa m hm; omega)
  have sb2 := Lib.hid (show ∀ m ∈ b, (m.set.length + 1) * 24 ≤ 140737488351232 from fun m hm => by have := hsb m hm; omega)
  clear hR ha hb hla hlb hsa hsb
  go_enter Tryz.func9, Tryz.ntmps9
  go_wp2_with fail
  refine tameManagers_c ha'.out _ ?_
  intro t1 ht1 w1 hE1
  have ht1' := Lib.hid ht1
  clear ht1
  dsimp only
  cases t1
  · go_wp2_with fail
    exact hR'.out _ hE1
  go_wp2_with fail
  refine tameManagers_c (hb'.out.mv (hE1.mv []) (by decide)) _ ?_
  intro t2 ht2 w2 hE2
  have ht2' := Lib.hid ht2
  have hE02 := Lib.hid (hE1.trans hE2)
  clear ht2 hE1 hE2
  dsimp only
  cases t2
  · go_wp2_with fail
    exact hR'.out _ hE02.out
  have hGa := Lib.hid (good_mgs ha'.out (ht1'.out (by simp)))
  have hGb := Lib.hid (good_mgs hb'.out (ht2'.out (by simp)))
  clear ht1' ht2'
  go_wp2_with fail
  refine implEqualManagers_c (ha'.out.mv (hE02.out.mv []) (by decide)) (hb'.out.mv (hE02.out.mv []) (by decide)) (Old.nil _) hGa.out hGb.out sa.out sb.out _ ?_
  intro e he w3 hE3
  have he' := Lib.hid he
  have hE03 := Lib.hid (hE02.out.trans hE3)
  clear he hE3
  dsimp only
  go_wp2_with fail
  refine specEqualManagers_c withManager_c (ha'.out.mv (hE03.out.mv []) (by decide)) (hb'.out.mv (hE03.out.mv []) (by decide)) (Old.nil _) na.out nb.out hGa.out hGb.out sa2.out sb2.out _ ?_
  have hee : listB eqMg (cleanM a) (cleanM b) = e := by
    have := (eqC_iff hGa.out hGb.out).trans he'.out.symm
    cases e <;> cases h : listB eqMg (cleanM a) (cleanM b) <;> simp_all
  rw [hee]
  clear hee he'
  intro w4 hE4
  have hE04 := Lib.hid (hE03.out.trans hE4)
  clear hE4
  dsimp only
  have hrr : (e == e) = true := by simp
  go_wp2_with fail
  refine implEqualManagers_c (ha'.out.mv (hE04.out.mv []) (by decide)) (ha'.out.mv (hE04.out.mv []) (by decide)) (Old.nil _) hGa.out hGa.out sa.out sa.out _ ?_
  intro e2 he2 w5 hE5
  have h2 : e2 = true := he2.2 fun n => by
    cases h : lastOf a n with
    | none => trivial
    | some m => exact ⟨rfl, rfl, fun q _ => Iff.rfl⟩
  subst h2
  clear he2
  dsimp only
  go_wp2_with fail
  exact hR'.out w5 (hE04.out.trans hE5)
end Go.Proofs.YtihapgangilncaaGreat
