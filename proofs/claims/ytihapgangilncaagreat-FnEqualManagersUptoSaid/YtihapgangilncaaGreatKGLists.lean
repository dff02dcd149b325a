/- impl.fromTree: a tree taken apart. Lists over trees and the walk over them: value.List, value.ListRange. value.List over trees; impl.toList, fromValue, ListItems, ListAt. -/
import Derived.Test.YtihapgangilncaaGreatKGSort
import Derived.Test.YtihapgangilncaaGreatKGRow
import Derived.Test.YtihapgangilncaaGreatKGVal
namespace Go.Proofs.YtihapgangilncaaGreat
open Go.RowKit

theorem findEnt_lookK {α : Type} (q : ByteArray) (es : EntsOfT α) : ∀ n, (findEnt q es n).map (·.2) = lookK q es := by
  induction es with
  | nil => intro n; rfl
  | cons e es ih =>
    intro n
    simp only [findEnt, lookK]
    by_cases h : q = e.1
    · simp [h]
    · simp [h, ih]
theorem getEnt_lookK {α : Type} (q : ByteArray) (es : EntsOfT α) : getEnt q es = lookK q es := findEnt_lookK q es 0
theorem lookK_map {α β : Type} (f : α → β) (q : ByteArray) (es : EntsOfT α) : lookK q (es.map fun p => (p.1, f p.2)) = (lookK q es).map f := by
  induction es with
  | nil => rfl
  | cons e es ih => by_cases h : q = e.1 <;> simp [lookK, h, ih]
theorem lookK_mem {α : Type} {q : ByteArray} {es : EntsOfT α} {t : α} (h : lookK q es = some t) : (q, t) ∈ es := by
  induction es with
  | nil => simp [lookK] at h
  | cons e es ih =>
    by_cases hq : q = e.1
    · subst hq
      simp only [lookK, if_true, Option.some.injEq] at h
      subst h
      simp
    · simp only [lookK, if_neg hq] at h
      exact List.mem_cons_of_mem _ (ih h)
end Go.Proofs.YtihapgangilncaaGreat
namespace Go.Proofs.YtihapgangilncaaGreat
open Go.RowKit

/-- w' is w with more blocks, and with whatever in the blocks B -/
structure Mut (w : World) (B : List Nat) (w' : World) : Prop where
  os : w'.os = w.os
  tape : w'.tape = w.tape
  output : w'.output = w.output
  size : w.heap.size ≤ w'.heap.size
  block : ∀ k, k < w.heap.size → k ∉ B → w'.heap[k]? = w.heap[k]?

theorem Ext.mut {w w' : World} (h : Ext w w') (B : List Nat) : Mut w B w' := ⟨h.below.os, h.below.tape, h.below.output, h.size, fun k hk _ => h.below.block k hk⟩
theorem grown_mut {w w' : World} {b : Nat} {B : List Nat} (h : w.grownBy w' (some b)) (hb : b ∈ B) : Mut w B w' := ⟨h.os, h.tape, h.output, h.size, fun k hk hn => h.block k hk (fun e => by cases e; exact hn hb)⟩
theorem Mut.trans {a b c : World} {B : List Nat} (h : Mut a B b) (k : Mut b B c) : Mut a B c :=
  ⟨k.os.trans h.os, k.tape.trans h.tape, k.output.trans h.output, Nat.le_trans h.size k.size, fun i hi hn => (k.block i (Nat.lt_of_lt_of_le hi h.size) hn).trans (h.block i hi hn)⟩
theorem Mut.more {w w' : World} {B C : List Nat} (h : Mut w B w') (hB : ∀ b ∈ B, b ∈ C) : Mut w C w' := ⟨h.os, h.tape, h.output, h.size, fun k hk hn => h.block k hk (fun hb => hn (hB k hb))⟩
theorem Mut.mv {w w' : World} {B X : List Nat} (h : Mut w B w') (hB : ∀ b ∈ B, b ∈ X) : Mv w X w' X := ⟨h.size, fun k hk hx => ⟨h.block k hk (fun hb => hx (hB k hb)), hx⟩⟩
/-- what is written into blocks that are newer than all that a held -/
theorem Ext.mutated {a b c : World} {B : List Nat} (h : Ext a b) (m : Mut b B c) (hB : ∀ k ∈ B, a.heap.size ≤ k) : Ext a c :=
  ⟨m.os.trans h.below.os, m.tape.trans h.below.tape, m.output.trans h.below.output, Nat.le_trans h.size m.size, fun k hk => (m.block k (Nat.lt_of_lt_of_le hk h.size) (fun hb => by have := hB k hb; omega)).trans (h.below.block k hk)⟩

/-- v is a walk over the trees ts of which n have been stepped to; B are the blocks of its own -/
inductive IsRange (w : World) (X : List Nat) : Value → List T → Nat → List Nat → Prop where
  | empty (b n : Nat) : IsRange w X (.iface 387 (.pointer (some ⟨b, 0, none⟩))) [] n []
  | list {rb ib n : Nat} {v x : Value} {ts : List T} (h1 : w.heap[rb]? = some (.cells #[v, .pointer (some ⟨ib, 0, none⟩), .int .i64 ((n : Int) - 1)] 390 (0, 0)))
    (h2 : w.heap[ib]? = some (.cells #[x] 292 (0, 0))) (hne : rb ≠ ib) (hx1 : rb ∉ X) (hx2 : ib ∉ X) (h3 : IsTs w (rb :: ib :: X) v ts) : IsRange w X (.iface 382 (.pointer (some ⟨rb, 0, none⟩))) ts n [rb, ib]

theorem run_method_ptr {P : Program} {w : World} {t elem : TypeId} {name : String} {fid : FuncId} {p : Addr} (n : Nat)
    (h1 : (P.info? t).bind (fun i => (i.methods.find? (·.name == name)).map (fun m => (m.path.toList, m.func))) = some ([], some (fid, true))) (hu : P.underlying t = some (.pointer elem)) :
    (method (n + 1) t (.pointer (some p)) name).run P w = .ok (fid, .pointer (some p)) w := by
  obtain ⟨i, hi, h2⟩ := Option.bind_eq_some_iff.1 h1
  obtain ⟨m, hm, h3⟩ := Option.map_eq_some_iff.1 h2
  simp only [Prod.mk.injEq] at h3
  obtain ⟨h3, h4⟩ := h3
  rw [method]
  simp [typeInfo, hi, hm, h3, h4, follow, receiverAt, run_underlying hu, Place.get, asAddr]

@[go_sem] theorem meth_emptyNext (n b off : Nat) (w : World) : (method (n + 1) 387 (.pointer (some ⟨b, off, none⟩)) "Next").run Tryz.prog w = .ok (293, .pointer (some ⟨b, off, none⟩)) w := run_method_ptr n (by kernel_rfl) Tryz.underlying387
@[go_sem] theorem meth_rangeNext (n b off : Nat) (w : World) : (method (n + 1) 382 (.pointer (some ⟨b, off, none⟩)) "Next").run Tryz.prog w = .ok (291, .pointer (some ⟨b, off, none⟩)) w := run_method_ptr n (by kernel_rfl) Tryz.underlying382
@[go_sem] theorem meth_rangeItem (n b off : Nat) (w : World) : (method (n + 1) 382 (.pointer (some ⟨b, off, none⟩)) "Item").run Tryz.prog w = .ok (290, .pointer (some ⟨b, off, none⟩)) w := run_method_ptr n (by kernel_rfl) Tryz.underlying382

set_option maxRecDepth 100000 in
set_option maxHeartbeats 1000000 in
theorem emptyNext_c {w : World} {p : Value} (R : Ending → World → Prop) (hR : R (.returned (.bool false)) w) :
    Calls Tryz.prog 293 #[p] w R := by
  have hR' := Lib.hid hR
  clear hR
  go_enter Tryz.func293, Tryz.ntmps293
  go_wp2_with fail
  exact hR'.out

theorem Tryz.info361 : (Tryz.prog.info? 361).map (fun i => (i.zero, i.size, i.bytes)) = some (some (.slice none 0 0), 1, 24) := by kernel_rfl
theorem Tryz.info3 : (Tryz.prog.info? 3).map (fun i => (i.zero, i.size, i.bytes)) = some (some (.int .i64 0), 1, 8) := by kernel_rfl

set_option maxRecDepth 100000 in
set_option maxHeartbeats 2000000 in
set_option pp.maxSteps 1000000 in
set_option pp.deepTerms true in
theorem rangeNext_c {w : World} {X : List Nat} {rb ib n : Nat} {v x : Value} {ts : List T} (h1 : w.heap[rb]? = some (.cells #[v, .pointer (some ⟨ib, 0, none⟩), .int .i64 ((n : Int) - 1)] 390 (0, 0)))
    (h2 : w.heap[ib]? = some (.cells #[x] 292 (0, 0))) (hne : rb ≠ ib) (hx1 : rb ∉ X) (hx2 : ib ∉ X) (h3 : IsTs w (rb :: ib :: X) v ts) (hn : n ≤ ts.length) (R : Ending → World → Prop)
    (hR : ∀ w', Mut w [rb, ib] w' → IsRange w' X (.iface 382 (.pointer (some ⟨rb, 0, none⟩))) ts (n + 1) [rb, ib] → R (.returned (.bool (decide (n < ts.length)))) w') :
    Calls Tryz.prog 291 #[.pointer (some ⟨rb, 0, none⟩)] w R := by
  have hR' := Lib.hid hR
  obtain ⟨b, off, c, rfl, l2, l3, l4, l5⟩ := id h3.ex
  have h3' := Lib.hid h3
  have c0 : w.cell? ⟨rb, 0, none⟩ = some (.slice (some ⟨b, off, none⟩) ts.length c) := cells_of h1 0
  have c2 : w.cell? ⟨rb, 2, none⟩ = some (.int .i64 ((n : Int) - 1)) := cells_of h1 2
  have hlen : (ts.length : Int) ≤ 1599289640355 := by omega
  have hni : (n : Int) ≤ (ts.length : Int) := by omega
  have h1' := Lib.hid h1
  have h2' := Lib.hid h2
  clear hR h3 l4 l5 h2
  go_enter Tryz.func291, Tryz.ntmps291
  go_wp2_with (refine wpL_store1 rfl _ _ _ rfl Tryz.info3 (p := ⟨rb, 2, none⟩) (v := .int .i64 n) rfl (by go_simp) rfl (by rw [cells_of h1 2]; rfl) (frozen_of_row _ _ _ _ _ h1) ?_)
  obtain ⟨hh2, hg2, hs2⟩ := set_facts (off := 2) (.int .i64 n) h1
  generalize w.setCell ⟨rb, 2, none⟩ (.int .i64 n) = w2 at hh2 hg2 hs2 ⊢
  replace c0 : w2.cell? ⟨rb, 0, none⟩ = some (.slice (some ⟨b, off, none⟩) ts.length c) := cells_of hh2 0
  replace c2 : w2.cell? ⟨rb, 2, none⟩ = some (.int .i64 n) := cells_of hh2 2
  refine wp_region_script (List.range 11) [] (fun w' => w' = w2.drew) [(.read, 0), (.read, 1), (.read, 2), (.read, 3), (.read, 4), (.read, 5), (.read, 6), (.read, 7), (.read, 8), (.read, 9), (.read, 10)] (by kernel_rfl) (by kernel_rfl) ?_
  iterate 11 (first | (apply scr_r; (· rfl); (· (first | rfl | (simp [Region.wanted, yielded, go_sem]; done) | (simp [Region.wanted, yielded, go_sem, *]; done))); (· (go_simp; try rfl)); (· (simp [go_sem]; try rfl))) | (apply scr_r0; (· rfl); (· (first | rfl | (simp [Region.wanted, yielded, go_sem]; done) | (simp [Region.wanted, yielded, go_sem, *]; done))); (· (simp [go_sem]; try rfl))))
  refine scr_end ?_
  simp only [Exit.then]
  go_wp2_with fail
  refine hR'.out _ ((grown_mut hg2 (by simp)).trans ((Ext.refl _).drew.mut _)) (.list (v := .slice (some ⟨b, off, none⟩) ts.length c) (x := x) ?_ ?_ hne hx1 hx2 ?_)
  · have e : (((n + 1 : Nat) : Int) - 1) = n := by omega
    rw [e]
    exact hh2
  · exact (hg2.block _ (Array.getElem?_eq_some_iff.1 h2'.out).1 (fun e => hne (by simpa using e.symm))).trans h2'.out
  · exact h3'.out.mv (((grown_mut hg2 (B := [rb]) (by simp)).trans ((Ext.refl _).drew.mut _)).mv (by simp))

set_option maxRecDepth 100000 in
set_option maxHeartbeats 1000000 in
theorem reuse_c {w : World} {ib : Nat} {x y : Value} (h2 : w.heap[ib]? = some (.cells #[x] 292 (0, 0))) (hone : y.oneCell' = true) (R : Ending → World → Prop)
    (hR : ∀ w', w'.heap[ib]? = some (.cells #[y] 292 (0, 0)) → w.grownBy w' (some ib) → R (.returned (.iface 261 (.pointer (some ⟨ib, 0, none⟩)))) w') :
    Calls Tryz.prog 168 #[.pointer (some ⟨ib, 0, none⟩), y] w R := by
  have hR' := Lib.hid hR
  clear hR
  have c0 : w.cell? ⟨ib, 0, none⟩ = some x := cells_of h2 0
  go_enter Tryz.func168, Tryz.ntmps168
  go_wp2_with (refine wpL_store1 rfl _ _ _ rfl Tryz.info20 (p := ⟨ib, 0, none⟩) (v := y) rfl rfl hone (by rw [c0]; rfl) (frozen_of_row _ _ _ _ _ h2) ?_)
  obtain ⟨hh3, hg3, hs3⟩ := set_facts (off := 0) y h2
  exact hR'.out _ hh3 hg3

set_option maxRecDepth 100000 in
set_option maxHeartbeats 4000000 in
set_option pp.maxSteps 1000000 in
set_option pp.deepTerms true in
theorem rangeItem_c {w : World} {X : List Nat} {rb ib n : Nat} {v x : Value} {ts : List T} (h1 : w.heap[rb]? = some (.cells #[v, .pointer (some ⟨ib, 0, none⟩), .int .i64 (((n + 1 : Nat) : Int) - 1)] 390 (0, 0)))
    (h2 : w.heap[ib]? = some (.cells #[x] 292 (0, 0))) (hne : rb ≠ ib) (hx1 : rb ∉ X) (hx2 : ib ∉ X) (h3 : IsTs w (rb :: ib :: X) v ts) (hn : n < ts.length) (R : Ending → World → Prop)
    (hR : ∀ w' y, Mut w [rb, ib] w' → IsRange w' X (.iface 382 (.pointer (some ⟨rb, 0, none⟩))) ts (n + 1) [rb, ib] → w'.heap[ib]? = some (.cells #[y] 292 (0, 0)) → IsT w' (rb :: ib :: X) y (ts[n]) → R (.returned (.tuple #[.int .i64 n, .iface 261 (.pointer (some ⟨ib, 0, none⟩))])) w') :
    Calls Tryz.prog 290 #[.pointer (some ⟨rb, 0, none⟩)] w R := by
  have hR' := Lib.hid hR
  obtain ⟨b, off, c, rfl, l2, l3, l4, l5⟩ := id h3.ex
  obtain ⟨y, q0, hy⟩ := l5 n hn
  have hbX := l4 (by omega)
  have en : (((n + 1 : Nat) : Int) - 1) = n := by omega
  have h1w := Lib.hid h1
  rw [en] at h1
  have h3' := Lib.hid h3
  have hy' := Lib.hid hy
  have hbX' := Lib.hid hbX
  have hone := hy.one
  have c0 : w.cell? ⟨rb, 0, none⟩ = some (.slice (some ⟨b, off, none⟩) ts.length c) := cells_of h1 0
  have c1 : w.cell? ⟨rb, 1, none⟩ = some (.pointer (some ⟨ib, 0, none⟩)) := cells_of h1 1
  have c2 : w.cell? ⟨rb, 2, none⟩ = some (.int .i64 n) := cells_of h1 2
  have hlen : (ts.length : Int) ≤ 1599289640355 := by omega
  have hni : (n : Int) < (ts.length : Int) := by omega
  have h1' := Lib.hid h1
  have h2' := Lib.hid h2
  clear hR h3 l4 l5 h2 h1 hy hbX en
  go_enter Tryz.func290, Tryz.ntmps290
  go_wp2_with fail
  refine wp_region_script (List.range 10) [] (fun w' => w' = w.drew) [(.read, 0), (.read, 1), (.read, 2), (.read, 3), (.read, 4), (.read, 5), (.read, 6), (.read, 7), (.read, 8), (.read, 9)] (by kernel_rfl) (by kernel_rfl) ?_
  iterate 10 (first | (apply scr_r; (· rfl); (· (first | rfl | (simp [Region.wanted, yielded, go_sem]; done) | (simp [Region.wanted, yielded, go_sem, *]; done))); (· (go_simp; try rfl)); (· (simp [go_sem]; try rfl))) | (apply scr_r0; (· rfl); (· (first | rfl | (simp [Region.wanted, yielded, go_sem]; done) | (simp [Region.wanted, yielded, go_sem, *]; done))); (· (simp [go_sem]; try rfl))))
  refine scr_end ?_
  simp only [Exit.then]
  go_wp2_with fail
  refine wp_region_script [0, 1, 2, 3, 4, 5, 6, 7, 8, 9, 10, 11, 12, 13, 14, 15, 16, 17, 19, 20] [18] (fun w' => w'.heap[rb]? = some (.cells #[.slice (some ⟨b, off, none⟩) ts.length c, .pointer (some ⟨ib, 0, none⟩), .int .i64 n] 390 (0, 0)) ∧ w'.cell? ⟨b, off + n, none⟩ = some y) [(.pure, 0), (.pure, 1), (.pure, 2), (.read, 3), (.pure, 4), (.pure, 5), (.pure, 6), (.read, 7), (.pure, 8), (.pure, 9), (.pure, 10), (.read, 11), (.pure, 12), (.pure, 13), (.pure, 14), (.read, 15), (.pure, 16), (.read, 17), (.one, 18), (.pure, 19), (.pure, 20)] (by kernel_rfl) (by kernel_rfl) ?_
  have hC : w.drew.drew.heap[rb]? = some (.cells #[.slice (some ⟨b, off, none⟩) ts.length c, .pointer (some ⟨ib, 0, none⟩), .int .i64 n] 390 (0, 0)) ∧ w.drew.drew.cell? ⟨b, off + n, none⟩ = some y := ⟨h1'.out, q0⟩
  have hC' := Lib.hid hC
  clear hC
  iterate 18 (first | (apply scr_pure'; (· rfl); (· rfl); (· (intro w'; go_simp; try rfl)); (· (simp [go_sem]; try rfl))) | (apply scr_read'; (· rfl); (· rfl); (· exact hC'.out); (· (intro w' hw'; obtain ⟨g1, g2⟩ := hw'; have d0 := cells_of g1 0; have d1 := cells_of g1 1; have d2 := cells_of g1 2; simp at d0 d1 d2; go_simp; try rfl)); (· (simp [go_sem]; try rfl))))
  refine scr_one rfl rfl (fun K hK => ?_)
  go_simp
  refine reuse_c (w := w.drew.drew) (x := x) h2'.out hone _ ?_
  intro w3 hh3 hg3
  have hM : Mut w [ib] w3 := ((Ext.refl w).drew.drew.mut _).trans (grown_mut hg3 (by simp))
  have hr3 : w3.heap[rb]? = _ := (hM.block _ (Array.getElem?_eq_some_iff.1 h1'.out).1 (by simpa using hne)).trans h1'.out
  have hmv : Mv w (ib :: X) w3 (ib :: X) := hM.mv (by simp)
  have q3 : w3.cell? ⟨b, off + n, none⟩ = some y := (hmv.cell (fun h => hbX'.out (List.mem_cons_of_mem _ h)) q0).1
  refine hK _ _ (fun _ => ⟨hr3, q3⟩) ?_
  clear hK
  (apply scr_pure'; (· rfl); (· rfl); (· (intro w'; go_simp; try rfl)); (· (simp [go_sem]; try rfl)))
  (apply scr_pure'; (· rfl); (· rfl); (· (intro w'; go_simp; try rfl)); (· (simp [go_sem]; try rfl)))
  refine scr_end ?_
  simp only [Exit.then]
  go_wp2_with fail
  have hmv2 : Mv w (rb :: ib :: X) w3 (rb :: ib :: X) := hM.mv (by simp)
  refine hR'.out _ y (hM.more (by simp)) (.list (x := y) ?_ hh3 hne hx1 hx2 (h3'.out.mv hmv2)) hh3 (hy'.out.mv hmv2)
  have e : (((n + 1 : Nat) : Int) - 1) = n := by omega
  rw [e]
  exact hr3

end Go.Proofs.YtihapgangilncaaGreat
namespace Go.Proofs.YtihapgangilncaaGreat
open Go.RowKit

/-- v (of type value.List) is a list of the trees ts -/
structure IsLst (w : World) (X : List Nat) (v : Value) (ts : List T) : Prop where
  ex : ∃ s, v = .iface 361 s ∧ IsTs w X s ts

theorem IsLst.mv {a b : World} {X Y : List Nat} {v : Value} {ts : List T} (h : IsLst a X v ts) (hm : Mv a X b Y) : IsLst b Y v ts := by
  obtain ⟨s, e, h1⟩ := h.ex
  exact ⟨s, e, h1.mv hm⟩

set_option maxRecDepth 100000 in
set_option maxHeartbeats 1000000 in
theorem asListUsing_c {w w0 : World} {X : List Nat} {x al : Value} {ts : List T} (hx : IsT w0 X x (.list ts)) (hm : Mv w0 X w X) (R : Ending → World → Prop) (hR : ∀ w' v, Ext w w' → IsLst w' X v ts → R (.returned v) w') :
    Calls Tryz.prog 247 #[.agg #[x], al] w R := by
  obtain ⟨s, rfl, hs⟩ := hx.inv_list
  obtain ⟨b, off, c, rfl, -⟩ := id hs.ex
  have hs' := Lib.hid hs
  have hR' := Lib.hid hR
  clear hR hs hx
  go_enter Tryz.func247, Tryz.ntmps247
  go_wp2_with fail
  exact hR'.out _ _ (.alloc _ _) ⟨_, rfl, hs'.out.mv (hm.ext (.alloc _ _))⟩

set_option maxRecDepth 100000 in
set_option maxHeartbeats 1000000 in
theorem allocRange_c {w : World} {p : Value} (R : Ending → World → Prop) (hR : ∀ w' rb ib, Ext w w' → w.heap.size ≤ rb → w.heap.size ≤ ib → rb ≠ ib → w'.heap[rb]? = some (.cells #[.slice none 0 0, .pointer (some ⟨ib, 0, none⟩), .int .i64 0] 390 (0, 0)) →
      w'.heap[ib]? = some (.cells #[.nilIface] 292 (0, 0)) → R (.returned (.pointer (some ⟨rb, 0, none⟩))) w') :
    Calls Tryz.prog 242 #[p] w R := by
  have hR' := Lib.hid hR
  clear hR
  go_enter Tryz.func242, Tryz.ntmps242
  go_wp2_with fail
  refine abs2 (G := fun wr => R _ wr) ?_
  intro w1 hE1 hb1 hb2 hs1
  refine hR'.out _ _ _ hE1 ?_ ?_ ?_ hb2 hb1
  all_goals omega

set_option maxRecDepth 100000 in
set_option maxHeartbeats 1000000 in
theorem rangeUsing_c {w : World} {X : List Nat} {s : Value} {ts : List T} {hb : Nat} (hs : IsTs w X s ts) (hX : Old X w) (R : Ending → World → Prop)
    (hR : ∀ w' v B, Ext w w' → IsRange w' X v ts 0 B → (∀ b ∈ B, w.heap.size ≤ b) → R (.returned v) w') :
    Calls Tryz.prog 267 #[s, .iface 258 (.pointer (some ⟨hb, 0, none⟩))] w R := by
  obtain ⟨b, off, c, rfl, l2, l3, l4, l5⟩ := id hs.ex
  have hs' := Lib.hid hs
  have hR' := Lib.hid hR
  have hX' := Lib.hid hX
  clear hR hs hX
  by_cases hl : ts.length = 0
  · have hl' : ((ts.length : Int) == 0) = true := by simpa using hl
    have hnil : ts = [] := List.eq_nil_of_length_eq_zero hl
    have hnil' := Lib.hid hnil
    clear hnil l4 l5 hl
    go_enter Tryz.func267, Tryz.ntmps267
    go_wp2_with fail
    refine hR'.out _ _ [] (.alloc _ _) ?_ (by simp)
    rw [hnil'.out]
    exact .empty _ _
  · have hl' : ((ts.length : Int) == 0) = false := by rw [beq_eq_false_iff_ne]; omega
    clear l4 l5 hl
    go_enter Tryz.func267, Tryz.ntmps267
    go_wp2_with fail
    refine allocRange_c _ ?_
    intro w1 rb ib hE1 hrb hib hne h1 h2
    dsimp only
    go_wp2_with (first | (refine wpL_store1 rfl _ _ _ rfl Tryz.info361 (p := ⟨rb, 0, none⟩) (v := .slice (some ⟨b, off, none⟩) ts.length c) rfl rfl rfl (by rw [cells_of h1 0]; rfl) (frozen_of_row _ _ _ _ _ h1) ?_; obtain ⟨hh3, hg3, hs3⟩ := set_facts (off := 0) (.slice (some ⟨b, off, none⟩) ts.length c) h1; generalize w1.setCell ⟨rb, 0, none⟩ (.slice (some ⟨b, off, none⟩) ts.length c) = w3 at hh3 hg3 hs3 ⊢) | (refine wpL_store1 rfl _ _ _ rfl Tryz.info3 (p := ⟨rb, 2, none⟩) (v := .int .i64 (-1)) rfl rfl rfl (by rw [cells_of hh3 2]; rfl) (frozen_of_row _ _ _ _ _ hh3) ?_; obtain ⟨hh4, hg4, hs4⟩ := set_facts (off := 2) (.int .i64 (-1)) hh3; generalize w3.setCell ⟨rb, 2, none⟩ (.int .i64 (-1)) = w4 at hh4 hg4 hs4 ⊢))
    have hM : Mut w1 [rb] w4 := (grown_mut hg3 (by simp)).trans (grown_mut hg4 (by simp))
    have hE4 : Ext w w4 := hE1.mutated hM (by simpa using hrb)
    refine hR'.out _ _ [rb, ib] hE4 (.list (v := .slice (some ⟨b, off, none⟩) ts.length c) (x := .nilIface) hh4 ?_ hne (fun h => by have := hX'.out _ h; omega) (fun h => by have := hX'.out _ h; omega) ?_) (by simp; omega)
    · exact (hM.block _ (Array.getElem?_eq_some_iff.1 h2).1 (by simpa using fun e => hne (e.symm))).trans h2
    · exact hs'.out.mv (((hE4.mv X).more hib).more hrb)

theorem Row.mut {α : Type} {k : Kind α} {e : TypeId} {w w' : World} {X B : List Nat} {v : Value} {us : List α} (h : Row k e w X v us) (m : Mut w B w') (hB : ∀ b ∈ B, b ∈ X) : Row k e w' X v us := by
  obtain ⟨rows, h1, h2, h3⟩ := h.ex
  exact ⟨rows, h1.keep fun g hg => m.block g (h1.lt hg) (fun hb => h3 g hg (hB g hb)), h2.imp fun _ _ h => k.mv h (m.mv fun b hb => List.mem_append_right _ (hB b hb)), h3⟩

end Go.Proofs.YtihapgangilncaaGreat
