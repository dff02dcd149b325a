/- Which types are alike: the laws' small helpers over types. -/
import Derived.Test.YtnndacgokehkpaaConvQ
import Derived.Test.YtnndacgokehkpaaSameV
import Derived.Test.YtnndacgokehkpaaOrderly
import Derived.Test.YtnndacgokehkpaaLists
namespace Go.Proofs.Ytnndacgokehkpaa
open Go.RowKit

theorem IsSl.take1 {α : Type} {k : Kind α} {bytes : Nat} {w : World} {X : List Nat} {o : Option Addr} {n c : Nat} {a : α} {us : List α} (h : IsSl k bytes w X (.slice o n c) (a :: us)) : IsSl k bytes w X (.slice o 1 c) [a] := by
  obtain ⟨o', c', b, off, e, h2, h3, h4, h5⟩ := h.ex
  cases e
  have hl : (a :: us).length = us.length + 1 := rfl
  have hb : 1 * bytes ≤ (us.length + 1) * bytes := Nat.mul_le_mul_right _ (by omega)
  refine ⟨o, c, b, off, rfl, by simp; omega, by rw [hl] at h3; simp only [List.length_cons, List.length_nil]; omega, fun _ => h4 (by omega), fun i hi => ?_⟩
  obtain rfl : i = 0 := by simpa using hi
  exact h5 0 (by omega)

set_option maxRecDepth 100000 in
set_option maxHeartbeats 4000000 in
set_option pp.maxSteps 1000000 in
set_option pp.deepTerms true in
theorem firstList_c {d : Nat} {w : World} {X : List Nat} {s : ByteArray} {vl vm : Value} {ls : List (LtOf A)} (hls : IsSl (kLt (kA d)) 144 w X vl ls) (R : Ending → World → Prop)
    (hR : ∀ w' v, Ext w w' → IsSl (kLt (kA d)) 144 w' X v (ls.take 1) → R (.returned v) w') : Calls Try.prog 25 #[.agg #[.string s, vl, vm]] w R := by
  obtain ⟨lo, lc, lb, loff, rfl, l1, l2, l3, l4⟩ := id hls.ex
  have hR' := Lib.hid hR
  have hls' := Lib.hid hls
  have hcc := Lib.hid l1
  clear hR l3 l4 hls
  cases ls with
  | nil =>
    go_enter Try.func25, Try.ntmps25
    go_wp2_with fail
    exact hR'.out _ _ (.alloc _ _) (hls'.out.mv ((Ext.alloc _ _).mv _) (by simp [kLt]))
  | cons l ls =>
    have hc1 : 1 ≤ lc := by have := hcc.out; simp at this; omega
    have hc2 : (1 : Int) ≤ (lc : Int) := by omega
    go_enter Try.func25, Try.ntmps25
    go_wp2_with fail
    exact hR'.out _ _ (.alloc _ _) ((hls'.out.mv ((Ext.alloc _ _).mv _) (by simp [kLt])).take1)

set_option maxRecDepth 100000 in
set_option maxHeartbeats 4000000 in
set_option pp.maxSteps 1000000 in
set_option pp.deepTerms true in
theorem firstMap_c {d : Nat} {w : World} {X : List Nat} {s : ByteArray} {vl vm : Value} {ls : List (MtOf A)} (hls : IsSl (kMt (kA d)) 144 w X vm ls) (R : Ending → World → Prop)
    (hR : ∀ w' v, Ext w w' → IsSl (kMt (kA d)) 144 w' X v (ls.take 1) → R (.returned v) w') : Calls Try.prog 26 #[.agg #[.string s, vl, vm]] w R := by
  obtain ⟨lo, lc, lb, loff, rfl, l1, l2, l3, l4⟩ := id hls.ex
  have hR' := Lib.hid hR
  have hls' := Lib.hid hls
  have hcc := Lib.hid l1
  clear hR l3 l4 hls
  cases ls with
  | nil =>
    go_enter Try.func26, Try.ntmps26
    go_wp2_with fail
    exact hR'.out _ _ (.alloc _ _) (hls'.out.mv ((Ext.alloc _ _).mv _) (by simp [kMt]))
  | cons l ls =>
    have hc1 : 1 ≤ lc := by have := hcc.out; simp at this; omega
    have hc2 : (1 : Int) ≤ (lc : Int) := by omega
    go_enter Try.func26, Try.ntmps26
    go_wp2_with fail
    exact hR'.out _ _ (.alloc _ _) ((hls'.out.mv ((Ext.alloc _ _).mv _) (by simp [kMt])).take1)

@[go_sem] theorem run_field0 (a b c d e f : Value) (w : World) : (Instr.field 26 (.agg #[a, b, c, d, e, f]) 0).run Try.prog w = .ok a w := by
  have h1 : (isAgg 3).run Try.prog w = .ok false w := by kernel_rfl
  simp [Instr.field, run_underlying Try.underlying26, part, asAgg, h1]
def V.kindOf : V → Int | .mk k _ _ _ _ _ => k
theorem isV_kind {w : World} {X : List Nat} {x : Cells6} {v : V} (h : IsV w X x.list v) : x.kind = v.kindOf := by
  obtain ⟨kind, n, f, s, keys, l⟩ := v
  obtain ⟨ko, kc, o, c, e, _⟩ := h.inv
  simp only [Cells6.list, List.cons.injEq, Value.int.injEq] at e
  exact e.1.2
def dfOf (l : List V) : List V := match l with | [] => [] | v :: _ => if v.clean.kindOf = 0 then [] else [v]

set_option maxRecDepth 100000 in
set_option maxHeartbeats 4000000 in
set_option pp.maxSteps 1000000 in
set_option pp.deepTerms true in
theorem defaultOf_c {d : Nat} {w : World} {X : List Nat} {cs : List Value} {f : FtOf A} (hf : (kFt (kA d)).is w X cs f) (R : Ending → World → Prop)
    (hR : ∀ w' v, Ext w w' → IsVs w' X v (dfOf f.dflt) → R (.returned v) w') : Calls Try.prog 46 #[.agg cs.toArray] w R := by
  obtain ⟨rs, vk, rfl, hr, hk, hl⟩ := hf
  obtain ⟨name, type, dflt⟩ := f
  dsimp only at hr hk hl ⊢
  obtain ⟨a0, a1, a2, a3, a4, a5, rfl, o0, o1, o2, o3, o4, o5⟩ := kRf_six hr
  have hR' := Lib.hid hR
  clear hR hr
  simp only [List.cons_append, List.nil_append]
  cases dflt with
  | nil =>
    obtain ⟨ko, kc, db, doff, rfl, -⟩ := id hk.ex
    go_enter Try.func46, Try.ntmps46
    go_wp2_with fail
    exact hR'.out _ _ (.alloc _ _) (IsVs.nil _ _)
  | cons v vs =>
    obtain ⟨ko, kc, db, doff, rfl, k1, k2, k3, k4⟩ := id hk.ex
    obtain ⟨x, q0, q1, q2, q3, q4, q5, hx⟩ := k4 0 (by simp)
    obtain ⟨rfl, hdX⟩ := k3 (by simp)
    simp only [Nat.zero_mul, Nat.add_zero] at q0 q1 q2 q3 q4 q5
    have hgt : (((v :: vs).length : Int) == 0) = false := by simp; omega
    have hlp : (0 : Int) < ((v :: vs).length : Int) := by simp
    have r0 := fun o => (Ext.alloc w o).keep q0
    have r1 := fun o => (Ext.alloc w o).keep q1
    have r2 := fun o => (Ext.alloc w o).keep q2
    have r3 := fun o => (Ext.alloc w o).keep q3
    have r4 := fun o => (Ext.alloc w o).keep q4
    have r5 := fun o => (Ext.alloc w o).keep q5
    have hc1 : 1 ≤ kc := by simp at k1; omega
    have hc2 : (1 : Int) ≤ (kc : Int) := by omega
    have hx' := Lib.hid hx
    have hk' := Lib.hid hk
    have hgt2 : ((vs.length : Int) + 1 == 0) = false := by rw [beq_eq_false_iff_ne]; omega
    clear hx k1 k2 k3 k4 hk q0 q1 q2 q3 q4 q5
    go_enter Try.func46, Try.ntmps46
    go_wp2_with fail
    refine clean_all v _ [] x.list (hx'.out.mv (((Ext.alloc _ _).mv X).less (by simp))) (Old.nil _) _ ?_
    intro w2 cs2 hE2 hz
    obtain ⟨z, rfl⟩ := hz.shape
    have hzk := isV_kind hz
    obtain ⟨hE, hb, hsz⟩ := ext_new hE2
    have r7 := cells_of hb 7
    simp only [List.getElem?_toArray, List.getElem?_cons_zero, List.getElem?_cons_succ] at r7
    clear hz hE2 hb r0 r1 r2 r3 r4 r5
    dsimp only
    simp only [Cells6.list]
    by_cases hz0 : v.clean.kindOf = 0
    · have hz1 : (z.kind == 0) = true := by rw [hzk, hz0]; rfl
      have hzk' := Lib.hid hzk
      have hz0' := Lib.hid hz0
      clear hzk hz0
      go_wp2_with fail
      refine hR'.out _ _ hE ?_
      rw [show dfOf (v :: vs) = [] from if_pos hz0'.out]
      exact IsVs.nil _ _
    · have hz1 : (z.kind == 0) = false := by rw [hzk]; simpa using hz0
      have hzk' := Lib.hid hzk
      have hz0' := Lib.hid hz0
      clear hzk hz0
      go_wp2_with fail
      refine hR'.out _ _ hE ?_
      rw [show dfOf (v :: vs) = [v] from if_neg hz0'.out]
      exact ((hk'.out.mv (hE.mv _)).isSl.take1).isVs

set_option maxRecDepth 100000 in
set_option maxHeartbeats 4000000 in
set_option pp.maxSteps 1000000 in
set_option pp.deepTerms true in
theorem orderlyValues_any {w : World} {X : List Nat} {v : Value} {l : List V} (hl : IsVs w X v l) (R : Ending → World → Prop) (hR : ∀ w' u, Ext w w' → R (.returned (.bool u)) w') :
    Calls Try.prog 27 #[v] w R := by
  obtain ⟨o, c, b, off, rfl, h2, h3, h4, h5⟩ := hl.ex
  have hR' := Lib.hid hR
  have hh5 := Lib.hid h5
  have hh4 := Lib.hid h4
  clear hR hl h5 h4
  go_enter Try.func27, Try.ntmps27
  go_wp2_with fail
  go_loopw [7] (fun i wr => ∃ k : Nat, k ≤ l.length ∧ i = .int .i64 k ∧ Ext w wr) (fun i _ => l.length - (intOf i).toNat)
  case atStart => exact ⟨0, Nat.zero_le _, rfl, Ext.refl _⟩
  case round =>
    obtain ⟨k, hk, rfl, hb⟩ := hrel
    by_cases hlt : k < l.length
    · obtain ⟨rfl, hbX⟩ := hh4.out (by omega)
      obtain ⟨x, c0, c1, c2, c3, c4, c5, hx⟩ := hh5.out k hlt
      have d0 := hb.keep c0
      have d1 := hb.keep c1
      have d2 := hb.keep c2
      have d3 := hb.keep c3
      have d4 := hb.keep c4
      have d5 := hb.keep c5
      have hx' := Lib.hid hx
      clear c0 c1 c2 c3 c4 c5 hx
      go_wp2_with fail
      refine orderly_c _ (hx'.out.mv ((hb.push _).mv X)) _ ?_
      obtain ⟨bb, hbb⟩ : ∃ bb, (l[k]).orderly = bb := ⟨_, rfl⟩
      rw [hbb]
      clear hbb
      intro w1 hb1
      dsimp only
      cases bb
      · go_wp2_with fail
        exact hR'.out _ _ ((hb.push _).trans hb1)
      · go_wp2_with fail
        go_roundw
        case rel => exact ⟨k + 1, by omega, by go_num, (hb.push _).trans hb1⟩
        case measure => simp [intOf]; omega
    · go_wp2_with fail
      exact hR'.out _ _ hb

end Go.Proofs.Ytnndacgokehkpaa
