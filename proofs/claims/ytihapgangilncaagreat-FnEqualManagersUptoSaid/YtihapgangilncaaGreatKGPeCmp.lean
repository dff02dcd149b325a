/- (PathElement).Compare, Less; impl.CompareElems, LessElems, EqualElems. (printed by gen_pecmp.py) -/
import Derived.Test.YtihapgangilncaaGreatKGKeysD
import Derived.Test.YtihapgangilncaaGreatKGTameS
namespace Go.Proofs.YtihapgangilncaaGreat
open Go.RowKit
set_option linter.unusedSimpArgs false

/-- how two path elements compare: a field, a key, a value, an index, in this order -/
def cmpPe : PEl → PEl → Int
  | .field s, .field t => cmpS s t
  | .field _, _ => -1
  | .key _, .field _ => 1
  | .key fs, .key gs => cmpE cmpT fs gs
  | .key _, _ => -1
  | .value t, .value u => cmpT t u
  | .value _, .index _ => -1
  | .value _, _ => 1
  | .index n, .index m => cmpI n m
  | .index _, _ => 1

set_option maxRecDepth 100000 in
set_option maxHeartbeats 4000000 in
set_option pp.maxSteps 1000000 in
set_option pp.deepTerms true in
theorem peCompare_field_field {w : World} {X Y : List Nat} {cs ds : List Value} {s : ByteArray} {s2 : ByteArray} (ha : kPe.is w X cs (.field s)) (hb : kPe.is w Y ds (.field s2)) (R : Ending → World → Prop) (hR : Ends R w (.int .i64 (cmpPe (.field s) (.field s2)))) :
    Calls Tryz.prog 100 #[.agg cs.toArray, .agg ds.toArray] w R := by
  obtain ⟨_, rfl, pa, oa, us, rfl, -, -, ha1, ha2⟩ := ha
  obtain ⟨_, rfl, pb, ob, ts, rfl, -, -, hb1, hb2⟩ := hb
  have hR' := Lib.hid hR
  have ga := ha1 0 (by decide)
  have gb := hb1 0 (by decide)
  have ha2' := Lib.hid ha2
  have hb2' := Lib.hid hb2
  simp only [Nat.add_zero] at ga gb
  clear hR ha1 hb1 ha2 hb2
  obtain ⟨rfl, -⟩ := ha2'.out
  obtain ⟨rfl, -⟩ := hb2'.out
  simp only [List.getElem?_cons_zero] at ga gb
  clear ha2' hb2'
  go_enter Tryz.func100, Tryz.ntmps100
  go_wp2_with fail
  refine abs2 (G := Code.wp _ _ _ _) ?_
  intro w1 hE1 hb1 hb2 hs1
  have e0 : w1.cell? ⟨w.heap.size, 0, none⟩ = some (.pointer (some ⟨pa, oa, none⟩)) := cells_of hb1 0; have e1 : w1.cell? ⟨w.heap.size, 1, none⟩ = some (.pointer none) := cells_of hb1 1; have e2 : w1.cell? ⟨w.heap.size, 2, none⟩ = some (.pointer none) := cells_of hb1 2; have e3 : w1.cell? ⟨w.heap.size, 3, none⟩ = some (.pointer none) := cells_of hb1 3
  have f0 : w1.cell? ⟨w.heap.size + 1, 0, none⟩ = some (.pointer (some ⟨pb, ob, none⟩)) := cells_of hb2 0; have f1 : w1.cell? ⟨w.heap.size + 1, 1, none⟩ = some (.pointer none) := cells_of hb2 1; have f2 : w1.cell? ⟨w.heap.size + 1, 2, none⟩ = some (.pointer none) := cells_of hb2 2; have f3 : w1.cell? ⟨w.heap.size + 1, 3, none⟩ = some (.pointer none) := cells_of hb2 3
  replace ga := hE1.keep ga; replace gb := hE1.keep gb
  clear hb1 hb2 hs1
  refine wp_region_script [0, 1, 2, 3, 4, 5, 6, 7, 9] [] (fun w' => w' = w1.drew) [(.read, 0), (.read, 1), (.read, 2), (.read, 3), (.read, 4), (.read, 5), (.read, 6), (.read, 7), (.one, 8), (.pure, 9)] (by kernel_rfl) (by kernel_rfl) ?_
  iterate 8 (first | (apply scr_r; (· rfl); (· (first | rfl | (simp [Region.wanted, yielded, go_sem]; done) | (simp [Region.wanted, yielded, go_sem, *]; done))); (· (go_simp; try rfl)); (· (simp [go_sem]; try rfl))) | (apply scr_r0; (· rfl); (· (first | rfl | (simp [Region.wanted, yielded, go_sem]; done) | (simp [Region.wanted, yielded, go_sem, *]; done))); (· (simp [go_sem]; try rfl))))
  refine scr_one rfl rfl (fun K hK => ?_)
  go_simp
  refine stringsCompare_e _ ?_
  obtain ⟨z, hz⟩ : ∃ z, cmpS s s2 = z := ⟨_, rfl⟩
  rw [hz]
  have hz' := Lib.hid hz
  clear hz
  intro w3 hE3
  refine hK _ _ (fun h => by simp at h) ?_
  clear hK
  (apply scr_pure'; (· rfl); (· rfl); (· (intro w'; go_simp; try rfl)); (· (simp [go_sem]; try rfl)))
  refine scr_end ?_
  simp only [Exit.then]
  go_wp2_with fail
  exact hR'.out.int hz'.out _ (hE1.drew.trans hE3)

set_option maxRecDepth 100000 in
set_option maxHeartbeats 4000000 in
set_option pp.maxSteps 1000000 in
set_option pp.deepTerms true in
theorem peCompare_field_key {w : World} {X Y : List Nat} {cs ds : List Value} {s : ByteArray} {fs2 : EntsOfT T} (ha : kPe.is w X cs (.field s)) (hb : kPe.is w Y ds (.key fs2)) (R : Ending → World → Prop) (hR : Ends R w (.int .i64 (cmpPe (.field s) (.key fs2)))) :
    Calls Tryz.prog 100 #[.agg cs.toArray, .agg ds.toArray] w R := by
  obtain ⟨_, rfl, pa, oa, us, rfl, -, -, ha1, ha2⟩ := ha
  obtain ⟨_, rfl, pb, ob, ts, rfl, -, -, hb1, hb2⟩ := hb
  have hR' := Lib.hid hR
  have ga := ha1 0 (by decide)
  have gb := hb1 0 (by decide)
  have ha2' := Lib.hid ha2
  have hb2' := Lib.hid hb2
  simp only [Nat.add_zero] at ga gb
  clear hR ha1 hb1 ha2 hb2
  go_enter Tryz.func100, Tryz.ntmps100
  go_wp2_with fail
  exact hR'.out _ ((Ext.alloc _ _).push _)

set_option maxRecDepth 100000 in
set_option maxHeartbeats 4000000 in
set_option pp.maxSteps 1000000 in
set_option pp.deepTerms true in
theorem peCompare_field_value {w : World} {X Y : List Nat} {cs ds : List Value} {s : ByteArray} {t2 : T} (ha : kPe.is w X cs (.field s)) (hb : kPe.is w Y ds (.value t2)) (R : Ending → World → Prop) (hR : Ends R w (.int .i64 (cmpPe (.field s) (.value t2)))) :
    Calls Tryz.prog 100 #[.agg cs.toArray, .agg ds.toArray] w R := by
  obtain ⟨_, rfl, pa, oa, us, rfl, -, -, ha1, ha2⟩ := ha
  obtain ⟨_, rfl, pb, ob, ts, rfl, -, -, hb1, hb2⟩ := hb
  have hR' := Lib.hid hR
  have ga := ha1 0 (by decide)
  have gb := hb1 0 (by decide)
  have ha2' := Lib.hid ha2
  have hb2' := Lib.hid hb2
  simp only [Nat.add_zero] at ga gb
  clear hR ha1 hb1 ha2 hb2
  go_enter Tryz.func100, Tryz.ntmps100
  go_wp2_with fail
  exact hR'.out _ ((Ext.alloc _ _).push _)

set_option maxRecDepth 100000 in
set_option maxHeartbeats 4000000 in
set_option pp.maxSteps 1000000 in
set_option pp.deepTerms true in
theorem peCompare_field_index {w : World} {X Y : List Nat} {cs ds : List Value} {s : ByteArray} {n2 : Int} (ha : kPe.is w X cs (.field s)) (hb : kPe.is w Y ds (.index n2)) (R : Ending → World → Prop) (hR : Ends R w (.int .i64 (cmpPe (.field s) (.index n2)))) :
    Calls Tryz.prog 100 #[.agg cs.toArray, .agg ds.toArray] w R := by
  obtain ⟨_, rfl, pa, oa, us, rfl, -, -, ha1, ha2⟩ := ha
  obtain ⟨_, rfl, pb, ob, ts, rfl, -, -, hb1, hb2⟩ := hb
  have hR' := Lib.hid hR
  have ga := ha1 0 (by decide)
  have gb := hb1 0 (by decide)
  have ha2' := Lib.hid ha2
  have hb2' := Lib.hid hb2
  simp only [Nat.add_zero] at ga gb
  clear hR ha1 hb1 ha2 hb2
  go_enter Tryz.func100, Tryz.ntmps100
  go_wp2_with fail
  exact hR'.out _ ((Ext.alloc _ _).push _)

set_option maxRecDepth 100000 in
set_option maxHeartbeats 4000000 in
set_option pp.maxSteps 1000000 in
set_option pp.deepTerms true in
theorem peCompare_key_field {w : World} {X Y : List Nat} {cs ds : List Value} {fs : EntsOfT T} {s2 : ByteArray} (ha : kPe.is w X cs (.key fs)) (hb : kPe.is w Y ds (.field s2)) (R : Ending → World → Prop) (hR : Ends R w (.int .i64 (cmpPe (.key fs) (.field s2)))) :
    Calls Tryz.prog 100 #[.agg cs.toArray, .agg ds.toArray] w R := by
  obtain ⟨_, rfl, pa, oa, us, rfl, -, -, ha1, ha2⟩ := ha
  obtain ⟨_, rfl, pb, ob, ts, rfl, -, -, hb1, hb2⟩ := hb
  have hR' := Lib.hid hR
  have ga := ha1 0 (by decide)
  have gb := hb1 0 (by decide)
  have ha2' := Lib.hid ha2
  have hb2' := Lib.hid hb2
  simp only [Nat.add_zero] at ga gb
  clear hR ha1 hb1 ha2 hb2
  go_enter Tryz.func100, Tryz.ntmps100
  go_wp2_with fail
  exact hR'.out _ ((Ext.alloc _ _).push _)

set_option maxRecDepth 100000 in
set_option maxHeartbeats 4000000 in
set_option pp.maxSteps 1000000 in
set_option pp.deepTerms true in
theorem peCompare_key_key {w : World} {X Y : List Nat} {cs ds : List Value} {fs : EntsOfT T} {fs2 : EntsOfT T} (ha : kPe.is w X cs (.key fs)) (hb : kPe.is w Y ds (.key fs2)) (R : Ending → World → Prop) (hR : Ends R w (.int .i64 (cmpPe (.key fs) (.key fs2)))) :
    Calls Tryz.prog 100 #[.agg cs.toArray, .agg ds.toArray] w R := by
  obtain ⟨_, rfl, pa, oa, us, rfl, -, -, ha1, ha2⟩ := ha
  obtain ⟨_, rfl, pb, ob, ts, rfl, -, -, hb1, hb2⟩ := hb
  have hR' := Lib.hid hR
  have ga := ha1 0 (by decide)
  have gb := hb1 0 (by decide)
  have ha2' := Lib.hid ha2
  have hb2' := Lib.hid hb2
  simp only [Nat.add_zero] at ga gb
  clear hR ha1 hb1 ha2 hb2
  obtain ⟨u, rfl, hu⟩ := ha2'.out
  obtain ⟨v, rfl, hv⟩ := hb2'.out
  have hu' := Lib.hid hu
  have hv' := Lib.hid hv
  have hone := hu.one
  have hone2 := hv.one
  clear hu hv
  simp only [List.getElem?_cons_zero] at ga gb
  clear ha2' hb2'
  go_enter Tryz.func100, Tryz.ntmps100
  go_wp2_with fail
  refine abs2 (G := Code.wp _ _ _ _) ?_
  intro w1 hE1 hb1 hb2 hs1
  have e0 : w1.cell? ⟨w.heap.size, 0, none⟩ = some (.pointer none) := cells_of hb1 0; have e1 : w1.cell? ⟨w.heap.size, 1, none⟩ = some (.pointer (some ⟨pa, oa, none⟩)) := cells_of hb1 1; have e2 : w1.cell? ⟨w.heap.size, 2, none⟩ = some (.pointer none) := cells_of hb1 2; have e3 : w1.cell? ⟨w.heap.size, 3, none⟩ = some (.pointer none) := cells_of hb1 3
  have f0 : w1.cell? ⟨w.heap.size + 1, 0, none⟩ = some (.pointer none) := cells_of hb2 0; have f1 : w1.cell? ⟨w.heap.size + 1, 1, none⟩ = some (.pointer (some ⟨pb, ob, none⟩)) := cells_of hb2 1; have f2 : w1.cell? ⟨w.heap.size + 1, 2, none⟩ = some (.pointer none) := cells_of hb2 2; have f3 : w1.cell? ⟨w.heap.size + 1, 3, none⟩ = some (.pointer none) := cells_of hb2 3
  replace ga := hE1.keep ga; replace gb := hE1.keep gb
  clear hb1 hb2 hs1
  refine wp_region_script [0, 1, 2, 3, 4, 5, 6, 7, 9] [] (fun w' => w' = w1.drew) [(.read, 0), (.read, 1), (.read, 2), (.read, 3), (.read, 4), (.read, 5), (.read, 6), (.read, 7), (.one, 8), (.pure, 9)] (by kernel_rfl) (by kernel_rfl) ?_
  iterate 8 (first | (apply scr_r; (· rfl); (· (first | rfl | (simp [Region.wanted, yielded, go_sem]; done) | (simp [Region.wanted, yielded, go_sem, *]; done))); (· (go_simp; try rfl)); (· (simp [go_sem]; try rfl))) | (apply scr_r0; (· rfl); (· (first | rfl | (simp [Region.wanted, yielded, go_sem]; done) | (simp [Region.wanted, yielded, go_sem, *]; done))); (· (simp [go_sem]; try rfl))))
  refine scr_one rfl rfl (fun K hK => ?_)
  go_simp
  refine fieldListCompare_c (hu'.out.mv (hE1.drew.mv _) (by simp [kFd])) (hv'.out.mv (hE1.drew.mv _) (by simp [kFd])) _ ?_
  obtain ⟨z, hz⟩ : ∃ z, cmpE cmpT fs fs2 = z := ⟨_, rfl⟩
  rw [hz]
  have hz' := Lib.hid hz
  clear hz
  intro w3 hE3
  refine hK _ _ (fun h => by simp at h) ?_
  clear hK
  (apply scr_pure'; (· rfl); (· rfl); (· (intro w'; go_simp; try rfl)); (· (simp [go_sem]; try rfl)))
  refine scr_end ?_
  simp only [Exit.then]
  go_wp2_with fail
  exact hR'.out.int hz'.out _ (hE1.drew.trans hE3)

set_option maxRecDepth 100000 in
set_option maxHeartbeats 4000000 in
set_option pp.maxSteps 1000000 in
set_option pp.deepTerms true in
theorem peCompare_key_value {w : World} {X Y : List Nat} {cs ds : List Value} {fs : EntsOfT T} {t2 : T} (ha : kPe.is w X cs (.key fs)) (hb : kPe.is w Y ds (.value t2)) (R : Ending → World → Prop) (hR : Ends R w (.int .i64 (cmpPe (.key fs) (.value t2)))) :
    Calls Tryz.prog 100 #[.agg cs.toArray, .agg ds.toArray] w R := by
  obtain ⟨_, rfl, pa, oa, us, rfl, -, -, ha1, ha2⟩ := ha
  obtain ⟨_, rfl, pb, ob, ts, rfl, -, -, hb1, hb2⟩ := hb
  have hR' := Lib.hid hR
  have ga := ha1 0 (by decide)
  have gb := hb1 0 (by decide)
  have ha2' := Lib.hid ha2
  have hb2' := Lib.hid hb2
  simp only [Nat.add_zero] at ga gb
  clear hR ha1 hb1 ha2 hb2
  go_enter Tryz.func100, Tryz.ntmps100
  go_wp2_with fail
  exact hR'.out _ ((Ext.alloc _ _).push _)

set_option maxRecDepth 100000 in
set_option maxHeartbeats 4000000 in
set_option pp.maxSteps 1000000 in
set_option pp.deepTerms true in
theorem peCompare_key_index {w : World} {X Y : List Nat} {cs ds : List Value} {fs : EntsOfT T} {n2 : Int} (ha : kPe.is w X cs (.key fs)) (hb : kPe.is w Y ds (.index n2)) (R : Ending → World → Prop) (hR : Ends R w (.int .i64 (cmpPe (.key fs) (.index n2)))) :
    Calls Tryz.prog 100 #[.agg cs.toArray, .agg ds.toArray] w R := by
  obtain ⟨_, rfl, pa, oa, us, rfl, -, -, ha1, ha2⟩ := ha
  obtain ⟨_, rfl, pb, ob, ts, rfl, -, -, hb1, hb2⟩ := hb
  have hR' := Lib.hid hR
  have ga := ha1 0 (by decide)
  have gb := hb1 0 (by decide)
  have ha2' := Lib.hid ha2
  have hb2' := Lib.hid hb2
  simp only [Nat.add_zero] at ga gb
  clear hR ha1 hb1 ha2 hb2
  go_enter Tryz.func100, Tryz.ntmps100
  go_wp2_with fail
  exact hR'.out _ ((Ext.alloc _ _).push _)

set_option maxRecDepth 100000 in
set_option maxHeartbeats 4000000 in
set_option pp.maxSteps 1000000 in
set_option pp.deepTerms true in
theorem peCompare_value_field {w : World} {X Y : List Nat} {cs ds : List Value} {t : T} {s2 : ByteArray} (ha : kPe.is w X cs (.value t)) (hb : kPe.is w Y ds (.field s2)) (R : Ending → World → Prop) (hR : Ends R w (.int .i64 (cmpPe (.value t) (.field s2)))) :
    Calls Tryz.prog 100 #[.agg cs.toArray, .agg ds.toArray] w R := by
  obtain ⟨_, rfl, pa, oa, us, rfl, -, -, ha1, ha2⟩ := ha
  obtain ⟨_, rfl, pb, ob, ts, rfl, -, -, hb1, hb2⟩ := hb
  have hR' := Lib.hid hR
  have ga := ha1 0 (by decide)
  have gb := hb1 0 (by decide)
  have ha2' := Lib.hid ha2
  have hb2' := Lib.hid hb2
  simp only [Nat.add_zero] at ga gb
  clear hR ha1 hb1 ha2 hb2
  go_enter Tryz.func100, Tryz.ntmps100
  go_wp2_with fail
  exact hR'.out _ ((Ext.alloc _ _).push _)

set_option maxRecDepth 100000 in
set_option maxHeartbeats 4000000 in
set_option pp.maxSteps 1000000 in
set_option pp.deepTerms true in
theorem peCompare_value_key {w : World} {X Y : List Nat} {cs ds : List Value} {t : T} {fs2 : EntsOfT T} (ha : kPe.is w X cs (.value t)) (hb : kPe.is w Y ds (.key fs2)) (R : Ending → World → Prop) (hR : Ends R w (.int .i64 (cmpPe (.value t) (.key fs2)))) :
    Calls Tryz.prog 100 #[.agg cs.toArray, .agg ds.toArray] w R := by
  obtain ⟨_, rfl, pa, oa, us, rfl, -, -, ha1, ha2⟩ := ha
  obtain ⟨_, rfl, pb, ob, ts, rfl, -, -, hb1, hb2⟩ := hb
  have hR' := Lib.hid hR
  have ga := ha1 0 (by decide)
  have gb := hb1 0 (by decide)
  have ha2' := Lib.hid ha2
  have hb2' := Lib.hid hb2
  simp only [Nat.add_zero] at ga gb
  clear hR ha1 hb1 ha2 hb2
  go_enter Tryz.func100, Tryz.ntmps100
  go_wp2_with fail
  exact hR'.out _ ((Ext.alloc _ _).push _)

set_option maxRecDepth 100000 in
set_option maxHeartbeats 4000000 in
set_option pp.maxSteps 1000000 in
set_option pp.deepTerms true in
theorem peCompare_value_value {w : World} {X Y : List Nat} {cs ds : List Value} {t : T} {t2 : T} (ha : kPe.is w X cs (.value t)) (hb : kPe.is w Y ds (.value t2)) (R : Ending → World → Prop) (hR : Ends R w (.int .i64 (cmpPe (.value t) (.value t2)))) :
    Calls Tryz.prog 100 #[.agg cs.toArray, .agg ds.toArray] w R := by
  obtain ⟨_, rfl, pa, oa, us, rfl, -, -, ha1, ha2⟩ := ha
  obtain ⟨_, rfl, pb, ob, ts, rfl, -, -, hb1, hb2⟩ := hb
  have hR' := Lib.hid hR
  have ga := ha1 0 (by decide)
  have gb := hb1 0 (by decide)
  have ha2' := Lib.hid ha2
  have hb2' := Lib.hid hb2
  simp only [Nat.add_zero] at ga gb
  clear hR ha1 hb1 ha2 hb2
  obtain ⟨u, rfl, hu⟩ := ha2'.out
  obtain ⟨v, rfl, hv⟩ := hb2'.out
  obtain ⟨_, _, rfl, -⟩ := id hu.ex
  obtain ⟨_, _, rfl, -⟩ := id hv.ex
  have hu' := Lib.hid hu
  have hv' := Lib.hid hv
  clear hu hv
  simp only [List.getElem?_cons_zero] at ga gb
  clear ha2' hb2'
  go_enter Tryz.func100, Tryz.ntmps100
  go_wp2_with fail
  refine abs2 (G := Code.wp _ _ _ _) ?_
  intro w1 hE1 hb1 hb2 hs1
  have e0 : w1.cell? ⟨w.heap.size, 0, none⟩ = some (.pointer none) := cells_of hb1 0; have e1 : w1.cell? ⟨w.heap.size, 1, none⟩ = some (.pointer none) := cells_of hb1 1; have e2 : w1.cell? ⟨w.heap.size, 2, none⟩ = some (.pointer (some ⟨pa, oa, none⟩)) := cells_of hb1 2; have e3 : w1.cell? ⟨w.heap.size, 3, none⟩ = some (.pointer none) := cells_of hb1 3
  have f0 : w1.cell? ⟨w.heap.size + 1, 0, none⟩ = some (.pointer none) := cells_of hb2 0; have f1 : w1.cell? ⟨w.heap.size + 1, 1, none⟩ = some (.pointer none) := cells_of hb2 1; have f2 : w1.cell? ⟨w.heap.size + 1, 2, none⟩ = some (.pointer (some ⟨pb, ob, none⟩)) := cells_of hb2 2; have f3 : w1.cell? ⟨w.heap.size + 1, 3, none⟩ = some (.pointer none) := cells_of hb2 3
  replace ga := hE1.keep ga; replace gb := hE1.keep gb
  clear hb1 hb2 hs1
  refine wp_region_script [0, 1, 2, 3, 4, 5, 6, 7, 9] [] (fun w' => w' = w1.drew) [(.read, 0), (.read, 1), (.read, 2), (.read, 3), (.read, 4), (.read, 5), (.read, 6), (.read, 7), (.one, 8), (.pure, 9)] (by kernel_rfl) (by kernel_rfl) ?_
  iterate 8 (first | (apply scr_r; (· rfl); (· (first | rfl | (simp [Region.wanted, yielded, go_sem]; done) | (simp [Region.wanted, yielded, go_sem, *]; done))); (· (go_simp; try rfl)); (· (simp [go_sem]; try rfl))) | (apply scr_r0; (· rfl); (· (first | rfl | (simp [Region.wanted, yielded, go_sem]; done) | (simp [Region.wanted, yielded, go_sem, *]; done))); (· (simp [go_sem]; try rfl))))
  refine scr_one rfl rfl (fun K hK => ?_)
  go_simp
  refine valueCompare_c (hu'.out.mv (hE1.drew.mv _)) (hv'.out.mv (hE1.drew.mv _)) _ ?_
  obtain ⟨z, hz⟩ : ∃ z, cmpT t t2 = z := ⟨_, rfl⟩
  rw [hz]
  have hz' := Lib.hid hz
  clear hz
  intro w3 hE3
  refine hK _ _ (fun h => by simp at h) ?_
  clear hK
  (apply scr_pure'; (· rfl); (· rfl); (· (intro w'; go_simp; try rfl)); (· (simp [go_sem]; try rfl)))
  refine scr_end ?_
  simp only [Exit.then]
  go_wp2_with fail
  exact hR'.out.int hz'.out _ (hE1.drew.trans hE3)

set_option maxRecDepth 100000 in
set_option maxHeartbeats 4000000 in
set_option pp.maxSteps 1000000 in
set_option pp.deepTerms true in
theorem peCompare_value_index {w : World} {X Y : List Nat} {cs ds : List Value} {t : T} {n2 : Int} (ha : kPe.is w X cs (.value t)) (hb : kPe.is w Y ds (.index n2)) (R : Ending → World → Prop) (hR : Ends R w (.int .i64 (cmpPe (.value t) (.index n2)))) :
    Calls Tryz.prog 100 #[.agg cs.toArray, .agg ds.toArray] w R := by
  obtain ⟨_, rfl, pa, oa, us, rfl, -, -, ha1, ha2⟩ := ha
  obtain ⟨_, rfl, pb, ob, ts, rfl, -, -, hb1, hb2⟩ := hb
  have hR' := Lib.hid hR
  have ga := ha1 0 (by decide)
  have gb := hb1 0 (by decide)
  have ha2' := Lib.hid ha2
  have hb2' := Lib.hid hb2
  simp only [Nat.add_zero] at ga gb
  clear hR ha1 hb1 ha2 hb2
  go_enter Tryz.func100, Tryz.ntmps100
  go_wp2_with fail
  exact hR'.out _ ((Ext.alloc _ _).push _)

set_option maxRecDepth 100000 in
set_option maxHeartbeats 4000000 in
set_option pp.maxSteps 1000000 in
set_option pp.deepTerms true in
theorem peCompare_index_field {w : World} {X Y : List Nat} {cs ds : List Value} {n : Int} {s2 : ByteArray} (ha : kPe.is w X cs (.index n)) (hb : kPe.is w Y ds (.field s2)) (R : Ending → World → Prop) (hR : Ends R w (.int .i64 (cmpPe (.index n) (.field s2)))) :
    Calls Tryz.prog 100 #[.agg cs.toArray, .agg ds.toArray] w R := by
  obtain ⟨_, rfl, pa, oa, us, rfl, -, -, ha1, ha2⟩ := ha
  obtain ⟨_, rfl, pb, ob, ts, rfl, -, -, hb1, hb2⟩ := hb
  have hR' := Lib.hid hR
  have ga := ha1 0 (by decide)
  have gb := hb1 0 (by decide)
  have ha2' := Lib.hid ha2
  have hb2' := Lib.hid hb2
  simp only [Nat.add_zero] at ga gb
  clear hR ha1 hb1 ha2 hb2
  go_enter Tryz.func100, Tryz.ntmps100
  go_wp2_with fail
  exact hR'.out _ ((Ext.alloc _ _).push _)

set_option maxRecDepth 100000 in
set_option maxHeartbeats 4000000 in
set_option pp.maxSteps 1000000 in
set_option pp.deepTerms true in
theorem peCompare_index_key {w : World} {X Y : List Nat} {cs ds : List Value} {n : Int} {fs2 : EntsOfT T} (ha : kPe.is w X cs (.index n)) (hb : kPe.is w Y ds (.key fs2)) (R : Ending → World → Prop) (hR : Ends R w (.int .i64 (cmpPe (.index n) (.key fs2)))) :
    Calls Tryz.prog 100 #[.agg cs.toArray, .agg ds.toArray] w R := by
  obtain ⟨_, rfl, pa, oa, us, rfl, -, -, ha1, ha2⟩ := ha
  obtain ⟨_, rfl, pb, ob, ts, rfl, -, -, hb1, hb2⟩ := hb
  have hR' := Lib.hid hR
  have ga := ha1 0 (by decide)
  have gb := hb1 0 (by decide)
  have ha2' := Lib.hid ha2
  have hb2' := Lib.hid hb2
  simp only [Nat.add_zero] at ga gb
  clear hR ha1 hb1 ha2 hb2
  go_enter Tryz.func100, Tryz.ntmps100
  go_wp2_with fail
  exact hR'.out _ ((Ext.alloc _ _).push _)

set_option maxRecDepth 100000 in
set_option maxHeartbeats 4000000 in
set_option pp.maxSteps 1000000 in
set_option pp.deepTerms true in
theorem peCompare_index_value {w : World} {X Y : List Nat} {cs ds : List Value} {n : Int} {t2 : T} (ha : kPe.is w X cs (.index n)) (hb : kPe.is w Y ds (.value t2)) (R : Ending → World → Prop) (hR : Ends R w (.int .i64 (cmpPe (.index n) (.value t2)))) :
    Calls Tryz.prog 100 #[.agg cs.toArray, .agg ds.toArray] w R := by
  obtain ⟨_, rfl, pa, oa, us, rfl, -, -, ha1, ha2⟩ := ha
  obtain ⟨_, rfl, pb, ob, ts, rfl, -, -, hb1, hb2⟩ := hb
  have hR' := Lib.hid hR
  have ga := ha1 0 (by decide)
  have gb := hb1 0 (by decide)
  have ha2' := Lib.hid ha2
  have hb2' := Lib.hid hb2
  simp only [Nat.add_zero] at ga gb
  clear hR ha1 hb1 ha2 hb2
  go_enter Tryz.func100, Tryz.ntmps100
  go_wp2_with fail
  exact hR'.out _ ((Ext.alloc _ _).push _)

set_option maxRecDepth 100000 in
set_option maxHeartbeats 4000000 in
set_option pp.maxSteps 1000000 in
set_option pp.deepTerms true in
theorem peCompare_index_index {w : World} {X Y : List Nat} {cs ds : List Value} {n : Int} {n2 : Int} (ha : kPe.is w X cs (.index n)) (hb : kPe.is w Y ds (.index n2)) (R : Ending → World → Prop) (hR : Ends R w (.int .i64 (cmpPe (.index n) (.index n2)))) :
    Calls Tryz.prog 100 #[.agg cs.toArray, .agg ds.toArray] w R := by
  obtain ⟨_, rfl, pa, oa, us, rfl, -, -, ha1, ha2⟩ := ha
  obtain ⟨_, rfl, pb, ob, ts, rfl, -, -, hb1, hb2⟩ := hb
  have hR' := Lib.hid hR
  have ga := ha1 0 (by decide)
  have gb := hb1 0 (by decide)
  have ha2' := Lib.hid ha2
  have hb2' := Lib.hid hb2
  simp only [Nat.add_zero] at ga gb
  clear hR ha1 hb1 ha2 hb2
  obtain ⟨rfl, -⟩ := ha2'.out
  obtain ⟨rfl, -⟩ := hb2'.out
  simp only [List.getElem?_cons_zero] at ga gb
  clear ha2' hb2'
  have hcs : (n < n2 ∧ cmpI n n2 = -1) ∨ (¬ n < n2 ∧ (n == n2) = true ∧ cmpI n n2 = 0) ∨ (¬ n < n2 ∧ (n == n2) = false ∧ cmpI n n2 = 1) := by
    by_cases h1 : n < n2
    · exact .inl ⟨h1, by rw [cmpI, if_pos h1]⟩
    by_cases h2 : n = n2
    · subst h2; exact .inr (.inl ⟨h1, by simp, cmpI_self n⟩)
    · exact .inr (.inr ⟨h1, by simpa using h2, by rw [cmpI, if_neg h1, if_pos (by omega)]⟩)
  rcases hcs with ⟨h1, hv⟩ | ⟨h1, h2, hv⟩ | ⟨h1, h2, hv⟩
  · have hv' := Lib.hid hv
    clear hv
    go_enter Tryz.func100, Tryz.ntmps100
    go_wp2_with fail
    refine abs2 (G := Code.wp _ _ _ _) ?_
    intro w1 hE1 hb1 hb2 hs1
    have e0 : w1.cell? ⟨w.heap.size, 0, none⟩ = some (.pointer none) := cells_of hb1 0; have e1 : w1.cell? ⟨w.heap.size, 1, none⟩ = some (.pointer none) := cells_of hb1 1; have e2 : w1.cell? ⟨w.heap.size, 2, none⟩ = some (.pointer none) := cells_of hb1 2; have e3 : w1.cell? ⟨w.heap.size, 3, none⟩ = some (.pointer (some ⟨pa, oa, none⟩)) := cells_of hb1 3
    have f0 : w1.cell? ⟨w.heap.size + 1, 0, none⟩ = some (.pointer none) := cells_of hb2 0; have f1 : w1.cell? ⟨w.heap.size + 1, 1, none⟩ = some (.pointer none) := cells_of hb2 1; have f2 : w1.cell? ⟨w.heap.size + 1, 2, none⟩ = some (.pointer none) := cells_of hb2 2; have f3 : w1.cell? ⟨w.heap.size + 1, 3, none⟩ = some (.pointer (some ⟨pb, ob, none⟩)) := cells_of hb2 3
    replace ga := hE1.keep ga; replace gb := hE1.keep gb
    clear hb1 hb2 hs1
    refine wp_region_script (List.range 9) [] (fun w' => w' = w1.drew) [(.read, 0), (.read, 1), (.read, 2), (.read, 3), (.read, 4), (.read, 5), (.read, 6), (.read, 7), (.read, 8)] (by kernel_rfl) (by kernel_rfl) ?_
    iterate 9 (first | (apply scr_r; (· rfl); (· (first | rfl | (simp [Region.wanted, yielded, go_sem]; done) | (simp [Region.wanted, yielded, go_sem, *]; done))); (· (go_simp; try rfl)); (· (simp [go_sem]; try rfl))) | (apply scr_r0; (· rfl); (· (first | rfl | (simp [Region.wanted, yielded, go_sem]; done) | (simp [Region.wanted, yielded, go_sem, *]; done))); (· (simp [go_sem]; try rfl))))
    refine scr_end ?_
    simp only [Exit.then]
    go_wp2_with fail
    exact hR'.out.int hv'.out _ hE1.drew
  · have hv' := Lib.hid hv
    clear hv
    go_enter Tryz.func100, Tryz.ntmps100
    go_wp2_with fail
    refine abs2 (G := Code.wp _ _ _ _) ?_
    intro w1 hE1 hb1 hb2 hs1
    have e0 : w1.cell? ⟨w.heap.size, 0, none⟩ = some (.pointer none) := cells_of hb1 0; have e1 : w1.cell? ⟨w.heap.size, 1, none⟩ = some (.pointer none) := cells_of hb1 1; have e2 : w1.cell? ⟨w.heap.size, 2, none⟩ = some (.pointer none) := cells_of hb1 2; have e3 : w1.cell? ⟨w.heap.size, 3, none⟩ = some (.pointer (some ⟨pa, oa, none⟩)) := cells_of hb1 3
    have f0 : w1.cell? ⟨w.heap.size + 1, 0, none⟩ = some (.pointer none) := cells_of hb2 0; have f1 : w1.cell? ⟨w.heap.size + 1, 1, none⟩ = some (.pointer none) := cells_of hb2 1; have f2 : w1.cell? ⟨w.heap.size + 1, 2, none⟩ = some (.pointer none) := cells_of hb2 2; have f3 : w1.cell? ⟨w.heap.size + 1, 3, none⟩ = some (.pointer (some ⟨pb, ob, none⟩)) := cells_of hb2 3
    replace ga := hE1.keep ga; replace gb := hE1.keep gb
    clear hb1 hb2 hs1
    refine wp_region_script (List.range 9) [] (fun w' => w' = w1.drew) [(.read, 0), (.read, 1), (.read, 2), (.read, 3), (.read, 4), (.read, 5), (.read, 6), (.read, 7), (.read, 8)] (by kernel_rfl) (by kernel_rfl) ?_
    iterate 9 (first | (apply scr_r; (· rfl); (· (first | rfl | (simp [Region.wanted, yielded, go_sem]; done) | (simp [Region.wanted, yielded, go_sem, *]; done))); (· (go_simp; try rfl)); (· (simp [go_sem]; try rfl))) | (apply scr_r0; (· rfl); (· (first | rfl | (simp [Region.wanted, yielded, go_sem]; done) | (simp [Region.wanted, yielded, go_sem, *]; done))); (· (simp [go_sem]; try rfl))))
    refine scr_end ?_
    simp only [Exit.then]
    go_wp2_with fail
    refine wp_region_script (List.range 9) [] (fun w' => w' = w1.drew.drew) [(.read, 0), (.read, 1), (.read, 2), (.read, 3), (.read, 4), (.read, 5), (.read, 6), (.read, 7), (.read, 8)] (by kernel_rfl) (by kernel_rfl) ?_
    iterate 9 (first | (apply scr_r; (· rfl); (· (first | rfl | (simp [Region.wanted, yielded, go_sem]; done) | (simp [Region.wanted, yielded, go_sem, *]; done))); (· (go_simp; try rfl)); (· (simp [go_sem]; try rfl))) | (apply scr_r0; (· rfl); (· (first | rfl | (simp [Region.wanted, yielded, go_sem]; done) | (simp [Region.wanted, yielded, go_sem, *]; done))); (· (simp [go_sem]; try rfl))))
    refine scr_end ?_
    simp only [Exit.then]
    go_wp2_with fail
    exact hR'.out.int hv'.out _ hE1.drew.drew
  · have hv' := Lib.hid hv
    clear hv
    go_enter Tryz.func100, Tryz.ntmps100
    go_wp2_with fail
    refine abs2 (G := Code.wp _ _ _ _) ?_
    intro w1 hE1 hb1 hb2 hs1
    have e0 : w1.cell? ⟨w.heap.size, 0, none⟩ = some (.pointer none) := cells_of hb1 0; have e1 : w1.cell? ⟨w.heap.size, 1, none⟩ = some (.pointer none) := cells_of hb1 1; have e2 : w1.cell? ⟨w.heap.size, 2, none⟩ = some (.pointer none) := cells_of hb1 2; have e3 : w1.cell? ⟨w.heap.size, 3, none⟩ = some (.pointer (some ⟨pa, oa, none⟩)) := cells_of hb1 3
    have f0 : w1.cell? ⟨w.heap.size + 1, 0, none⟩ = some (.pointer none) := cells_of hb2 0; have f1 : w1.cell? ⟨w.heap.size + 1, 1, none⟩ = some (.pointer none) := cells_of hb2 1; have f2 : w1.cell? ⟨w.heap.size + 1, 2, none⟩ = some (.pointer none) := cells_of hb2 2; have f3 : w1.cell? ⟨w.heap.size + 1, 3, none⟩ = some (.pointer (some ⟨pb, ob, none⟩)) := cells_of hb2 3
    replace ga := hE1.keep ga; replace gb := hE1.keep gb
    clear hb1 hb2 hs1
    refine wp_region_script (List.range 9) [] (fun w' => w' = w1.drew) [(.read, 0), (.read, 1), (.read, 2), (.read, 3), (.read, 4), (.read, 5), (.read, 6), (.read, 7), (.read, 8)] (by kernel_rfl) (by kernel_rfl) ?_
    iterate 9 (first | (apply scr_r; (· rfl); (· (first | rfl | (simp [Region.wanted, yielded, go_sem]; done) | (simp [Region.wanted, yielded, go_sem, *]; done))); (· (go_simp; try rfl)); (· (simp [go_sem]; try rfl))) | (apply scr_r0; (· rfl); (· (first | rfl | (simp [Region.wanted, yielded, go_sem]; done) | (simp [Region.wanted, yielded, go_sem, *]; done))); (· (simp [go_sem]; try rfl))))
    refine scr_end ?_
    simp only [Exit.then]
    go_wp2_with fail
    refine wp_region_script (List.range 9) [] (fun w' => w' = w1.drew.drew) [(.read, 0), (.read, 1), (.read, 2), (.read, 3), (.read, 4), (.read, 5), (.read, 6), (.read, 7), (.read, 8)] (by kernel_rfl) (by kernel_rfl) ?_
    iterate 9 (first | (apply scr_r; (· rfl); (· (first | rfl | (simp [Region.wanted, yielded, go_sem]; done) | (simp [Region.wanted, yielded, go_sem, *]; done))); (· (go_simp; try rfl)); (· (simp [go_sem]; try rfl))) | (apply scr_r0; (· rfl); (· (first | rfl | (simp [Region.wanted, yielded, go_sem]; done) | (simp [Region.wanted, yielded, go_sem, *]; done))); (· (simp [go_sem]; try rfl))))
    refine scr_end ?_
    simp only [Exit.then]
    go_wp2_with fail
    exact hR'.out.int hv'.out _ hE1.drew.drew

theorem peCompare_c {w : World} {X Y : List Nat} {cs ds : List Value} {a b : PEl} (ha : kPe.is w X cs a) (hb : kPe.is w Y ds b) (R : Ending → World → Prop) (hR : Ends R w (.int .i64 (cmpPe a b))) :
    Calls Tryz.prog 100 #[.agg cs.toArray, .agg ds.toArray] w R := by
  cases a <;> cases b
  · exact peCompare_field_field ha hb R hR
  · exact peCompare_field_key ha hb R hR
  · exact peCompare_field_value ha hb R hR
  · exact peCompare_field_index ha hb R hR
  · exact peCompare_key_field ha hb R hR
  · exact peCompare_key_key ha hb R hR
  · exact peCompare_key_value ha hb R hR
  · exact peCompare_key_index ha hb R hR
  · exact peCompare_value_field ha hb R hR
  · exact peCompare_value_key ha hb R hR
  · exact peCompare_value_value ha hb R hR
  · exact peCompare_value_index ha hb R hR
  · exact peCompare_index_field ha hb R hR
  · exact peCompare_index_key ha hb R hR
  · exact peCompare_index_value ha hb R hR
  · exact peCompare_index_index ha hb R hR

end Go.Proofs.YtihapgangilncaaGreat
