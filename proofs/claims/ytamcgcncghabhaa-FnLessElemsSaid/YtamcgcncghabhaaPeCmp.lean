/- (PathElement).Compare, Less; impl.CompareElems, LessElems, EqualElems. (printed by gen_pecmp.py) -/
import Derived.Test.YtamcgcncghabhaaKeysC
import Derived.Test.YtamcgcncghabhaaTameS
namespace Go.Proofs.Ytamcgcncghabhaa
open Go.RowKit
set_option linter.unusedSimpArgs false

/-- how two path elements compare: a field, a key, a value, an index, in this order -/
def cmpPe : PEl → PEl → Int
  | .field s, .field t => cmpS s t
  | .field _, _ => -1
  | .key _, .field _ => 1
  | .key fs, .key gs => cmpE cmpT fs gs
  | .key _, _ => -1
  | .value t, .value u => cmpT t u
  | .value _, .index _ => -1
  | .value _, _ => 1
  | .index n, .index m => cmpI n m
  | .index _, _ => 1

set_option maxRecDepth 100000 in
set_option maxHeartbeats 4000000 in
set_option pp.maxSteps 1000000 in
set_option pp.deepTerms true in
theorem peCompare_field_field {w : World} {X Y : List Nat} {cs ds : List Value} {s : ByteArray} {s2 : ByteArray} (ha : kPe.is w X cs (.field s)) (hb : kPe.is w Y ds (.field s2)) (R : Ending → World → Prop) (hR : Ends R w (.int .i64 (cmpPe (.field s) (.field s2)))) :
    Calls Try.prog 69 #[.agg cs.toArray, .agg ds.toArray] w R := by
  obtain ⟨_, rfl, pa, oa, us, rfl, -, -, ha1, ha2⟩ := ha
  obtain ⟨_, rfl, pb, ob, ts, rfl, -, -, hb1, hb2⟩ := hb
  have hR' := Lib.hid hR
  have ga := ha1 0 (by decide)
  have gb := hb1 0 (by decide)
  have ha2' := Lib.hid ha2
  have hb2' := Lib.hid hb2
  simp only [Nat.add_zero] at ga gb
  clear hR ha1 hb1 ha2 hb2
  obtain ⟨rfl, -⟩ := ha2'.out
  obtain ⟨rfl, -⟩ := hb2'.out
  simp only [List.getElem?_cons_zero] at ga gb
  clear ha2' hb2'
  go_enter Try.func69, Try.ntmps69
  go_wp2_with fail
  refine abs2 (G := Code.wp _ _ _ _) ?_
  intro w1 hE1 hb1 hb2 hs1
  have e0 : w1.cell? ⟨w.heap.size, 0, none⟩ = some (.pointer (some ⟨pa, oa, none⟩)) := cells_of hb1 0; have e1 : w1.cell? ⟨w.heap.size, 1, none⟩ = some (.pointer none) := cells_of hb1 1; have e2 : w1.cell? ⟨w.heap.size, 2, none⟩ = some (.pointer none) := cells_of hb1 2; have e3 : w1.cell? ⟨w.heap.size, 3, none⟩ = some (.pointer none) := cells_of hb1 3
  have f0 : w1.cell? ⟨w.heap.size + 1, 0, none⟩ = some (.pointer (some ⟨pb, ob, none⟩)) := cells_of hb2 0; have f1 : w1.cell? ⟨w.heap.size + 1, 1, none⟩ = some (.pointer none) := cells_of hb2 1; have f2 : w1.cell? ⟨w.heap.size + 1, 2, none⟩ = some (.pointer none) := cells_of hb2 2; have f3 : w1.cell? ⟨w.heap.size + 1, 3, none⟩ = some (.pointer none) := cells_of hb2 3
  replace ga := hE1.keep ga; replace gb := hE1.keep gb
  clear hb1 hb2 hs1
  refine wp_region_script [0, 1, 2, 3, 4, 5, 6, 7, 9] [] (fun w' => w' = w1.drew) [(.read, 0), (.read, 1), (.read, 2), (.read, 3), (.read, 4), (.read, 5), (.read, 6), (.read, 7), (.one, 8), (.pure, 9)] (by kernel_rfl) (by kernel_rfl) ?_
  iterate 8 (first | (apply scr_r; (· rfl); (· (first | rfl | (simp [Region.wanted, yielded, go_sem]; done) | (simp [Region.wanted, yielded, go_sem, *]; done))); (· (go_simp; try rfl)); (· (simp [go_sem]; try rfl))) | (apply scr_r0; (· rfl); (· (first | rfl | (simp [Region.wanted, yielded, go_sem]; done) | (simp [Region.wanted, yielded, go_sem, *]; done))); (· (simp [go_sem]; try rfl))))
  refine scr_one rfl rfl (fun K hK => ?_)
  go_simp
  refine stringsCompare_e _ ?_
  obtain ⟨z, hz⟩ : ∃ z, cmpS s s2 = z := ⟨_, rfl⟩
  rw [hz]
  have hz' := Lib.hid hz
  clear hz
  intro w3 hE3
  refine hK _ _ (fun h => by simp at h) ?_
  clear hK
  (apply scr_pure'; (· rfl); (· rfl); (· (intro w'; go_simp; try rfl)); (· (simp [go_sem]; try rfl)))
  refine scr_end ?_
  simp only [Exit.then]
  go_wp2_with fail
  exact hR'.out.int hz'.out _ (hE1.drew.trans hE3)

set_option maxRecDepth 100000 in
set_option maxHeartbeats 4000000 in
set_option pp.maxSteps 1000000 in
set_option pp.deepTerms true in
theorem peCompare_field_key {w : World} {X Y : List Nat} {cs ds : List Value} {s : ByteArray} {fs2 : EntsOfT T} (ha : kPe.is w X cs (.field s)) (hb : kPe.is w Y ds (.key fs2)) (R : Ending → World → Prop) (hR : Ends R w (.int .i64 (cmpPe (.field s) (.key fs2)))) :
    Calls Try.prog 69 #[.agg cs.toArray, .agg ds.toArray] w R := by
  obtain ⟨_, rfl, pa, oa, us, rfl, -, -, ha1, ha2⟩ := ha
  obtain ⟨_, rfl, pb, ob, ts, rfl, -, -, hb1, hb2⟩ := hb
  have hR' := Lib.hid hR
  have ga := ha1 0 (by decide)
  have gb := hb1 0 (by decide)
  have ha2' := Lib.hid ha2
  have hb2' := Lib.hid hb2
  simp only [Nat.add_zero] at ga gb
  clear hR ha1 hb1 ha2 hb2
  go_enter Try.func69, Try.ntmps69
  go_wp2_with fail
  exact hR'.out _ ((Ext.alloc _ _).push _)

set_option maxRecDepth 100000 in
set_option maxHeartbeats 4000000 in
set_option pp.maxSteps 1000000 in
set_option pp.deepTerms true in
theorem peCompare_field_value {w : World} {X Y : List Nat} {cs ds : List Value} {s : ByteArray} {t2 : T} (ha : kPe.is w X cs (.field s)) (hb : kPe.is w Y ds (.value t2)) (R : Ending → World → Prop) (hR : Ends R w (.int .i64 (cmpPe (.field s) (.value t2)))) :
    Calls Try.prog 69 #[.agg cs.toArray, .agg ds.toArray] w R := by
  obtain ⟨_, rfl, pa, oa, us, rfl, -, -, ha1, ha2⟩ := ha
  obtain ⟨_, rfl, pb, ob, ts, rfl, -, -, hb1, hb2⟩ := hb
  have hR' := Lib.hid hR
  have ga := ha1 0 (by decide)
  have gb := hb1 0 (by decide)
  have ha2' := Lib.hid ha2
  have hb2' := Lib.hid hb2
  simp only [Nat.add_zero] at ga gb
  clear hR ha1 hb1 ha2 hb2
  go_enter Try.func69, Try.ntmps69
  go_wp2_with fail
  exact hR'.out _ ((Ext.alloc _ _).push _)

set_option maxRecDepth 100000 in
set_option maxHeartbeats 4000000 in
set_option pp.maxSteps 1000000 in
set_option pp.deepTerms true in
theorem peCompare_field_index {w : World} {X Y : List Nat} {cs ds : List Value} {s : ByteArray} {n2 : Int} (ha : kPe.is w X cs (.field s)) (hb : kPe.is w Y ds (.index n2)) (R : Ending → World → Prop) (hR : Ends R w (.int .i64 (cmpPe (.field s) (.index n2)))) :
    Calls Try.prog 69 #[.agg cs.toArray, .agg ds.toArray] w R := by
  obtain ⟨_, rfl, pa, oa, us, rfl, -, -, ha1, ha2⟩ := ha
  obtain ⟨_, rfl, pb, ob, ts, rfl, -, -, hb1, hb2⟩ := hb
  have hR' := Lib.hid hR
  have ga := ha1 0 (by decide)
  have gb := hb1 0 (by decide)
  have ha2' := Lib.hid ha2
  have hb2' := Lib.hid hb2
  simp only [Nat.add_zero] at ga gb
  clear hR ha1 hb1 ha2 hb2
  go_enter Try.func69, Try.ntmps69
  go_wp2_with fail
  exact hR'.out _ ((Ext.alloc _ _).push _)

set_option maxRecDepth 100000 in
set_option maxHeartbeats 4000000 in
set_option pp.maxSteps 1000000 in
set_option pp.deepTerms true in
theorem peCompare_key_field {w : World} {X Y : List Nat} {cs ds : List Value} {fs : EntsOfT T} {s2 : ByteArray} (ha : kPe.is w X cs (.key fs)) (hb : kPe.is w Y ds (.field s2)) (R : Ending → World → Prop) (hR : Ends R w (.int .i64 (cmpPe (.key fs) (.field s2)))) :
    Calls Try.prog 69 #[.agg cs.toArray, .agg ds.toArray] w R := by
  obtain ⟨_, rfl, pa, oa, us, rfl, -, -, ha1, ha2⟩ := ha
  obtain ⟨_, rfl, pb, ob, ts, rfl, -, -, hb1, hb2⟩ := hb
  have hR' := Lib.hid hR
  have ga := ha1 0 (by decide)
  have gb := hb1 0 (by decide)
  have ha2' := Lib.hid ha2
  have hb2' := Lib.hid hb2
  simp only [Nat.add_zero] at ga gb
  clear hR ha1 hb1 ha2 hb2
  go_enter Try.func69, Try.ntmps69
  go_wp2_with fail
  exact hR'.out _ ((Ext.alloc _ _).push _)

set_option maxRecDepth 100000 in
set_option maxHeartbeats 4000000 in
set_option pp.maxSteps 1000000 in
set_option pp.deepTerms true in
theorem peCompare_key_key {w : World} {X Y : List Nat} {cs ds : List Value} {fs : EntsOfT T} {fs2 : EntsOfT T} (ha : kPe.is w X cs (.key fs)) (hb : kPe.is w Y ds (.key fs2)) (R : Ending → World → Prop) (hR : Ends R w (.int .i64 (cmpPe (.key fs) (.key fs2)))) :
    Calls Try.prog 69 #[.agg cs.toArray, .agg ds.toArray] w R := by
  obtain ⟨_, rfl, pa, oa, us, rfl, -, -, ha1, ha2⟩ := ha
  obtain ⟨_, rfl, pb, ob, ts, rfl, -, -, hb1, hb2⟩ := hb
  have hR' := Lib.hid hR
  have ga := ha1 0 (by decide)
  have gb := hb1 0 (by decide)
  have ha2' := Lib.hid ha2
  have hb2' := Lib.hid hb2
  simp only [Nat.add_zero] at ga gb
  clear hR ha1 hb1 ha2 hb2
  obtain ⟨u, rfl, hu⟩ := ha2'.out
  obtain ⟨v, rfl, hv⟩ := hb2'.out
  have hu' := Lib.hid hu
  have hv' := Lib.hid hv
  have hone := hu.one
  have hone2 := hv.one
  clear hu hv
  simp only [List.getElem?_cons_zero] at ga gb
  clear ha2' hb2'
  go_enter Try.func69, Try.ntmps69
  go_wp2_with fail
  refine abs2 (G := Code.wp _ _ _ _) ?_
  intro w1 hE1 hb1 hb2 hs1
  have e0 : w1.cell? ⟨w.heap.size, 0, none⟩ = some (.pointer none) := cells_of hb1 0; have e1 : w1.cell? ⟨w.heap.size, 1, none⟩ = some (.pointer (some ⟨pa, oa, none⟩)) := cells_of hb1 1; have e2 : w1.cell? ⟨w.heap.size, 2, none⟩ = some (.pointer none) := cells_of hb1 2; have e3 : w1.cell? ⟨w.heap.size, 3, none⟩ = some (.pointer none) := cells_of hb1 3
  have f0 : w1.cell? ⟨w.heap.size + 1, 0, none⟩ = some (.pointer none) := cells_of hb2 0; have f1 : w1.cell? ⟨w.heap.size + 1, 1, none⟩ = some (.pointer (some ⟨pb, ob, none⟩)) := cells_of hb2 1; have f2 : w1.cell? ⟨w.heap.size + 1, 2, none⟩ = some (.pointer none) := cells_of hb2 2; have f3 : w1.cell? ⟨w.heap.size + 1, 3, none⟩ = some (.pointer none) := cells_of hb2 3
  replace ga := hE1.keep ga; replace gb := hE1.keep gb
  clear hb1 hb2 hs1
  refine wp_region_script [0, 1, 2, 3, 4, 5, 6, 7, 9] [] (fun w' => w' = w1.drew) [(.read, 0), (.read, 1), (.read, 2), (.read, 3), (.read, 4), (.read, 5), (.read, 6), (.read, 7), (.one, 8), (.pure, 9)] (by kernel_rfl) (by kernel_rfl) ?_
  iterate 8 (first | (apply scr_r; (· rfl); (· (first | rfl | (simp [Region.wanted, yielded, go_sem]; done) | (simp [Region.wanted, yielded, go_sem, *]; done))); (· (go_simp; try rfl)); (· (simp [go_sem]; try rfl))) | (apply scr_r0; (· rfl); (· (first | rfl | (simp [Region.wanted, yielded, go_sem]; done) | (simp [Region.wanted, yielded, go_sem, *]; done))); (· (simp [go_sem]; try rfl))))
  refine scr_one rfl rfl (fun K hK => ?_)
  go_simp
  refine fieldListCompare_c (hu'.out.mv (hE1.drew.mv _) (by simp [kFd])) (hv'.out.mv (hE1.drew.mv _) (by simp [kFd])) _ ?_
  obtain ⟨z, hz⟩ : ∃ z, cmpE cmpT fs fs2 = z := ⟨_, rfl⟩
  rw [hz]
  have hz' := Lib.hid hz
  clear hz
  intro w3 hE3
  refine hK _ _ (fun h => by simp at h) ?_
  clear hK
  (apply scr_pure'; (· rfl); (· rfl); (· (intro w'; go_simp; try rfl)); (· (simp [go_sem]; try rfl)))
  refine scr_end ?_
  simp only [Exit.then]
  go_wp2_with fail
  exact hR'.out.int hz'.out _ (hE1.drew.trans hE3)

set_option maxRecDepth 100000 in
set_option maxHeartbeats 4000000 in
set_option pp.maxSteps 1000000 in
set_option pp.deepTerms true in
theorem peCompare_key_value {w : World} {X Y : List Nat} {cs ds : List Value} {fs : EntsOfT T} {t2 : T} (ha : kPe.is w X cs (.key fs)) (hb : kPe.is w Y ds (.value t2)) (R : Ending → World → Prop) (hR : Ends R w (.int .i64 (cmpPe (.key fs) (.value t2)))) :
    Calls Try.prog 69 #[.agg cs.toArray, .agg ds.toArray] w R := by
  obtain ⟨_, rfl, pa, oa, us, rfl, -, -, ha1, ha2⟩ := ha
  obtain ⟨_, rfl, pb, ob, ts, rfl, -, -, hb1, hb2⟩ := hb
  have hR' := Lib.hid hR
  have ga := ha1 0 (by decide)
  have gb := hb1 0 (by decide)
  have ha2' := Lib.hid ha2
  have hb2' := Lib.hid hb2
  simp only [Nat.add_zero] at ga gb
  clear hR ha1 hb1 ha2 hb2
  go_enter Try.func69, Try.ntmps69
  go_wp2_with fail
  exact hR'.out _ ((Ext.alloc _ _).push _)

set_option maxRecDepth 100000 in
set_option maxHeartbeats 4000000 in
set_option pp.maxSteps 1000000 in
set_option pp.deepTerms true in
theorem peCompare_key_index {w : World} {X Y : List Nat} {cs ds : List Value} {fs : EntsOfT T} {n2 : Int} (ha : kPe.is w X cs (.key fs)) (hb : kPe.is w Y ds (.index n2)) (R : Ending → World → Prop) (hR : Ends R w (.int .i64 (cmpPe (.key fs) (.index n2)))) :
    Calls Try.prog 69 #[.agg cs.toArray, .agg ds.toArray] w R := by
  obtain ⟨_, rfl, pa, oa, us, rfl, -, -, ha1, ha2⟩ := ha
  obtain ⟨_, rfl, pb, ob, ts, rfl, -, -, hb1, hb2⟩ := hb
  have hR' := Lib.hid hR
  have ga := ha1 0 (by decide)
  have gb := hb1 0 (by decide)
  have ha2' := Lib.hid ha2
  have hb2' := Lib.hid hb2
  simp only [Nat.add_zero] at ga gb
  clear hR ha1 hb1 ha2 hb2
  go_enter Try.func69, Try.ntmps69
  go_wp2_with fail
  exact hR'.out _ ((Ext.alloc _ _).push _)

set_option maxRecDepth 100000 in
set_option maxHeartbeats 4000000 in
set_option pp.maxSteps 1000000 in
set_option pp.deepTerms true in
theorem peCompare_value_field {w : World} {X Y : List Nat} {cs ds : List Value} {t : T} {s2 : ByteArray} (ha : kPe.is w X cs (.value t)) (hb : kPe.is w Y ds (.field s2)) (R : Ending → World → Prop) (hR : Ends R w (.int .i64 (cmpPe (.value t) (.field s2)))) :
    Calls Try.prog 69 #[.agg cs.toArray, .agg ds.toArray] w R := by
  obtain ⟨_, rfl, pa, oa, us, rfl, -, -, ha1, ha2⟩ := ha
  obtain ⟨_, rfl, pb, ob, ts, rfl, -, -, hb1, hb2⟩ := hb
  have hR' := Lib.hid hR
  have ga := ha1 0 (by decide)
  have gb := hb1 0 (by decide)
  have ha2' := Lib.hid ha2
  have hb2' := Lib.hid hb2
  simp only [Nat.add_zero] at ga gb
  clear hR ha1 hb1 ha2 hb2
  go_enter Try.func69, Try.ntmps69
  go_wp2_with fail
  exact hR'.out _ ((Ext.alloc _ _).push _)

set_option maxRecDepth 100000 in
set_option maxHeartbeats 4000000 in
set_option pp.maxSteps 1000000 in
set_option pp.deepTerms true in
theorem peCompare_value_key {w : World} {X Y : List Nat} {cs ds : List Value} {t : T} {fs2 : EntsOfT T} (ha : kPe.is w X cs (.value t)) (hb : kPe.is w Y ds (.key fs2)) (R : Ending → World → Prop) (hR : Ends R w (.int .i64 (cmpPe (.value t) (.key fs2)))) :
    Calls Try.prog 69 #[.agg cs.toArray, .agg ds.toArray] w R := by
  obtain ⟨_, rfl, pa, oa, us, rfl, -, -, ha1, ha2⟩ := ha
  obtain ⟨_, rfl, pb, ob, ts, rfl, -, -, hb1, hb2⟩ := hb
  have hR' := Lib.hid hR
  have ga := ha1 0 (by decide)
  have gb := hb1 0 (by decide)
  have ha2' := Lib.hid ha2
  have hb2' := Lib.hid hb2
  simp only [Nat.add_zero] at ga gb
  clear hR ha1 hb1 ha2 hb2
  go_enter Try.func69, Try.ntmps69
  go_wp2_with fail
  exact hR'.out _ ((Ext.alloc _ _).push _)

set_option maxRecDepth 100000 in
set_option maxHeartbeats 4000000 in
set_option pp.maxSteps 1000000 in
set_option pp.deepTerms true in
theorem peCompare_value_value {w : World} {X Y : List Nat} {cs ds : List Value} {t : T} {t2 : T} (ha : kPe.is w X cs (.value t)) (hb : kPe.is w Y ds (.value t2)) (R : Ending → World → Prop) (hR : Ends R w (.int .i64 (cmpPe (.value t) (.value t2)))) :
    Calls Try.prog 69 #[.agg cs.toArray, .agg ds.toArray] w R := by
  obtain ⟨_, rfl, pa, oa, us, rfl, -, -, ha1, ha2⟩ := ha
  obtain ⟨_, rfl, pb, ob, ts, rfl, -, -, hb1, hb2⟩ := hb
  have hR' := Lib.hid hR
  have ga := ha1 0 (by decide)
  have gb := hb1 0 (by decide)
  have ha2' := Lib.hid ha2
  have hb2' := Lib.hid hb2
  simp only [Nat.add_zero] at ga gb
  clear hR ha1 hb1 ha2 hb2
  obtain ⟨u, rfl, hu⟩ := ha2'.out
  obtain ⟨v, rfl, hv⟩ := hb2'.out
  obtain ⟨_, _, rfl, -⟩ := id hu.ex
  obtain ⟨_, _, rfl, -⟩ := id hv.ex
  have hu' := Lib.hid hu
  have hv' := Lib.hid hv
  clear hu hv
  simp only [List.getElem?_cons_zero] at ga gb
  clear ha2' hb2'
  go_enter Try.func69, Try.ntmps69
  go_wp2_with fail
  refine abs2 (G := Code.wp _ _ _ _) ?_
  intro w1 hE1 hb1 hb2 hs1
  have e0 : w1.cell? ⟨w.heap.size, 0, none⟩ = some (.pointer none) := cells_of hb1 0; have e1 : w1.cell? ⟨w.heap.size, 1, none⟩ = some (.pointer none) := cells_of hb1 1; have e2 : w1.cell? ⟨w.heap.size, 2, none⟩ = some (.pointer (some ⟨pa, oa, none⟩)) := cells_of hb1 2; have e3 : w1.cell? ⟨w.heap.size, 3, none⟩ = some (.pointer none) := cells_of hb1 3
  have f0 : w1.cell? ⟨w.heap.size + 1, 0, none⟩ = some (.pointer none) := cells_of hb2 0; have f1 : w1.cell? ⟨w.heap.size + 1, 1, none⟩ = some (.pointer none) := cells_of hb2 1; have f2 : w1.cell? ⟨w.heap.size + 1, 2, none⟩ = some (.pointer (some ⟨pb, ob, none⟩)) := cells_of hb2 2; have f3 : w1.cell? ⟨w.heap.size + 1, 3, none⟩ = some (.pointer none) := cells_of hb2 3
  replace ga := hE1.keep ga; replace gb := hE1.keep gb
  clear hb1 hb2 hs1
  refine wp_region_script [0, 1, 2, 3, 4, 5, 6, 7, 9] [] (fun w' => w' = w1.drew) [(.read, 0), (.read, 1), (.read, 2), (.read, 3), (.read, 4), (.read, 5), (.read, 6), (.read, 7), (.one, 8), (.pure, 9)] (by kernel_rfl) (by kernel_rfl) ?_
  iterate 8 (first | (apply scr_r; (· rfl); (· (first | rfl | (simp [Region.wanted, yielded, go_sem]; done) | (simp [Region.wanted, yielded, go_sem, *]; done))); (· (go_simp; try rfl)); (· (simp [go_sem]; try rfl))) | (apply scr_r0; (· rfl); (· (first | rfl | (simp [Region.wanted, yielded, go_sem]; done) | (simp [Region.wanted, yielded, go_sem, *]; done))); (· (simp [go_sem]; try rfl))))
  refine scr_one rfl rfl (fun K hK => ?_)
  go_simp
  refine valueCompare_c (hu'.out.mv (hE1.drew.mv _)) (hv'.out.mv (hE1.drew.mv _)) _ ?_
  obtain ⟨z, hz⟩ : ∃ z, cmpT t t2 = z := ⟨_, rfl⟩
  rw [hz]
  have hz' := Lib.hid hz
  clear hz
  intro w3 hE3
  refine hK _ _ (fun h => by simp at h) ?_
  clear hK
  (apply scr_pure'; (· rfl); (· rfl); (· (intro w'; go_simp; try rfl)); (· (simp [go_sem]; try rfl)))
  refine scr_end ?_
  simp only [Exit.then]
  go_wp2_with fail
  exact hR'.out.int hz'.out _ (hE1.drew.trans hE3)

set_option maxRecDepth 100000 in
set_option maxHeartbeats 4000000 in
set_option pp.maxSteps 1000000 in
set_option pp.deepTerms true in
theorem peCompare_value_index {w : World} {X Y : List Nat} {cs ds : List Value} {t : T} {n2 : Int} (ha : kPe.is w X cs (.value t)) (hb : kPe.is w Y ds (.index n2)) (R : Ending → World → Prop) (hR : Ends R w (.int .i64 (cmpPe (.value t) (.index n2)))) :
    Calls Try.prog 69 #[.agg cs.toArray, .agg ds.toArray] w R := by
  obtain ⟨_, rfl, pa, oa, us, rfl, -, -, ha1, ha2⟩ := ha
  obtain ⟨_, rfl, pb, ob, ts, rfl, -, -, hb1, hb2⟩ := hb
  have hR' := Lib.hid hR
  have ga := ha1 0 (by decide)
  have gb := hb1 0 (by decide)
  have ha2' := Lib.hid ha2
  have hb2' := Lib.hid hb2
  simp only [Nat.add_zero] at ga gb
  clear hR ha1 hb1 ha2 hb2
  go_enter Try.func69, Try.ntmps69
  go_wp2_with fail
  exact hR'.out _ ((Ext.alloc _ _).push _)

set_option maxRecDepth 100000 in
set_option maxHeartbeats 4000000 in
set_option pp.maxSteps 1000000 in
set_option pp.deepTerms true in
theorem peCompare_index_field {w : World} {X Y : List Nat} {cs ds : List Value} {n : Int} {s2 : ByteArray} (ha : kPe.is w X cs (.index n)) (hb : kPe.is w Y ds (.field s2)) (R : Ending → World → Prop) (hR : Ends R w (.int .i64 (cmpPe (.index n) (.field s2)))) :
    Calls Try.prog 69 #[.agg cs.toArray, .agg ds.toArray] w R := by
  obtain ⟨_, rfl, pa, oa, us, rfl, -, -, ha1, ha2⟩ := ha
  obtain ⟨_, rfl, pb, ob, ts, rfl, -, -, hb1, hb2⟩ := hb
  have hR' := Lib.hid hR
  have ga := ha1 0 (by decide)
  have gb := hb1 0 (by decide)
  have ha2' := Lib.hid ha2
  have hb2' := Lib.hid hb2
  simp only [Nat.add_zero] at ga gb
  clear hR ha1 hb1 ha2 hb2
  go_enter Try.func69, Try.ntmps69
  go_wp2_with fail
  exact hR'.out _ ((Ext.alloc _ _).push _)

set_option maxRecDepth 100000 in
set_option maxHeartbeats 4000000 in
set_option pp.maxSteps 1000000 in
set_option pp.deepTerms true in
theorem peCompare_index_key {w : World} {X Y : List Nat} {cs ds : List Value} {n : Int} {fs2 : EntsOfT T} (ha : kPe.is w X cs (.index n)) (hb : kPe.is w Y ds (.key fs2)) (R : Ending → World → Prop) (hR : Ends R w (.int .i64 (cmpPe (.index n) (.key fs2)))) :
    Calls Try.prog 69 #[.agg cs.toArray, .agg ds.toArray] w R := by
  obtain ⟨_, rfl, pa, oa, us, rfl, -, -, ha1, ha2⟩ := ha
  obtain ⟨_, rfl, pb, ob, ts, rfl, -, -, hb1, hb2⟩ := hb
  have hR' := Lib.hid hR
  have ga := ha1 0 (by decide)
  have gb := hb1 0 (by decide)
  have ha2' := Lib.hid ha2
  have hb2' := Lib.hid hb2
  simp only [Nat.add_zero] at ga gb
  clear hR ha1 hb1 ha2 hb2
  go_enter Try.func69, Try.ntmps69
  go_wp2_with fail
  exact hR'.out _ ((Ext.alloc _ _).push _)

set_option maxRecDepth 100000 in
set_option maxHeartbeats 4000000 in
set_option pp.maxSteps 1000000 in
set_option pp.deepTerms true in
theorem peCompare_index_value {w : World} {X Y : List Nat} {cs ds : List Value} {n : Int} {t2 : T} (ha : kPe.is w X cs (.index n)) (hb : kPe.is w Y ds (.value t2)) (R : Ending → World → Prop) (hR : Ends R w (.int .i64 (cmpPe (.index n) (.value t2)))) :
    Calls Try.prog 69 #[.agg cs.toArray, .agg ds.toArray] w R := by
  obtain ⟨_, rfl, pa, oa, us, rfl, -, -, ha1, ha2⟩ := ha
  obtain ⟨_, rfl, pb, ob, ts, rfl, -, -, hb1, hb2⟩ := hb
  have hR' := Lib.hid hR
  have ga := ha1 0 (by decide)
  have gb := hb1 0 (by decide)
  have ha2' := Lib.hid ha2
  have hb2' := Lib.hid hb2
  simp only [Nat.add_zero] at ga gb
  clear hR ha1 hb1 ha2 hb2
  go_enter Try.func69, Try.ntmps69
  go_wp2_with fail
  exact hR'.out _ ((Ext.alloc _ _).push _)

set_option maxRecDepth 100000 in
set_option maxHeartbeats 4000000 in
set_option pp.maxSteps 1000000 in
set_option pp.deepTerms true in
theorem peCompare_index_index {w : World} {X Y : List Nat} {cs ds : List Value} {n : Int} {n2 : Int} (ha : kPe.is w X cs (.index n)) (hb : kPe.is w Y ds (.index n2)) (R : Ending → World → Prop) (hR : Ends R w (.int .i64 (cmpPe (.index n) (.index n2)))) :
    Calls Try.prog 69 #[.agg cs.toArray, .agg ds.toArray] w R := by
  obtain ⟨_, rfl, pa, oa, us, rfl, -, -, ha1, ha2⟩ := ha
  obtain ⟨_, rfl, pb, ob, ts, rfl, -, -, hb1, hb2⟩ := hb
  have hR' := Lib.hid hR
  have ga := ha1 0 (by decide)
  have gb := hb1 0 (by decide)
  have ha2' := Lib.hid ha2
  have hb2' := Lib.hid hb2
  simp only [Nat.add_zero] at ga gb
  clear hR ha1 hb1 ha2 hb2
  obtain ⟨rfl, -⟩ := ha2'.out
  obtain ⟨rfl, -⟩ := hb2'.out
  simp only [List.getElem?_cons_zero] at ga gb
  clear ha2' hb2'
  have hcs : (n < n2 ∧ cmpI n n2 = -1) ∨ (¬ n < n2 ∧ (n == n2) = true ∧ cmpI n n2 = 0) ∨ (¬ n < n2 ∧ (n == n2) = false ∧ cmpI n n2 = 1) := by
    by_cases h1 : n < n2
    · exact .inl ⟨h1, by rw [cmpI, if_pos h1]⟩
    by_cases h2 : n = n2
    · subst h2; exact .inr (.inl ⟨h1, by simp, cmpI_self n⟩)
    · exact .inr (.inr ⟨h1, by simpa using h2, by rw [cmpI, if_neg h1, if_pos (by omega)]⟩)
  rcases hcs with ⟨h1, hv⟩ | ⟨h1, h2, hv⟩ | ⟨h1, h2, hv⟩
  · have hv' := Lib.hid hv
    clear hv
    go_enter Try.func69, Try.ntmps69
    go_wp2_with fail
    refine abs2 (G := Code.wp _ _ _ _) ?_
    intro w1 hE1 hb1 hb2 hs1
    have e0 : w1.cell? ⟨w.heap.size, 0, none⟩ = some (.pointer none) := cells_of hb1 0; have e1 : w1.cell? ⟨w.heap.size, 1, none⟩ = some (.pointer none) := cells_of hb1 1; have e2 : w1.cell? ⟨w.heap.size, 2, none⟩ = some (.pointer none) := cells_of hb1 2; have e3 : w1.cell? ⟨w.heap.size, 3, none⟩ = some (.pointer (some ⟨pa, oa, none⟩)) := cells_of hb1 3
    have f0 : w1.cell? ⟨w.heap.size + 1, 0, none⟩ = some (.pointer none) := cells_of hb2 0; have f1 : w1.cell? ⟨w.heap.size + 1, 1, none⟩ = some (.pointer none) := cells_of hb2 1; have f2 : w1.cell? ⟨w.heap.size + 1, 2, none⟩ = some (.pointer none) := cells_of hb2 2; have f3 : w1.cell? ⟨w.heap.size + 1, 3, none⟩ = some (.pointer (some ⟨pb, ob, none⟩)) := cells_of hb2 3
    replace ga := hE1.keep ga; replace gb := hE1.keep gb
    clear hb1 hb2 hs1
    refine wp_region_script (List.range 9) [] (fun w' => w' = w1.drew) [(.read, 0), (.read, 1), (.read, 2), (.read, 3), (.read, 4), (.read, 5), (.read, 6), (.read, 7), (.read, 8)] (by kernel_rfl) (by kernel_rfl) ?_
    iterate 9 (first | (apply scr_r; (· rfl); (· (first | rfl | (simp [Region.wanted, yielded, go_sem]; done) | (simp [Region.wanted, yielded, go_sem, *]; done))); (· (go_simp; try rfl)); (· (simp [go_sem]; try rfl))) | (apply scr_r0; (· rfl); (· (first | rfl | (simp [Region.wanted, yielded, go_sem]; done) | (simp [Region.wanted, yielded, go_sem, *]; done))); (· (simp [go_sem]; try rfl))))
    refine scr_end ?_
    simp only [Exit.then]
    go_wp2_with fail
    exact hR'.out.int hv'.out _ hE1.drew
  · have hv' := Lib.hid hv
    clear hv
    go_enter Try.func69, Try.ntmps69
    go_wp2_with fail
    refine abs2 (G := Code.wp _ _ _ _) ?_
    intro w1 hE1 hb1 hb2 hs1
    have e0 : w1.cell? ⟨w.heap.size, 0, none⟩ = some (.pointer none) := cells_of hb1 0; have e1 : w1.cell? ⟨w.heap.size, 1, none⟩ = some (.pointer none) := cells_of hb1 1; have e2 : w1.cell? ⟨w.heap.size, 2, none⟩ = some (.pointer none) := cells_of hb1 2; have e3 : w1.cell? ⟨w.heap.size, 3, none⟩ = some (.pointer (some ⟨pa, oa, none⟩)) := cells_of hb1 3
    have f0 : w1.cell? ⟨w.heap.size + 1, 0, none⟩ = some (.pointer none) := cells_of hb2 0; have f1 : w1.cell? ⟨w.heap.size + 1, 1, none⟩ = some (.pointer none) := cells_of hb2 1; have f2 : w1.cell? ⟨w.heap.size + 1, 2, none⟩ = some (.pointer none) := cells_of hb2 2; have f3 : w1.cell? ⟨w.heap.size + 1, 3, none⟩ = some (.pointer (some ⟨pb, ob, none⟩)) := cells_of hb2 3
    replace ga := hE1.keep ga; replace gb := hE1.keep gb
    clear hb1 hb2 hs1
    refine wp_region_script (List.range 9) [] (fun w' => w' = w1.drew) [(.read, 0), (.read, 1), (.read, 2), (.read, 3), (.read, 4), (.read, 5), (.read, 6), (.read, 7), (.read, 8)] (by kernel_rfl) (by kernel_rfl) ?_
    iterate 9 (first | (apply scr_r; (· rfl); (· (first | rfl | (simp [Region.wanted, yielded, go_sem]; done) | (simp [Region.wanted, yielded, go_sem, *]; done))); (· (go_simp; try rfl)); (· (simp [go_sem]; try rfl))) | (apply scr_r0; (· rfl); (· (first | rfl | (simp [Region.wanted, yielded, go_sem]; done) | (simp [Region.wanted, yielded, go_sem, *]; done))); (· (simp [go_sem]; try rfl))))
    refine scr_end ?_
    simp only [Exit.then]
    go_wp2_with fail
    refine wp_region_script (List.range 9) [] (fun w' => w' = w1.drew.drew) [(.read, 0), (.read, 1), (.read, 2), (.read, 3), (.read, 4), (.read, 5), (.read, 6), (.read, 7), (.read, 8)] (by kernel_rfl) (by kernel_rfl) ?_
    iterate 9 (first | (apply scr_r; (· rfl); (· (first | rfl | (simp [Region.wanted, yielded, go_sem]; done) | (simp [Region.wanted, yielded, go_sem, *]; done))); (· (go_simp; try rfl)); (· (simp [go_sem]; try rfl))) | (apply scr_r0; (· rfl); (· (first | rfl | (simp [Region.wanted, yielded, go_sem]; done) | (simp [Region.wanted, yielded, go_sem, *]; done))); (· (simp [go_sem]; try rfl))))
    refine scr_end ?_
    simp only [Exit.then]
    go_wp2_with fail
    exact hR'.out.int hv'.out _ hE1.drew.drew
  · have hv' := Lib.hid hv
    clear hv
    go_enter Try.func69, Try.ntmps69
    go_wp2_with fail
    refine abs2 (G := Code.wp _ _ _ _) ?_
    intro w1 hE1 hb1 hb2 hs1
    have e0 : w1.cell? ⟨w.heap.size, 0, none⟩ = some (.pointer none) := cells_of hb1 0; have e1 : w1.cell? ⟨w.heap.size, 1, none⟩ = some (.pointer none) := cells_of hb1 1; have e2 : w1.cell? ⟨w.heap.size, 2, none⟩ = some (.pointer none) := cells_of hb1 2; have e3 : w1.cell? ⟨w.heap.size, 3, none⟩ = some (.pointer (some ⟨pa, oa, none⟩)) := cells_of hb1 3
    have f0 : w1.cell? ⟨w.heap.size + 1, 0, none⟩ = some (.pointer none) := cells_of hb2 0; have f1 : w1.cell? ⟨w.heap.size + 1, 1, none⟩ = some (.pointer none) := cells_of hb2 1; have f2 : w1.cell? ⟨w.heap.size + 1, 2, none⟩ = some (.pointer none) := cells_of hb2 2; have f3 : w1.cell? ⟨w.heap.size + 1, 3, none⟩ = some (.pointer (some ⟨pb, ob, none⟩)) := cells_of hb2 3
    replace ga := hE1.keep ga; replace gb := hE1.keep gb
    clear hb1 hb2 hs1
    refine wp_region_script (List.range 9) [] (fun w' => w' = w1.drew) [(.read, 0), (.read, 1), (.read, 2), (.read, 3), (.read, 4), (.read, 5), (.read, 6), (.read, 7), (.read, 8)] (by kernel_rfl) (by kernel_rfl) ?_
    iterate 9 (first | (apply scr_r; (· rfl); (· (first | rfl | (simp [Region.wanted, yielded, go_sem]; done) | (simp [Region.wanted, yielded, go_sem, *]; done))); (· (go_simp; try rfl)); (· (simp [go_sem]; try rfl))) | (apply scr_r0; (· rfl); (· (first | rfl | (simp [Region.wanted, yielded, go_sem]; done) | (simp [Region.wanted, yielded, go_sem, *]; done))); (· (simp [go_sem]; try rfl))))
    refine scr_end ?_
    simp only [Exit.then]
    go_wp2_with fail
    refine wp_region_script (List.range 9) [] (fun w' => w' = w1.drew.drew) [(.read, 0), (.read, 1), (.read, 2), (.read, 3), (.read, 4), (.read, 5), (.read, 6), (.read, 7), (.read, 8)] (by kernel_rfl) (by kernel_rfl) ?_
    iterate 9 (first | (apply scr_r; (· rfl); (· (first | rfl | (simp [Region.wanted, yielded, go_sem]; done) | (simp [Region.wanted, yielded, go_sem, *]; done))); (· (go_simp; try rfl)); (· (simp [go_sem]; try rfl))) | (apply scr_r0; (· rfl); (· (first | rfl | (simp [Region.wanted, yielded, go_sem]; done) | (simp [Region.wanted, yielded, go_sem, *]; done))); (· (simp [go_sem]; try rfl))))
    refine scr_end ?_
    simp only [Exit.then]
    go_wp2_with fail
    exact hR'.out.int hv'.out _ hE1.drew.drew

theorem peCompare_c {w : World} {X Y : List Nat} {cs ds : List Value} {a b : PEl} (ha : kPe.is w X cs a) (hb : kPe.is w Y ds b) (R : Ending → World → Prop) (hR : Ends R w (.int .i64 (cmpPe a b))) :
    Calls Try.prog 69 #[.agg cs.toArray, .agg ds.toArray] w R := by
  cases a <;> cases b
  · exact peCompare_field_field ha hb R hR
  · exact peCompare_field_key ha hb R hR
  · exact peCompare_field_value ha hb R hR
  · exact peCompare_field_index ha hb R hR
  · exact peCompare_key_field ha hb R hR
  · exact peCompare_key_key ha hb R hR
  · exact peCompare_key_value ha hb R hR
  · exact peCompare_key_index ha hb R hR
  · exact peCompare_value_field ha hb R hR
  · exact peCompare_value_key ha hb R hR
  · exact peCompare_value_value ha hb R hR
  · exact peCompare_value_index ha hb R hR
  · exact peCompare_index_field ha hb R hR
  · exact peCompare_index_key ha hb R hR
  · exact peCompare_index_value ha hb R hR
  · exact peCompare_index_index ha hb R hR

set_option maxRecDepth 100000 in
set_option maxHeartbeats 1000000 in
theorem peLess_c {w : World} {X Y : List Nat} {cs ds : List Value} {a b : PEl} (ha : kPe.is w X cs a) (hb : kPe.is w Y ds b) (R : Ending → World → Prop) (hR : Ends R w (.bool (decide (cmpPe a b < 0)))) :
    Calls Try.prog 70 #[.agg cs.toArray, .agg ds.toArray] w R := by
  obtain ⟨x0, x1, x2, x3, rfl⟩ := kPe_four ha
  obtain ⟨y0, y1, y2, y3, rfl⟩ := kPe_four hb
  have ha' := Lib.hid ha
  have hb' := Lib.hid hb
  obtain ⟨z, hz⟩ : ∃ z, cmpPe a b = z := ⟨_, rfl⟩
  rw [hz] at hR
  have hz' := Lib.hid hz
  have hR' := Lib.hid hR
  clear hR ha hb hz
  go_enter Try.func70, Try.ntmps70
  go_wp2_with fail
  refine abs2 (G := fun wr => Calls _ _ _ wr _) ?_
  intro w1 hE1 hb1 hb2 hs1
  clear hb1 hb2 hs1
  refine peCompare_c (cs := [x0, x1, x2, x3]) (ds := [y0, y1, y2, y3]) (kPe.mv ha'.out (hE1.mv _)) (kPe.mv hb'.out (hE1.mv _)) _ ?_
  rw [hz'.out]
  intro w2 hE2
  dsimp only
  go_wp2_with fail
  exact hR'.out _ (hE1.trans hE2)


set_option maxRecDepth 100000 in
set_option maxHeartbeats 2000000 in
set_option pp.maxSteps 1000000 in
set_option pp.deepTerms true in
theorem implCompareElems_c {w : World} {X Y : List Nat} {cs ds : List Value} {a b : EL} (ha : kEl.is w X cs a) (hb : kEl.is w Y ds b) (R : Ending → World → Prop) (hR : Ends R w (.int .i64 (cmpPe (toE a) (toE b)))) :
    Calls Try.prog 36 #[.agg cs.toArray, .agg ds.toArray] w R := by
  have ha' := Lib.hid (kEl.mv ha ((Mv.refl _ _).less (Z := []) (by simp)))
  have hb' := Lib.hid (kEl.mv hb ((Mv.refl _ _).less (Z := []) (by simp)))
  obtain ⟨vk, vl, vs, rfl, -, -, -, hks, hl, hv⟩ := ha
  obtain ⟨vk2, vl2, vs2, rfl, -, -, -, hks2, hl2, hv2⟩ := hb
  obtain ⟨x, rfl⟩ := hv.shape
  obtain ⟨y, rfl⟩ := hv2.shape
  obtain ⟨o, c, -, -, rfl, -⟩ := hl.ex
  obtain ⟨o2, c2, -, -, rfl, -⟩ := hl2.ex
  obtain ⟨ko, kc, -, -, rfl, -⟩ := hks.ex
  obtain ⟨ko2, kc2, -, -, rfl, -⟩ := hks2.ex
  obtain ⟨z, hz⟩ : ∃ z, cmpPe (toE a) (toE b) = z := ⟨_, rfl⟩
  rw [hz] at hR
  have hz' := Lib.hid hz
  have hR' := Lib.hid hR
  clear hR hks hl hv hks2 hl2 hv2 hz
  simp only [Cells6.list, List.cons_append, List.nil_append] at ha' hb' ⊢
  go_enter Try.func36, Try.ntmps36
  go_wp2_with fail
  refine abs2 (G := Code.wp _ _ _ _) ?_
  intro w1 hE1 hb1 hb2 hs1
  have e0 : w1.cell? ⟨w.heap.size, 0, none⟩ = some (.int .i64 a.kind) := cells_of hb1 0; have e1 : w1.cell? ⟨w.heap.size, 1, none⟩ = some (.string a.s) := cells_of hb1 1; have e2 : w1.cell? ⟨w.heap.size, 2, none⟩ = some (.slice ko a.keys.length kc) := cells_of hb1 2; have e3 : w1.cell? ⟨w.heap.size, 3, none⟩ = some (.slice o a.l.length c) := cells_of hb1 3; have e4 : w1.cell? ⟨w.heap.size, 4, none⟩ = some (.int .i64 x.kind) := cells_of hb1 4; have e5 : w1.cell? ⟨w.heap.size, 5, none⟩ = some (.int .i64 x.n) := cells_of hb1 5; have e6 : w1.cell? ⟨w.heap.size, 6, none⟩ = some (.float .f64 x.f) := cells_of hb1 6; have e7 : w1.cell? ⟨w.heap.size, 7, none⟩ = some (.string x.s) := cells_of hb1 7; have e8 : w1.cell? ⟨w.heap.size, 8, none⟩ = some (.slice x.ko x.kn x.kc) := cells_of hb1 8; have e9 : w1.cell? ⟨w.heap.size, 9, none⟩ = some (.slice x.o x.m x.c) := cells_of hb1 9; have e10 : w1.cell? ⟨w.heap.size, 10, none⟩ = some (.int .i64 a.n) := cells_of hb1 10
  have f0 : w1.cell? ⟨w.heap.size + 1, 0, none⟩ = some (.int .i64 b.kind) := cells_of hb2 0; have f1 : w1.cell? ⟨w.heap.size + 1, 1, none⟩ = some (.string b.s) := cells_of hb2 1; have f2 : w1.cell? ⟨w.heap.size + 1, 2, none⟩ = some (.slice ko2 b.keys.length kc2) := cells_of hb2 2; have f3 : w1.cell? ⟨w.heap.size + 1, 3, none⟩ = some (.slice o2 b.l.length c2) := cells_of hb2 3; have f4 : w1.cell? ⟨w.heap.size + 1, 4, none⟩ = some (.int .i64 y.kind) := cells_of hb2 4; have f5 : w1.cell? ⟨w.heap.size + 1, 5, none⟩ = some (.int .i64 y.n) := cells_of hb2 5; have f6 : w1.cell? ⟨w.heap.size + 1, 6, none⟩ = some (.float .f64 y.f) := cells_of hb2 6; have f7 : w1.cell? ⟨w.heap.size + 1, 7, none⟩ = some (.string y.s) := cells_of hb2 7; have f8 : w1.cell? ⟨w.heap.size + 1, 8, none⟩ = some (.slice y.ko y.kn y.kc) := cells_of hb2 8; have f9 : w1.cell? ⟨w.heap.size + 1, 9, none⟩ = some (.slice y.o y.m y.c) := cells_of hb2 9; have f10 : w1.cell? ⟨w.heap.size + 1, 10, none⟩ = some (.int .i64 b.n) := cells_of hb2 10
  clear hb1 hb2 hs1
  have hC : Ext w1 w1.drew := (Ext.refl _).drew
  refine wp_region_script [0, 2, 5] [1] (fun w' => Ext w1 w') [(.read, 0), (.read, 2), (.one, 1), (.one, 3), (.one, 4), (.pure, 5)] (by kernel_rfl) (by kernel_rfl) ?_
  (apply scr_read'; (· rfl); (· rfl); (· first | exact hC | exact (Ext.refl _).drew); (· (intro w' hw'; have e0_ := hw'.keep e0; have e1_ := hw'.keep e1; have e2_ := hw'.keep e2; have e3_ := hw'.keep e3; have e4_ := hw'.keep e4; have e5_ := hw'.keep e5; have e6_ := hw'.keep e6; have e7_ := hw'.keep e7; have e8_ := hw'.keep e8; have e9_ := hw'.keep e9; have e10_ := hw'.keep e10; go_simp; try rfl)); (· (simp [go_sem]; try rfl)))
  (apply scr_read'; (· rfl); (· rfl); (· first | exact hC | exact (Ext.refl _).drew); (· (intro w' hw'; have f0_ := hw'.keep f0; have f1_ := hw'.keep f1; have f2_ := hw'.keep f2; have f3_ := hw'.keep f3; have f4_ := hw'.keep f4; have f5_ := hw'.keep f5; have f6_ := hw'.keep f6; have f7_ := hw'.keep f7; have f8_ := hw'.keep f8; have f9_ := hw'.keep f9; have f10_ := hw'.keep f10; go_simp; try rfl)); (· (simp [go_sem]; try rfl)))
  refine scr_one rfl rfl (fun K hK => ?_)
  go_simp
  refine toElem_c (X := []) (kEl.mv ha'.out ((hE1.trans hC).mv _)) (Old.nil _) _ ?_
  intro w2 y1 hE2 h2
  obtain ⟨x0, x1, x2, x3, rfl⟩ := kPe_four h2
  have h2' := Lib.hid h2
  clear h2
  refine hK _ _ (fun _ => hC.trans hE2) ?_
  clear hK
  refine scr_one rfl rfl (fun K hK => ?_)
  go_simp
  refine toElem_c (X := []) (kEl.mv hb'.out ((hE1.trans (hC.trans hE2)).mv _)) (Old.nil _) _ ?_
  intro w3 y2 hE3 h3
  obtain ⟨z0, z1, z2, z3, rfl⟩ := kPe_four h3
  have h3' := Lib.hid h3
  clear h3
  refine hK _ _ (fun h => by simp at h) ?_
  clear hK
  refine scr_one rfl rfl (fun K hK => ?_)
  go_simp
  refine peCompare_c (cs := [x0, x1, x2, x3]) (ds := [z0, z1, z2, z3]) (kPe.mv h2'.out (hE3.mv _)) h3'.out _ ?_
  rw [hz'.out]
  intro w4 hE4
  refine hK _ _ (fun h => by simp at h) ?_
  clear hK
  (apply scr_pure'; (· rfl); (· rfl); (· (intro w'; go_simp; try rfl)); (· (simp [go_sem]; try rfl)))
  refine scr_end ?_
  simp only [Exit.then]
  go_wp2_with fail
  exact hR'.out _ (hE1.trans (hC.trans (hE2.trans (hE3.trans hE4))))


set_option maxRecDepth 100000 in
set_option maxHeartbeats 2000000 in
set_option pp.maxSteps 1000000 in
set_option pp.deepTerms true in
theorem implLessElems_c {w : World} {X Y : List Nat} {cs ds : List Value} {a b : EL} (ha : kEl.is w X cs a) (hb : kEl.is w Y ds b) (R : Ending → World → Prop) (hR : Ends R w (.bool (decide (cmpPe (toE a) (toE b) < 0)))) :
    Calls Try.prog 37 #[.agg cs.toArray, .agg ds.toArray] w R := by
  have ha' := Lib.hid (kEl.mv ha ((Mv.refl _ _).less (Z := []) (by simp)))
  have hb' := Lib.hid (kEl.mv hb ((Mv.refl _ _).less (Z := []) (by simp)))
  obtain ⟨vk, vl, vs, rfl, -, -, -, hks, hl, hv⟩ := ha
  obtain ⟨vk2, vl2, vs2, rfl, -, -, -, hks2, hl2, hv2⟩ := hb
  obtain ⟨x, rfl⟩ := hv.shape
  obtain ⟨y, rfl⟩ := hv2.shape
  obtain ⟨o, c, -, -, rfl, -⟩ := hl.ex
  obtain ⟨o2, c2, -, -, rfl, -⟩ := hl2.ex
  obtain ⟨ko, kc, -, -, rfl, -⟩ := hks.ex
  obtain ⟨ko2, kc2, -, -, rfl, -⟩ := hks2.ex
  obtain ⟨z, hz⟩ : ∃ z, decide (cmpPe (toE a) (toE b) < 0) = z := ⟨_, rfl⟩
  rw [hz] at hR
  have hz' := Lib.hid hz
  have hR' := Lib.hid hR
  clear hR hks hl hv hks2 hl2 hv2 hz
  simp only [Cells6.list, List.cons_append, List.nil_append] at ha' hb' ⊢
  go_enter Try.func37, Try.ntmps37
  go_wp2_with fail
  refine abs2 (G := Code.wp _ _ _ _) ?_
  intro w1 hE1 hb1 hb2 hs1
  have e0 : w1.cell? ⟨w.heap.size, 0, none⟩ = some (.int .i64 a.kind) := cells_of hb1 0; have e1 : w1.cell? ⟨w.heap.size, 1, none⟩ = some (.string a.s) := cells_of hb1 1; have e2 : w1.cell? ⟨w.heap.size, 2, none⟩ = some (.slice ko a.keys.length kc) := cells_of hb1 2; have e3 : w1.cell? ⟨w.heap.size, 3, none⟩ = some (.slice o a.l.length c) := cells_of hb1 3; have e4 : w1.cell? ⟨w.heap.size, 4, none⟩ = some (.int .i64 x.kind) := cells_of hb1 4; have e5 : w1.cell? ⟨w.heap.size, 5, none⟩ = some (.int .i64 x.n) := cells_of hb1 5; have e6 : w1.cell? ⟨w.heap.size, 6, none⟩ = some (.float .f64 x.f) := cells_of hb1 6; have e7 : w1.cell? ⟨w.heap.size, 7, none⟩ = some (.string x.s) := cells_of hb1 7; have e8 : w1.cell? ⟨w.heap.size, 8, none⟩ = some (.slice x.ko x.kn x.kc) := cells_of hb1 8; have e9 : w1.cell? ⟨w.heap.size, 9, none⟩ = some (.slice x.o x.m x.c) := cells_of hb1 9; have e10 : w1.cell? ⟨w.heap.size, 10, none⟩ = some (.int .i64 a.n) := cells_of hb1 10
  have f0 : w1.cell? ⟨w.heap.size + 1, 0, none⟩ = some (.int .i64 b.kind) := cells_of hb2 0; have f1 : w1.cell? ⟨w.heap.size + 1, 1, none⟩ = some (.string b.s) := cells_of hb2 1; have f2 : w1.cell? ⟨w.heap.size + 1, 2, none⟩ = some (.slice ko2 b.keys.length kc2) := cells_of hb2 2; have f3 : w1.cell? ⟨w.heap.size + 1, 3, none⟩ = some (.slice o2 b.l.length c2) := cells_of hb2 3; have f4 : w1.cell? ⟨w.heap.size + 1, 4, none⟩ = some (.int .i64 y.kind) := cells_of hb2 4; have f5 : w1.cell? ⟨w.heap.size + 1, 5, none⟩ = some (.int .i64 y.n) := cells_of hb2 5; have f6 : w1.cell? ⟨w.heap.size + 1, 6, none⟩ = some (.float .f64 y.f) := cells_of hb2 6; have f7 : w1.cell? ⟨w.heap.size + 1, 7, none⟩ = some (.string y.s) := cells_of hb2 7; have f8 : w1.cell? ⟨w.heap.size + 1, 8, none⟩ = some (.slice y.ko y.kn y.kc) := cells_of hb2 8; have f9 : w1.cell? ⟨w.heap.size + 1, 9, none⟩ = some (.slice y.o y.m y.c) := cells_of hb2 9; have f10 : w1.cell? ⟨w.heap.size + 1, 10, none⟩ = some (.int .i64 b.n) := cells_of hb2 10
  clear hb1 hb2 hs1
  have hC : Ext w1 w1.drew := (Ext.refl _).drew
  refine wp_region_script [0, 2, 5] [1] (fun w' => Ext w1 w') [(.read, 0), (.read, 2), (.one, 1), (.one, 3), (.one, 4), (.pure, 5)] (by kernel_rfl) (by kernel_rfl) ?_
  (apply scr_read'; (· rfl); (· rfl); (· first | exact hC | exact (Ext.refl _).drew); (· (intro w' hw'; have e0_ := hw'.keep e0; have e1_ := hw'.keep e1; have e2_ := hw'.keep e2; have e3_ := hw'.keep e3; have e4_ := hw'.keep e4; have e5_ := hw'.keep e5; have e6_ := hw'.keep e6; have e7_ := hw'.keep e7; have e8_ := hw'.keep e8; have e9_ := hw'.keep e9; have e10_ := hw'.keep e10; go_simp; try rfl)); (· (simp [go_sem]; try rfl)))
  (apply scr_read'; (· rfl); (· rfl); (· first | exact hC | exact (Ext.refl _).drew); (· (intro w' hw'; have f0_ := hw'.keep f0; have f1_ := hw'.keep f1; have f2_ := hw'.keep f2; have f3_ := hw'.keep f3; have f4_ := hw'.keep f4; have f5_ := hw'.keep f5; have f6_ := hw'.keep f6; have f7_ := hw'.keep f7; have f8_ := hw'.keep f8; have f9_ := hw'.keep f9; have f10_ := hw'.keep f10; go_simp; try rfl)); (· (simp [go_sem]; try rfl)))
  refine scr_one rfl rfl (fun K hK => ?_)
  go_simp
  refine toElem_c (X := []) (kEl.mv ha'.out ((hE1.trans hC).mv _)) (Old.nil _) _ ?_
  intro w2 y1 hE2 h2
  obtain ⟨x0, x1, x2, x3, rfl⟩ := kPe_four h2
  have h2' := Lib.hid h2
  clear h2
  refine hK _ _ (fun _ => hC.trans hE2) ?_
  clear hK
  refine scr_one rfl rfl (fun K hK => ?_)
  go_simp
  refine toElem_c (X := []) (kEl.mv hb'.out ((hE1.trans (hC.trans hE2)).mv _)) (Old.nil _) _ ?_
  intro w3 y2 hE3 h3
  obtain ⟨z0, z1, z2, z3, rfl⟩ := kPe_four h3
  have h3' := Lib.hid h3
  clear h3
  refine hK _ _ (fun h => by simp at h) ?_
  clear hK
  refine scr_one rfl rfl (fun K hK => ?_)
  go_simp
  refine peLess_c (cs := [x0, x1, x2, x3]) (ds := [z0, z1, z2, z3]) (kPe.mv h2'.out (hE3.mv _)) h3'.out _ ?_
  rw [hz'.out]
  intro w4 hE4
  refine hK _ _ (fun h => by simp at h) ?_
  clear hK
  (apply scr_pure'; (· rfl); (· rfl); (· (intro w'; go_simp; try rfl)); (· (simp [go_sem]; try rfl)))
  refine scr_end ?_
  simp only [Exit.then]
  go_wp2_with fail
  exact hR'.out _ (hE1.trans (hC.trans (hE2.trans (hE3.trans hE4))))


set_option maxRecDepth 100000 in
set_option maxHeartbeats 2000000 in
set_option pp.maxSteps 1000000 in
set_option pp.deepTerms true in
theorem implEqualElems_c {w : World} {X Y : List Nat} {cs ds : List Value} {a b : EL} (ha : kEl.is w X cs a) (hb : kEl.is w Y ds b) (R : Ending → World → Prop) (hR : Ends R w (.bool (eqE (toE a) (toE b)))) :
    Calls Try.prog 38 #[.agg cs.toArray, .agg ds.toArray] w R := by
  have ha' := Lib.hid (kEl.mv ha ((Mv.refl _ _).less (Z := []) (by simp)))
  have hb' := Lib.hid (kEl.mv hb ((Mv.refl _ _).less (Z := []) (by simp)))
  obtain ⟨vk, vl, vs, rfl, -, -, -, hks, hl, hv⟩ := ha
  obtain ⟨vk2, vl2, vs2, rfl, -, -, -, hks2, hl2, hv2⟩ := hb
  obtain ⟨x, rfl⟩ := hv.shape
  obtain ⟨y, rfl⟩ := hv2.shape
  obtain ⟨o, c, -, -, rfl, -⟩ := hl.ex
  obtain ⟨o2, c2, -, -, rfl, -⟩ := hl2.ex
  obtain ⟨ko, kc, -, -, rfl, -⟩ := hks.ex
  obtain ⟨ko2, kc2, -, -, rfl, -⟩ := hks2.ex
  obtain ⟨z, hz⟩ : ∃ z, eqE (toE a) (toE b) = z := ⟨_, rfl⟩
  rw [hz] at hR
  have hz' := Lib.hid hz
  have hR' := Lib.hid hR
  clear hR hks hl hv hks2 hl2 hv2 hz
  simp only [Cells6.list, List.cons_append, List.nil_append] at ha' hb' ⊢
  go_enter Try.func38, Try.ntmps38
  go_wp2_with fail
  refine abs2 (G := Code.wp _ _ _ _) ?_
  intro w1 hE1 hb1 hb2 hs1
  have e0 : w1.cell? ⟨w.heap.size, 0, none⟩ = some (.int .i64 a.kind) := cells_of hb1 0; have e1 : w1.cell? ⟨w.heap.size, 1, none⟩ = some (.string a.s) := cells_of hb1 1; have e2 : w1.cell? ⟨w.heap.size, 2, none⟩ = some (.slice ko a.keys.length kc) := cells_of hb1 2; have e3 : w1.cell? ⟨w.heap.size, 3, none⟩ = some (.slice o a.l.length c) := cells_of hb1 3; have e4 : w1.cell? ⟨w.heap.size, 4, none⟩ = some (.int .i64 x.kind) := cells_of hb1 4; have e5 : w1.cell? ⟨w.heap.size, 5, none⟩ = some (.int .i64 x.n) := cells_of hb1 5; have e6 : w1.cell? ⟨w.heap.size, 6, none⟩ = some (.float .f64 x.f) := cells_of hb1 6; have e7 : w1.cell? ⟨w.heap.size, 7, none⟩ = some (.string x.s) := cells_of hb1 7; have e8 : w1.cell? ⟨w.heap.size, 8, none⟩ = some (.slice x.ko x.kn x.kc) := cells_of hb1 8; have e9 : w1.cell? ⟨w.heap.size, 9, none⟩ = some (.slice x.o x.m x.c) := cells_of hb1 9; have e10 : w1.cell? ⟨w.heap.size, 10, none⟩ = some (.int .i64 a.n) := cells_of hb1 10
  have f0 : w1.cell? ⟨w.heap.size + 1, 0, none⟩ = some (.int .i64 b.kind) := cells_of hb2 0; have f1 : w1.cell? ⟨w.heap.size + 1, 1, none⟩ = some (.string b.s) := cells_of hb2 1; have f2 : w1.cell? ⟨w.heap.size + 1, 2, none⟩ = some (.slice ko2 b.keys.length kc2) := cells_of hb2 2; have f3 : w1.cell? ⟨w.heap.size + 1, 3, none⟩ = some (.slice o2 b.l.length c2) := cells_of hb2 3; have f4 : w1.cell? ⟨w.heap.size + 1, 4, none⟩ = some (.int .i64 y.kind) := cells_of hb2 4; have f5 : w1.cell? ⟨w.heap.size + 1, 5, none⟩ = some (.int .i64 y.n) := cells_of hb2 5; have f6 : w1.cell? ⟨w.heap.size + 1, 6, none⟩ = some (.float .f64 y.f) := cells_of hb2 6; have f7 : w1.cell? ⟨w.heap.size + 1, 7, none⟩ = some (.string y.s) := cells_of hb2 7; have f8 : w1.cell? ⟨w.heap.size + 1, 8, none⟩ = some (.slice y.ko y.kn y.kc) := cells_of hb2 8; have f9 : w1.cell? ⟨w.heap.size + 1, 9, none⟩ = some (.slice y.o y.m y.c) := cells_of hb2 9; have f10 : w1.cell? ⟨w.heap.size + 1, 10, none⟩ = some (.int .i64 b.n) := cells_of hb2 10
  clear hb1 hb2 hs1
  have hC : Ext w1 w1.drew := (Ext.refl _).drew
  refine wp_region_script [0, 2, 5] [1] (fun w' => Ext w1 w') [(.read, 0), (.read, 2), (.one, 1), (.one, 3), (.one, 4), (.pure, 5)] (by kernel_rfl) (by kernel_rfl) ?_
  (apply scr_read'; (· rfl); (· rfl); (· first | exact hC | exact (Ext.refl _).drew); (· (intro w' hw'; have e0_ := hw'.keep e0; have e1_ := hw'.keep e1; have e2_ := hw'.keep e2; have e3_ := hw'.keep e3; have e4_ := hw'.keep e4; have e5_ := hw'.keep e5; have e6_ := hw'.keep e6; have e7_ := hw'.keep e7; have e8_ := hw'.keep e8; have e9_ := hw'.keep e9; have e10_ := hw'.keep e10; go_simp; try rfl)); (· (simp [go_sem]; try rfl)))
  (apply scr_read'; (· rfl); (· rfl); (· first | exact hC | exact (Ext.refl _).drew); (· (intro w' hw'; have f0_ := hw'.keep f0; have f1_ := hw'.keep f1; have f2_ := hw'.keep f2; have f3_ := hw'.keep f3; have f4_ := hw'.keep f4; have f5_ := hw'.keep f5; have f6_ := hw'.keep f6; have f7_ := hw'.keep f7; have f8_ := hw'.keep f8; have f9_ := hw'.keep f9; have f10_ := hw'.keep f10; go_simp; try rfl)); (· (simp [go_sem]; try rfl)))
  refine scr_one rfl rfl (fun K hK => ?_)
  go_simp
  refine toElem_c (X := []) (kEl.mv ha'.out ((hE1.trans hC).mv _)) (Old.nil _) _ ?_
  intro w2 y1 hE2 h2
  obtain ⟨x0, x1, x2, x3, rfl⟩ := kPe_four h2
  have h2' := Lib.hid h2
  clear h2
  refine hK _ _ (fun _ => hC.trans hE2) ?_
  clear hK
  refine scr_one rfl rfl (fun K hK => ?_)
  go_simp
  refine toElem_c (X := []) (kEl.mv hb'.out ((hE1.trans (hC.trans hE2)).mv _)) (Old.nil _) _ ?_
  intro w3 y2 hE3 h3
  obtain ⟨z0, z1, z2, z3, rfl⟩ := kPe_four h3
  have h3' := Lib.hid h3
  clear h3
  refine hK _ _ (fun h => by simp at h) ?_
  clear hK
  refine scr_one rfl rfl (fun K hK => ?_)
  go_simp
  refine peEquals_c (cs := [x0, x1, x2, x3]) (ds := [z0, z1, z2, z3]) (kPe.mv h2'.out (hE3.mv _)) h3'.out _ ?_
  rw [hz'.out]
  intro w4 hE4
  refine hK _ _ (fun h => by simp at h) ?_
  clear hK
  (apply scr_pure'; (· rfl); (· rfl); (· (intro w'; go_simp; try rfl)); (· (simp [go_sem]; try rfl)))
  refine scr_end ?_
  simp only [Exit.then]
  go_wp2_with fail
  exact hR'.out _ (hE1.trans (hC.trans (hE2.trans (hE3.trans hE4))))

end Go.Proofs.Ytamcgcncghabhaa
