/- impl.toPath. value.Equals, FieldList.Equals, PathElement.Equals, Path.Equals. Path.Equals, impl.EqualPaths. -/
import Derived.Test.YtamcgcncghabhaaElems
namespace Go.Proofs.Ytamcgcncghabhaa
open Go.RowKit

theorem Try.info93 : (Try.prog.info? 93).map (fun i => (i.zero, i.size, i.bytes)) = some (some (.agg #[.pointer none, .pointer none, .pointer none, .pointer none]), 4, 32) := by kernel_rfl
theorem Try.size31 : (Try.prog.info? 31).map (·.size) = some 11 := by kernel_rfl

theorem kEl_eleven {w : World} {X : List Nat} {cs : List Value} {e : EL} (h : kEl.is w X cs e) : ∃ c0 c1 c2 c3 c4 c5 c6 c7 c8 c9 c10, cs = [c0, c1, c2, c3, c4, c5, c6, c7, c8, c9, c10] := by
  have := kEl.len h
  match cs, this with
  | [c0, c1, c2, c3, c4, c5, c6, c7, c8, c9, c10], _ => exact ⟨_, _, _, _, _, _, _, _, _, _, _, rfl⟩
theorem kPe_four {w : World} {X : List Nat} {cs : List Value} {e : PEl} (h : kPe.is w X cs e) : ∃ c0 c1 c2 c3, cs = [c0, c1, c2, c3] := by
  have := kPe.len h
  match cs, this with
  | [c0, c1, c2, c3], _ => exact ⟨_, _, _, _, rfl⟩

end Go.Proofs.Ytamcgcncghabhaa

namespace Go.Proofs.Ytamcgcncghabhaa
open Go.RowKit

def pairB {α : Type} (f : α → α → Bool) : List α → List α → Bool
  | x :: l, y :: m => f x y && pairB f l m
  | _, _ => true
theorem pairB_iff {α : Type} {f : α → α → Bool} : ∀ {m l : List α}, m.length = l.length → (pairB f m l = true ↔ ∀ i (h : i < m.length) (h2 : i < l.length), f m[i] l[i] = true)
  | [], [], _ => by simp [pairB]
  | [], _ :: _, h => by simp at h
  | _ :: _, [], h => by simp at h
  | x :: m, y :: l, h => by
    simp only [pairB, Bool.and_eq_true, pairB_iff (m := m) (l := l) (by simpa using h)]
    constructor
    · rintro ⟨h1, h2⟩ i hi hi2
      cases i with
      | zero => exact h1
      | succ i => exact h2 i (by simpa using hi) (by simpa using hi2)
    · intro h
      exact ⟨h 0 (by simp) (by simp), fun i hi hi2 => h (i + 1) (by simpa using hi) (by simpa using hi2)⟩
def listB {α : Type} (f : α → α → Bool) (l m : List α) : Bool := decide (l.length = m.length) && pairB f l m

def eqFd (p q : ByteArray × T) : Bool := p.1 == q.1 && eqT p.2 q.2
def eqE : PEl → PEl → Bool
  | .field s, .field t => s == t
  | .key fs, .key gs => listB eqFd fs gs
  | .value t, .value u => eqT t u
  | .index n, .index m => n == m
  | _, _ => false

set_option maxRecDepth 100000 in
set_option maxHeartbeats 1000000 in
theorem valueEquals_c {w : World} {X Y : List Nat} {a b : T} {va vb : Value} (ha : IsVal w X va a) (hb : IsVal w Y vb b) (R : Ending → World → Prop) (hR : Ends R w (.bool (eqT a b))) :
    Calls Try.prog 59 #[va, vb] w R := by
  obtain ⟨pa, xa, rfl, -⟩ := id ha.ex
  obtain ⟨pb, xb, rfl, -⟩ := id hb.ex
  have ha' := Lib.hid ha
  have hb' := Lib.hid hb
  have hR' := Lib.hid hR
  clear hR ha hb
  go_enter Try.func59, Try.ntmps59
  go_wp2_with fail
  refine equals_c b _ X Y a _ _ _ (ha'.out.mv ((Ext.alloc _ _).mv _)) (hb'.out.mv ((Ext.alloc _ _).mv _)) ⟨_, rfl⟩ _ ?_
  intro w2 hE2
  dsimp only
  go_wp2_with fail
  exact hR'.out _ ((Ext.alloc _ _).trans hE2)

set_option maxRecDepth 100000 in
set_option maxHeartbeats 4000000 in
set_option pp.maxSteps 1000000 in
set_option pp.deepTerms true in
theorem fieldListEquals_c {w : World} {X Y : List Nat} {va vb : Value} {fs gs : EntsOfT T} (ha : IsSl kFd 32 w X va fs) (hb : IsSl kFd 32 w Y vb gs) (R : Ending → World → Prop) (hR : Ends R w (.bool (listB eqFd fs gs))) :
    Calls Try.prog 89 #[va, vb] w R := by
  obtain ⟨o, c, b, off, rfl, l2, l3, l4, l5⟩ := id ha.ex
  obtain ⟨o2, c2, b2, off2, rfl, m2, m3, m4, m5⟩ := id hb.ex
  have l4' := Lib.hid l4
  have l5' := Lib.hid l5
  have m4' := Lib.hid m4
  have m5' := Lib.hid m5
  have hR' := Lib.hid hR
  clear hR ha hb l4 l5 m4 m5
  by_cases hlen : fs.length = gs.length
  rotate_left
  · have hl' : ((fs.length : Int) != (gs.length : Int)) = true := by rw [bne_iff_ne]; omega
    have hlen' := Lib.hid hlen
    clear hlen
    go_enter Try.func89, Try.ntmps89
    go_wp2_with fail
    exact hR'.out.bool (by simp [listB, hlen'.out]) _ (Ext.refl _)
  have hl' : ((fs.length : Int) != (gs.length : Int)) = false := by simpa using congrArg Int.ofNat hlen
  have hlen' := Lib.hid hlen
  clear hlen
  go_enter Try.func89, Try.ntmps89
  go_wp2_with fail
  go_loopw [13] (fun i wr => ∃ k : Nat, k ≤ fs.length ∧ i = .int .i64 k ∧ Ext w wr ∧ Hid (∀ j (h : j < fs.length) (h2 : j < gs.length), j < k → eqFd fs[j] gs[j] = true)) (fun i _ => fs.length - (intOf i).toNat)
  case atStart => exact ⟨0, Nat.zero_le _, rfl, Ext.refl _, Lib.hid fun j _ _ hj => by omega⟩
  case round =>
    obtain ⟨k, hk, rfl, hEr, hall⟩ := hrel
    rename World => wr
    by_cases hlt : k < fs.length
    · have hlt2 : k < gs.length := by have := hlen'.out; omega
      obtain ⟨cs, hc, v, rfl, hcs, hv⟩ := l5'.out k hlt
      obtain ⟨ds, hd, u, rfl, hds, hu⟩ := m5'.out k hlt2
      obtain ⟨rfl, -⟩ := l4'.out (by omega)
      obtain ⟨rfl, -⟩ := m4'.out (by omega)
      have q0 := hEr.keep (hc 0 (by decide))
      have q1 := hEr.keep (hc 1 (by decide))
      have r0 := hEr.keep (hd 0 (by decide))
      have r1 := hEr.keep (hd 1 (by decide))
      simp only [show kFd.size = 2 from rfl, Nat.add_zero] at q0 q1 r0 r1
      obtain ⟨pa, xa, rfl, -⟩ := id hv.ex
      obtain ⟨pb, xb, rfl, -⟩ := id hu.ex
      have hv' := Lib.hid hv
      have hu' := Lib.hid hu
      have hi1 : (k : Int) < (fs.length : Int) := by omega
      have hi2 : (k : Int) < (gs.length : Int) := by omega
      have hkm : (k : Int) + 1 ≤ 9223372036854775807 := by omega
      clear hc hd hv hu
      by_cases hn : (fs[k]).1 = (gs[k]).1
      · have hnb : ((fs[k]).1.toList == (gs[k]).1.toList) = true := by rw [hn]; simp
        have hn' := Lib.hid hn
        clear hn
        go_wp2_with fail
        refine wp_region_script (List.range 11) [] (fun w' => w' = wr.drew) [(.read, 0), (.read, 1), (.read, 2), (.read, 3), (.read, 4), (.read, 5), (.read, 6), (.read, 7), (.read, 8), (.read, 9), (.read, 10)] (by kernel_rfl) (by kernel_rfl) ?_
        iterate 11 (first | (apply scr_r; (· rfl); (· (first | rfl | (simp [Region.wanted, yielded, go_sem]; done) | (simp [Region.wanted, yielded, go_sem, *]; done))); (· (go_simp; try rfl)); (· (simp [go_sem]; try rfl))) | (apply scr_r0; (· rfl); (· (first | rfl | (simp [Region.wanted, yielded, go_sem]; done) | (simp [Region.wanted, yielded, go_sem, *]; done))); (· (simp [go_sem]; try rfl))))
        refine scr_end ?_
        simp only [Exit.then]
        go_wp2_with fail
        refine wp_region_script [0, 1, 2, 3, 4, 5, 6, 7, 8, 9, 11] [] (fun w' => w' = wr.drew.drew) [(.read, 0), (.read, 1), (.read, 2), (.read, 3), (.read, 4), (.read, 5), (.read, 6), (.read, 7), (.read, 8), (.read, 9), (.one, 10), (.pure, 11)] (by kernel_rfl) (by kernel_rfl) ?_
        iterate 10 (first | (apply scr_r; (· rfl); (· (first | rfl | (simp [Region.wanted, yielded, go_sem]; done) | (simp [Region.wanted, yielded, go_sem, *]; done))); (· (go_simp; try rfl)); (· (simp [go_sem]; try rfl))) | (apply scr_r0; (· rfl); (· (first | rfl | (simp [Region.wanted, yielded, go_sem]; done) | (simp [Region.wanted, yielded, go_sem, *]; done))); (· (simp [go_sem]; try rfl))))
        refine scr_one rfl rfl (fun K hK => ?_)
        go_simp
        refine valueEquals_c (hv'.out.mv (hEr.drew.drew.mv _)) (hu'.out.mv (hEr.drew.drew.mv _)) _ ?_
        obtain ⟨bb, hbb⟩ : ∃ bb, eqT (fs[k]).2 (gs[k]).2 = bb := ⟨_, rfl⟩
        rw [hbb]
        intro w3 hE3
        refine hK _ _ (fun h => by simp at h) ?_
        clear hK
        have hbb' := Lib.hid hbb
        clear hbb
        cases bb
        all_goals
          (apply scr_pure'; (· rfl); (· rfl); (· (intro w'; go_simp; try rfl)); (· (simp [go_sem]; try rfl)))
          refine scr_end ?_
          simp only [Exit.then]
          go_wp2_with fail
        · refine hR'.out.bool ?_ _ (hEr.drew.drew.trans hE3)
          have : pairB eqFd fs gs = false := by
            rw [Bool.eq_false_iff]
            intro h
            have := (pairB_iff hlen'.out).1 h k hlt hlt2
            rw [eqFd, hbb'.out] at this
            simp at this
          simp [listB, this]
        · go_roundw
          case rel =>
            refine ⟨k + 1, by omega, by go_num, hEr.drew.drew.trans hE3, Lib.hid fun j h h2 hj => ?_⟩
            by_cases e : j = k
            · subst e; simp [eqFd, hn'.out, hbb'.out]
            · exact hall.out j h h2 (by omega)
          case measure => simp [intOf]; omega
      · have hnb : ((fs[k]).1.toList == (gs[k]).1.toList) = false := beq_eq_false_iff_ne.2 fun h => hn (toList_inj h)
        have hn' := Lib.hid hn
        clear hn
        go_wp2_with fail
        refine wp_region_script (List.range 11) [] (fun w' => w' = wr.drew) [(.read, 0), (.read, 1), (.read, 2), (.read, 3), (.read, 4), (.read, 5), (.read, 6), (.read, 7), (.read, 8), (.read, 9), (.read, 10)] (by kernel_rfl) (by kernel_rfl) ?_
        iterate 11 (first | (apply scr_r; (· rfl); (· (first | rfl | (simp [Region.wanted, yielded, go_sem]; done) | (simp [Region.wanted, yielded, go_sem, *]; done))); (· (go_simp; try rfl)); (· (simp [go_sem]; try rfl))) | (apply scr_r0; (· rfl); (· (first | rfl | (simp [Region.wanted, yielded, go_sem]; done) | (simp [Region.wanted, yielded, go_sem, *]; done))); (· (simp [go_sem]; try rfl))))
        refine scr_end ?_
        simp only [Exit.then]
        go_wp2_with fail
        refine hR'.out.bool ?_ _ hEr.drew
        have : pairB eqFd fs gs = false := by
          rw [Bool.eq_false_iff]
          intro h
          have := (pairB_iff hlen'.out).1 h k hlt hlt2
          simp [eqFd, hn'.out] at this
        simp [listB, this]
    · have hp : pairB eqFd fs gs = true := (pairB_iff hlen'.out).2 fun j h h2 => hall.out j h h2 (by omega)
      have hp' := Lib.hid hp
      clear hp
      go_wp2_with fail
      exact hR'.out.bool (by simp [listB, hp'.out, hlen'.out]) _ hEr
set_option maxRecDepth 100000 in
set_option maxHeartbeats 4000000 in
set_option pp.maxSteps 1000000 in
set_option pp.deepTerms true in
theorem peEquals_field_field {w : World} {X Y : List Nat} {cs ds : List Value} {s : ByteArray} {s2 : ByteArray} (ha : kPe.is w X cs (.field s)) (hb : kPe.is w Y ds (.field s2)) (R : Ending → World → Prop) (hR : Ends R w (.bool (eqE (.field s) (.field s2)))) :
    Calls Try.prog 71 #[.agg cs.toArray, .agg ds.toArray] w R := by
  obtain ⟨_, rfl, pa, oa, us, rfl, -, -, ha1, ha2⟩ := ha
  obtain ⟨_, rfl, pb, ob, ts, rfl, -, -, hb1, hb2⟩ := hb
  have hR' := Lib.hid hR
  have ga := ha1 0 (by decide)
  have gb := hb1 0 (by decide)
  have ha2' := Lib.hid ha2
  have hb2' := Lib.hid hb2
  simp only [Nat.add_zero] at ga gb
  clear hR ha1 hb1 ha2 hb2
  go_enter Try.func71, Try.ntmps71
  obtain ⟨rfl, -⟩ := ha2'.out
  obtain ⟨rfl, -⟩ := hb2'.out
  simp only [List.getElem?_cons_zero] at ga gb
  clear ha2' hb2'
  go_wp2_with fail
  refine abs2 (G := Code.wp _ _ _ _) ?_
  intro w1 hE1 hb1 hb2 hs1
  have e0 : w1.cell? ⟨w.heap.size, 0, none⟩ = some (.pointer (some ⟨pa, oa, none⟩)) := cells_of hb1 0; have e1 : w1.cell? ⟨w.heap.size, 1, none⟩ = some (.pointer none) := cells_of hb1 1; have e2 : w1.cell? ⟨w.heap.size, 2, none⟩ = some (.pointer none) := cells_of hb1 2; have e3 : w1.cell? ⟨w.heap.size, 3, none⟩ = some (.pointer none) := cells_of hb1 3
  have f0 : w1.cell? ⟨w.heap.size + 1, 0, none⟩ = some (.pointer (some ⟨pb, ob, none⟩)) := cells_of hb2 0; have f1 : w1.cell? ⟨w.heap.size + 1, 1, none⟩ = some (.pointer none) := cells_of hb2 1; have f2 : w1.cell? ⟨w.heap.size + 1, 2, none⟩ = some (.pointer none) := cells_of hb2 2; have f3 : w1.cell? ⟨w.heap.size + 1, 3, none⟩ = some (.pointer none) := cells_of hb2 3
  replace ga := hE1.keep ga; replace gb := hE1.keep gb
  clear hb1 hb2 hs1
  refine wp_region_script (List.range 10) [] (fun w' => w' = w1.drew) [(.read, 0), (.read, 1), (.read, 2), (.read, 3), (.read, 4), (.read, 5), (.read, 6), (.read, 7), (.read, 8), (.read, 9)] (by kernel_rfl) (by kernel_rfl) ?_
  iterate 10 (first | (apply scr_r; (· rfl); (· (first | rfl | (simp [Region.wanted, yielded, go_sem]; done) | (simp [Region.wanted, yielded, go_sem, *]; done))); (· (go_simp; try rfl)); (· (simp [go_sem]; try rfl))) | (apply scr_r0; (· rfl); (· (first | rfl | (simp [Region.wanted, yielded, go_sem]; done) | (simp [Region.wanted, yielded, go_sem, *]; done))); (· (simp [go_sem]; try rfl))))
  refine scr_end ?_
  simp only [Exit.then]
  go_wp2_with fail
  exact hR'.out.bool (beq_bytes _ _) _ hE1.drew

set_option maxRecDepth 100000 in
set_option maxHeartbeats 4000000 in
set_option pp.maxSteps 1000000 in
set_option pp.deepTerms true in
theorem peEquals_field_key {w : World} {X Y : List Nat} {cs ds : List Value} {s : ByteArray} {fs2 : EntsOfT T} (ha : kPe.is w X cs (.field s)) (hb : kPe.is w Y ds (.key fs2)) (R : Ending → World → Prop) (hR : Ends R w (.bool (eqE (.field s) (.key fs2)))) :
    Calls Try.prog 71 #[.agg cs.toArray, .agg ds.toArray] w R := by
  obtain ⟨_, rfl, pa, oa, us, rfl, -, -, ha1, ha2⟩ := ha
  obtain ⟨_, rfl, pb, ob, ts, rfl, -, -, hb1, hb2⟩ := hb
  have hR' := Lib.hid hR
  have ga := ha1 0 (by decide)
  have gb := hb1 0 (by decide)
  have ha2' := Lib.hid ha2
  have hb2' := Lib.hid hb2
  simp only [Nat.add_zero] at ga gb
  clear hR ha1 hb1 ha2 hb2
  go_enter Try.func71, Try.ntmps71
  go_wp2_with fail
  exact hR'.out _ ((Ext.alloc _ _).push _)

set_option maxRecDepth 100000 in
set_option maxHeartbeats 4000000 in
set_option pp.maxSteps 1000000 in
set_option pp.deepTerms true in
theorem peEquals_field_value {w : World} {X Y : List Nat} {cs ds : List Value} {s : ByteArray} {t2 : T} (ha : kPe.is w X cs (.field s)) (hb : kPe.is w Y ds (.value t2)) (R : Ending → World → Prop) (hR : Ends R w (.bool (eqE (.field s) (.value t2)))) :
    Calls Try.prog 71 #[.agg cs.toArray, .agg ds.toArray] w R := by
  obtain ⟨_, rfl, pa, oa, us, rfl, -, -, ha1, ha2⟩ := ha
  obtain ⟨_, rfl, pb, ob, ts, rfl, -, -, hb1, hb2⟩ := hb
  have hR' := Lib.hid hR
  have ga := ha1 0 (by decide)
  have gb := hb1 0 (by decide)
  have ha2' := Lib.hid ha2
  have hb2' := Lib.hid hb2
  simp only [Nat.add_zero] at ga gb
  clear hR ha1 hb1 ha2 hb2
  go_enter Try.func71, Try.ntmps71
  go_wp2_with fail
  exact hR'.out _ ((Ext.alloc _ _).push _)

set_option maxRecDepth 100000 in
set_option maxHeartbeats 4000000 in
set_option pp.maxSteps 1000000 in
set_option pp.deepTerms true in
theorem peEquals_field_index {w : World} {X Y : List Nat} {cs ds : List Value} {s : ByteArray} {n2 : Int} (ha : kPe.is w X cs (.field s)) (hb : kPe.is w Y ds (.index n2)) (R : Ending → World → Prop) (hR : Ends R w (.bool (eqE (.field s) (.index n2)))) :
    Calls Try.prog 71 #[.agg cs.toArray, .agg ds.toArray] w R := by
  obtain ⟨_, rfl, pa, oa, us, rfl, -, -, ha1, ha2⟩ := ha
  obtain ⟨_, rfl, pb, ob, ts, rfl, -, -, hb1, hb2⟩ := hb
  have hR' := Lib.hid hR
  have ga := ha1 0 (by decide)
  have gb := hb1 0 (by decide)
  have ha2' := Lib.hid ha2
  have hb2' := Lib.hid hb2
  simp only [Nat.add_zero] at ga gb
  clear hR ha1 hb1 ha2 hb2
  go_enter Try.func71, Try.ntmps71
  go_wp2_with fail
  exact hR'.out _ ((Ext.alloc _ _).push _)

set_option maxRecDepth 100000 in
set_option maxHeartbeats 4000000 in
set_option pp.maxSteps 1000000 in
set_option pp.deepTerms true in
theorem peEquals_key_field {w : World} {X Y : List Nat} {cs ds : List Value} {fs : EntsOfT T} {s2 : ByteArray} (ha : kPe.is w X cs (.key fs)) (hb : kPe.is w Y ds (.field s2)) (R : Ending → World → Prop) (hR : Ends R w (.bool (eqE (.key fs) (.field s2)))) :
    Calls Try.prog 71 #[.agg cs.toArray, .agg ds.toArray] w R := by
  obtain ⟨_, rfl, pa, oa, us, rfl, -, -, ha1, ha2⟩ := ha
  obtain ⟨_, rfl, pb, ob, ts, rfl, -, -, hb1, hb2⟩ := hb
  have hR' := Lib.hid hR
  have ga := ha1 0 (by decide)
  have gb := hb1 0 (by decide)
  have ha2' := Lib.hid ha2
  have hb2' := Lib.hid hb2
  simp only [Nat.add_zero] at ga gb
  clear hR ha1 hb1 ha2 hb2
  go_enter Try.func71, Try.ntmps71
  go_wp2_with fail
  exact hR'.out _ ((Ext.alloc _ _).push _)

set_option maxRecDepth 100000 in
set_option maxHeartbeats 4000000 in
set_option pp.maxSteps 1000000 in
set_option pp.deepTerms true in
theorem peEquals_key_key {w : World} {X Y : List Nat} {cs ds : List Value} {fs : EntsOfT T} {fs2 : EntsOfT T} (ha : kPe.is w X cs (.key fs)) (hb : kPe.is w Y ds (.key fs2)) (R : Ending → World → Prop) (hR : Ends R w (.bool (eqE (.key fs) (.key fs2)))) :
    Calls Try.prog 71 #[.agg cs.toArray, .agg ds.toArray] w R := by
  obtain ⟨_, rfl, pa, oa, us, rfl, -, -, ha1, ha2⟩ := ha
  obtain ⟨_, rfl, pb, ob, ts, rfl, -, -, hb1, hb2⟩ := hb
  have hR' := Lib.hid hR
  have ga := ha1 0 (by decide)
  have gb := hb1 0 (by decide)
  have ha2' := Lib.hid ha2
  have hb2' := Lib.hid hb2
  simp only [Nat.add_zero] at ga gb
  clear hR ha1 hb1 ha2 hb2
  go_enter Try.func71, Try.ntmps71
  obtain ⟨u, rfl, hu⟩ := ha2'.out
  obtain ⟨v, rfl, hv⟩ := hb2'.out
  have hu' := Lib.hid hu
  have hv' := Lib.hid hv
  clear hu hv
  simp only [List.getElem?_cons_zero] at ga gb
  clear ha2' hb2'
  go_wp2_with fail
  refine abs2 (G := Code.wp _ _ _ _) ?_
  intro w1 hE1 hb1 hb2 hs1
  have e0 : w1.cell? ⟨w.heap.size, 0, none⟩ = some (.pointer none) := cells_of hb1 0; have e1 : w1.cell? ⟨w.heap.size, 1, none⟩ = some (.pointer (some ⟨pa, oa, none⟩)) := cells_of hb1 1; have e2 : w1.cell? ⟨w.heap.size, 2, none⟩ = some (.pointer none) := cells_of hb1 2; have e3 : w1.cell? ⟨w.heap.size, 3, none⟩ = some (.pointer none) := cells_of hb1 3
  have f0 : w1.cell? ⟨w.heap.size + 1, 0, none⟩ = some (.pointer none) := cells_of hb2 0; have f1 : w1.cell? ⟨w.heap.size + 1, 1, none⟩ = some (.pointer (some ⟨pb, ob, none⟩)) := cells_of hb2 1; have f2 : w1.cell? ⟨w.heap.size + 1, 2, none⟩ = some (.pointer none) := cells_of hb2 2; have f3 : w1.cell? ⟨w.heap.size + 1, 3, none⟩ = some (.pointer none) := cells_of hb2 3
  replace ga := hE1.keep ga; replace gb := hE1.keep gb
  clear hb1 hb2 hs1
  refine wp_region_script [0, 1, 2, 3, 4, 5, 6, 7, 9] [] (fun w' => w' = w1.drew) [(.read, 0), (.read, 1), (.read, 2), (.read, 3), (.read, 4), (.read, 5), (.read, 6), (.read, 7), (.one, 8), (.pure, 9)] (by kernel_rfl) (by kernel_rfl) ?_
  iterate 8 (first | (apply scr_r; (· rfl); (· (first | rfl | (simp [Region.wanted, yielded, go_sem]; done) | (simp [Region.wanted, yielded, go_sem, *]; done))); (· (go_simp; try rfl)); (· (simp [go_sem]; try rfl))) | (apply scr_r0; (· rfl); (· (first | rfl | (simp [Region.wanted, yielded, go_sem]; done) | (simp [Region.wanted, yielded, go_sem, *]; done))); (· (simp [go_sem]; try rfl))))
  refine scr_one rfl rfl (fun K hK => ?_)
  go_simp
  refine fieldListEquals_c (hu'.out.mv (hE1.drew.mv _) (by simp [kFd])) (hv'.out.mv (hE1.drew.mv _) (by simp [kFd])) _ ?_
  intro w3 hE3
  refine hK _ _ (fun h => by simp at h) ?_
  clear hK
  (apply scr_pure'; (· rfl); (· rfl); (· (intro w'; go_simp; try rfl)); (· (simp [go_sem]; try rfl)))
  refine scr_end ?_
  simp only [Exit.then]
  go_wp2_with fail
  exact hR'.out _ (hE1.drew.trans hE3)

set_option maxRecDepth 100000 in
set_option maxHeartbeats 4000000 in
set_option pp.maxSteps 1000000 in
set_option pp.deepTerms true in
theorem peEquals_key_value {w : World} {X Y : List Nat} {cs ds : List Value} {fs : EntsOfT T} {t2 : T} (ha : kPe.is w X cs (.key fs)) (hb : kPe.is w Y ds (.value t2)) (R : Ending → World → Prop) (hR : Ends R w (.bool (eqE (.key fs) (.value t2)))) :
    Calls Try.prog 71 #[.agg cs.toArray, .agg ds.toArray] w R := by
  obtain ⟨_, rfl, pa, oa, us, rfl, -, -, ha1, ha2⟩ := ha
  obtain ⟨_, rfl, pb, ob, ts, rfl, -, -, hb1, hb2⟩ := hb
  have hR' := Lib.hid hR
  have ga := ha1 0 (by decide)
  have gb := hb1 0 (by decide)
  have ha2' := Lib.hid ha2
  have hb2' := Lib.hid hb2
  simp only [Nat.add_zero] at ga gb
  clear hR ha1 hb1 ha2 hb2
  go_enter Try.func71, Try.ntmps71
  go_wp2_with fail
  exact hR'.out _ ((Ext.alloc _ _).push _)

set_option maxRecDepth 100000 in
set_option maxHeartbeats 4000000 in
set_option pp.maxSteps 1000000 in
set_option pp.deepTerms true in
theorem peEquals_key_index {w : World} {X Y : List Nat} {cs ds : List Value} {fs : EntsOfT T} {n2 : Int} (ha : kPe.is w X cs (.key fs)) (hb : kPe.is w Y ds (.index n2)) (R : Ending → World → Prop) (hR : Ends R w (.bool (eqE (.key fs) (.index n2)))) :
    Calls Try.prog 71 #[.agg cs.toArray, .agg ds.toArray] w R := by
  obtain ⟨_, rfl, pa, oa, us, rfl, -, -, ha1, ha2⟩ := ha
  obtain ⟨_, rfl, pb, ob, ts, rfl, -, -, hb1, hb2⟩ := hb
  have hR' := Lib.hid hR
  have ga := ha1 0 (by decide)
  have gb := hb1 0 (by decide)
  have ha2' := Lib.hid ha2
  have hb2' := Lib.hid hb2
  simp only [Nat.add_zero] at ga gb
  clear hR ha1 hb1 ha2 hb2
  go_enter Try.func71, Try.ntmps71
  go_wp2_with fail
  exact hR'.out _ ((Ext.alloc _ _).push _)

set_option maxRecDepth 100000 in
set_option maxHeartbeats 4000000 in
set_option pp.maxSteps 1000000 in
set_option pp.deepTerms true in
theorem peEquals_value_field {w : World} {X Y : List Nat} {cs ds : List Value} {t : T} {s2 : ByteArray} (ha : kPe.is w X cs (.value t)) (hb : kPe.is w Y ds (.field s2)) (R : Ending → World → Prop) (hR : Ends R w (.bool (eqE (.value t) (.field s2)))) :
    Calls Try.prog 71 #[.agg cs.toArray, .agg ds.toArray] w R := by
  obtain ⟨_, rfl, pa, oa, us, rfl, -, -, ha1, ha2⟩ := ha
  obtain ⟨_, rfl, pb, ob, ts, rfl, -, -, hb1, hb2⟩ := hb
  have hR' := Lib.hid hR
  have ga := ha1 0 (by decide)
  have gb := hb1 0 (by decide)
  have ha2' := Lib.hid ha2
  have hb2' := Lib.hid hb2
  simp only [Nat.add_zero] at ga gb
  clear hR ha1 hb1 ha2 hb2
  go_enter Try.func71, Try.ntmps71
  go_wp2_with fail
  exact hR'.out _ ((Ext.alloc _ _).push _)

set_option maxRecDepth 100000 in
set_option maxHeartbeats 4000000 in
set_option pp.maxSteps 1000000 in
set_option pp.deepTerms true in
theorem peEquals_value_key {w : World} {X Y : List Nat} {cs ds : List Value} {t : T} {fs2 : EntsOfT T} (ha : kPe.is w X cs (.value t)) (hb : kPe.is w Y ds (.key fs2)) (R : Ending → World → Prop) (hR : Ends R w (.bool (eqE (.value t) (.key fs2)))) :
    Calls Try.prog 71 #[.agg cs.toArray, .agg ds.toArray] w R := by
  obtain ⟨_, rfl, pa, oa, us, rfl, -, -, ha1, ha2⟩ := ha
  obtain ⟨_, rfl, pb, ob, ts, rfl, -, -, hb1, hb2⟩ := hb
  have hR' := Lib.hid hR
  have ga := ha1 0 (by decide)
  have gb := hb1 0 (by decide)
  have ha2' := Lib.hid ha2
  have hb2' := Lib.hid hb2
  simp only [Nat.add_zero] at ga gb
  clear hR ha1 hb1 ha2 hb2
  go_enter Try.func71, Try.ntmps71
  go_wp2_with fail
  exact hR'.out _ ((Ext.alloc _ _).push _)

set_option maxRecDepth 100000 in
set_option maxHeartbeats 4000000 in
set_option pp.maxSteps 1000000 in
set_option pp.deepTerms true in
theorem peEquals_value_value {w : World} {X Y : List Nat} {cs ds : List Value} {t : T} {t2 : T} (ha : kPe.is w X cs (.value t)) (hb : kPe.is w Y ds (.value t2)) (R : Ending → World → Prop) (hR : Ends R w (.bool (eqE (.value t) (.value t2)))) :
    Calls Try.prog 71 #[.agg cs.toArray, .agg ds.toArray] w R := by
  obtain ⟨_, rfl, pa, oa, us, rfl, -, -, ha1, ha2⟩ := ha
  obtain ⟨_, rfl, pb, ob, ts, rfl, -, -, hb1, hb2⟩ := hb
  have hR' := Lib.hid hR
  have ga := ha1 0 (by decide)
  have gb := hb1 0 (by decide)
  have ha2' := Lib.hid ha2
  have hb2' := Lib.hid hb2
  simp only [Nat.add_zero] at ga gb
  clear hR ha1 hb1 ha2 hb2
  go_enter Try.func71, Try.ntmps71
  obtain ⟨u, rfl, hu⟩ := ha2'.out
  obtain ⟨v, rfl, hv⟩ := hb2'.out
  obtain ⟨_, _, rfl, -⟩ := id hu.ex
  obtain ⟨_, _, rfl, -⟩ := id hv.ex
  have hu' := Lib.hid hu
  have hv' := Lib.hid hv
  clear hu hv
  simp only [List.getElem?_cons_zero] at ga gb
  clear ha2' hb2'
  go_wp2_with fail
  refine abs2 (G := Code.wp _ _ _ _) ?_
  intro w1 hE1 hb1 hb2 hs1
  have e0 : w1.cell? ⟨w.heap.size, 0, none⟩ = some (.pointer none) := cells_of hb1 0; have e1 : w1.cell? ⟨w.heap.size, 1, none⟩ = some (.pointer none) := cells_of hb1 1; have e2 : w1.cell? ⟨w.heap.size, 2, none⟩ = some (.pointer (some ⟨pa, oa, none⟩)) := cells_of hb1 2; have e3 : w1.cell? ⟨w.heap.size, 3, none⟩ = some (.pointer none) := cells_of hb1 3
  have f0 : w1.cell? ⟨w.heap.size + 1, 0, none⟩ = some (.pointer none) := cells_of hb2 0; have f1 : w1.cell? ⟨w.heap.size + 1, 1, none⟩ = some (.pointer none) := cells_of hb2 1; have f2 : w1.cell? ⟨w.heap.size + 1, 2, none⟩ = some (.pointer (some ⟨pb, ob, none⟩)) := cells_of hb2 2; have f3 : w1.cell? ⟨w.heap.size + 1, 3, none⟩ = some (.pointer none) := cells_of hb2 3
  replace ga := hE1.keep ga; replace gb := hE1.keep gb
  clear hb1 hb2 hs1
  refine wp_region_script [0, 1, 2, 3, 4, 5, 6, 7, 9] [] (fun w' => w' = w1.drew) [(.read, 0), (.read, 1), (.read, 2), (.read, 3), (.read, 4), (.read, 5), (.read, 6), (.read, 7), (.one, 8), (.pure, 9)] (by kernel_rfl) (by kernel_rfl) ?_
  iterate 8 (first | (apply scr_r; (· rfl); (· (first | rfl | (simp [Region.wanted, yielded, go_sem]; done) | (simp [Region.wanted, yielded, go_sem, *]; done))); (· (go_simp; try rfl)); (· (simp [go_sem]; try rfl))) | (apply scr_r0; (· rfl); (· (first | rfl | (simp [Region.wanted, yielded, go_sem]; done) | (simp [Region.wanted, yielded, go_sem, *]; done))); (· (simp [go_sem]; try rfl))))
  refine scr_one rfl rfl (fun K hK => ?_)
  go_simp
  refine valueEquals_c (hu'.out.mv (hE1.drew.mv _)) (hv'.out.mv (hE1.drew.mv _)) _ ?_
  intro w3 hE3
  refine hK _ _ (fun h => by simp at h) ?_
  clear hK
  (apply scr_pure'; (· rfl); (· rfl); (· (intro w'; go_simp; try rfl)); (· (simp [go_sem]; try rfl)))
  refine scr_end ?_
  simp only [Exit.then]
  go_wp2_with fail
  exact hR'.out _ (hE1.drew.trans hE3)

set_option maxRecDepth 100000 in
set_option maxHeartbeats 4000000 in
set_option pp.maxSteps 1000000 in
set_option pp.deepTerms true in
theorem peEquals_value_index {w : World} {X Y : List Nat} {cs ds : List Value} {t : T} {n2 : Int} (ha : kPe.is w X cs (.value t)) (hb : kPe.is w Y ds (.index n2)) (R : Ending → World → Prop) (hR : Ends R w (.bool (eqE (.value t) (.index n2)))) :
    Calls Try.prog 71 #[.agg cs.toArray, .agg ds.toArray] w R := by
  obtain ⟨_, rfl, pa, oa, us, rfl, -, -, ha1, ha2⟩ := ha
  obtain ⟨_, rfl, pb, ob, ts, rfl, -, -, hb1, hb2⟩ := hb
  have hR' := Lib.hid hR
  have ga := ha1 0 (by decide)
  have gb := hb1 0 (by decide)
  have ha2' := Lib.hid ha2
  have hb2' := Lib.hid hb2
  simp only [Nat.add_zero] at ga gb
  clear hR ha1 hb1 ha2 hb2
  go_enter Try.func71, Try.ntmps71
  go_wp2_with fail
  exact hR'.out _ ((Ext.alloc _ _).push _)

set_option maxRecDepth 100000 in
set_option maxHeartbeats 4000000 in
set_option pp.maxSteps 1000000 in
set_option pp.deepTerms true in
theorem peEquals_index_field {w : World} {X Y : List Nat} {cs ds : List Value} {n : Int} {s2 : ByteArray} (ha : kPe.is w X cs (.index n)) (hb : kPe.is w Y ds (.field s2)) (R : Ending → World → Prop) (hR : Ends R w (.bool (eqE (.index n) (.field s2)))) :
    Calls Try.prog 71 #[.agg cs.toArray, .agg ds.toArray] w R := by
  obtain ⟨_, rfl, pa, oa, us, rfl, -, -, ha1, ha2⟩ := ha
  obtain ⟨_, rfl, pb, ob, ts, rfl, -, -, hb1, hb2⟩ := hb
  have hR' := Lib.hid hR
  have ga := ha1 0 (by decide)
  have gb := hb1 0 (by decide)
  have ha2' := Lib.hid ha2
  have hb2' := Lib.hid hb2
  simp only [Nat.add_zero] at ga gb
  clear hR ha1 hb1 ha2 hb2
  go_enter Try.func71, Try.ntmps71
  go_wp2_with fail
  exact hR'.out _ ((Ext.alloc _ _).push _)

set_option maxRecDepth 100000 in
set_option maxHeartbeats 4000000 in
set_option pp.maxSteps 1000000 in
set_option pp.deepTerms true in
theorem peEquals_index_key {w : World} {X Y : List Nat} {cs ds : List Value} {n : Int} {fs2 : EntsOfT T} (ha : kPe.is w X cs (.index n)) (hb : kPe.is w Y ds (.key fs2)) (R : Ending → World → Prop) (hR : Ends R w (.bool (eqE (.index n) (.key fs2)))) :
    Calls Try.prog 71 #[.agg cs.toArray, .agg ds.toArray] w R := by
  obtain ⟨_, rfl, pa, oa, us, rfl, -, -, ha1, ha2⟩ := ha
  obtain ⟨_, rfl, pb, ob, ts, rfl, -, -, hb1, hb2⟩ := hb
  have hR' := Lib.hid hR
  have ga := ha1 0 (by decide)
  have gb := hb1 0 (by decide)
  have ha2' := Lib.hid ha2
  have hb2' := Lib.hid hb2
  simp only [Nat.add_zero] at ga gb
  clear hR ha1 hb1 ha2 hb2
  go_enter Try.func71, Try.ntmps71
  go_wp2_with fail
  exact hR'.out _ ((Ext.alloc _ _).push _)

set_option maxRecDepth 100000 in
set_option maxHeartbeats 4000000 in
set_option pp.maxSteps 1000000 in
set_option pp.deepTerms true in
theorem peEquals_index_value {w : World} {X Y : List Nat} {cs ds : List Value} {n : Int} {t2 : T} (ha : kPe.is w X cs (.index n)) (hb : kPe.is w Y ds (.value t2)) (R : Ending → World → Prop) (hR : Ends R w (.bool (eqE (.index n) (.value t2)))) :
    Calls Try.prog 71 #[.agg cs.toArray, .agg ds.toArray] w R := by
  obtain ⟨_, rfl, pa, oa, us, rfl, -, -, ha1, ha2⟩ := ha
  obtain ⟨_, rfl, pb, ob, ts, rfl, -, -, hb1, hb2⟩ := hb
  have hR' := Lib.hid hR
  have ga := ha1 0 (by decide)
  have gb := hb1 0 (by decide)
  have ha2' := Lib.hid ha2
  have hb2' := Lib.hid hb2
  simp only [Nat.add_zero] at ga gb
  clear hR ha1 hb1 ha2 hb2
  go_enter Try.func71, Try.ntmps71
  go_wp2_with fail
  exact hR'.out _ ((Ext.alloc _ _).push _)

set_option maxRecDepth 100000 in
set_option maxHeartbeats 4000000 in
set_option pp.maxSteps 1000000 in
set_option pp.deepTerms true in
theorem peEquals_index_index {w : World} {X Y : List Nat} {cs ds : List Value} {n : Int} {n2 : Int} (ha : kPe.is w X cs (.index n)) (hb : kPe.is w Y ds (.index n2)) (R : Ending → World → Prop) (hR : Ends R w (.bool (eqE (.index n) (.index n2)))) :
    Calls Try.prog 71 #[.agg cs.toArray, .agg ds.toArray] w R := by
  obtain ⟨_, rfl, pa, oa, us, rfl, -, -, ha1, ha2⟩ := ha
  obtain ⟨_, rfl, pb, ob, ts, rfl, -, -, hb1, hb2⟩ := hb
  have hR' := Lib.hid hR
  have ga := ha1 0 (by decide)
  have gb := hb1 0 (by decide)
  have ha2' := Lib.hid ha2
  have hb2' := Lib.hid hb2
  simp only [Nat.add_zero] at ga gb
  clear hR ha1 hb1 ha2 hb2
  go_enter Try.func71, Try.ntmps71
  obtain ⟨rfl, -⟩ := ha2'.out
  obtain ⟨rfl, -⟩ := hb2'.out
  simp only [List.getElem?_cons_zero] at ga gb
  clear ha2' hb2'
  go_wp2_with fail
  refine abs2 (G := Code.wp _ _ _ _) ?_
  intro w1 hE1 hb1 hb2 hs1
  have e0 : w1.cell? ⟨w.heap.size, 0, none⟩ = some (.pointer none) := cells_of hb1 0; have e1 : w1.cell? ⟨w.heap.size, 1, none⟩ = some (.pointer none) := cells_of hb1 1; have e2 : w1.cell? ⟨w.heap.size, 2, none⟩ = some (.pointer none) := cells_of hb1 2; have e3 : w1.cell? ⟨w.heap.size, 3, none⟩ = some (.pointer (some ⟨pa, oa, none⟩)) := cells_of hb1 3
  have f0 : w1.cell? ⟨w.heap.size + 1, 0, none⟩ = some (.pointer none) := cells_of hb2 0; have f1 : w1.cell? ⟨w.heap.size + 1, 1, none⟩ = some (.pointer none) := cells_of hb2 1; have f2 : w1.cell? ⟨w.heap.size + 1, 2, none⟩ = some (.pointer none) := cells_of hb2 2; have f3 : w1.cell? ⟨w.heap.size + 1, 3, none⟩ = some (.pointer (some ⟨pb, ob, none⟩)) := cells_of hb2 3
  replace ga := hE1.keep ga; replace gb := hE1.keep gb
  clear hb1 hb2 hs1
  refine wp_region_script (List.range 10) [] (fun w' => w' = w1.drew) [(.read, 0), (.read, 1), (.read, 2), (.read, 3), (.read, 4), (.read, 5), (.read, 6), (.read, 7), (.read, 8), (.read, 9)] (by kernel_rfl) (by kernel_rfl) ?_
  iterate 10 (first | (apply scr_r; (· rfl); (· (first | rfl | (simp [Region.wanted, yielded, go_sem]; done) | (simp [Region.wanted, yielded, go_sem, *]; done))); (· (go_simp; try rfl)); (· (simp [go_sem]; try rfl))) | (apply scr_r0; (· rfl); (· (first | rfl | (simp [Region.wanted, yielded, go_sem]; done) | (simp [Region.wanted, yielded, go_sem, *]; done))); (· (simp [go_sem]; try rfl))))
  refine scr_end ?_
  simp only [Exit.then]
  go_wp2_with fail
  exact hR'.out.bool (by simp [eqE]) _ hE1.drew

theorem peEquals_c {w : World} {X Y : List Nat} {cs ds : List Value} {a b : PEl} (ha : kPe.is w X cs a) (hb : kPe.is w Y ds b) (R : Ending → World → Prop) (hR : Ends R w (.bool (eqE a b))) :
    Calls Try.prog 71 #[.agg cs.toArray, .agg ds.toArray] w R := by
  cases a <;> cases b
  · exact peEquals_field_field ha hb R hR
  · exact peEquals_field_key ha hb R hR
  · exact peEquals_field_value ha hb R hR
  · exact peEquals_field_index ha hb R hR
  · exact peEquals_key_field ha hb R hR
  · exact peEquals_key_key ha hb R hR
  · exact peEquals_key_value ha hb R hR
  · exact peEquals_key_index ha hb R hR
  · exact peEquals_value_field ha hb R hR
  · exact peEquals_value_key ha hb R hR
  · exact peEquals_value_value ha hb R hR
  · exact peEquals_value_index ha hb R hR
  · exact peEquals_index_field ha hb R hR
  · exact peEquals_index_key ha hb R hR
  · exact peEquals_index_value ha hb R hR
  · exact peEquals_index_index ha hb R hR
end Go.Proofs.Ytamcgcncghabhaa

namespace Go.Proofs.Ytamcgcncghabhaa
open Go.RowKit

end Go.Proofs.Ytamcgcncghabhaa
