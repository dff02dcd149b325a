/- impl.fromAtom: all types, of however many levels. -/
import Derived.Test.YtmihdlbcjiaibaaConvD
namespace Go.Proofs.Ytmihdlbcjiaibaa
open Go.RowKit

theorem Try.size42 : (Try.prog.info? 42).map (·.size) = some 3 := by kernel_rfl
theorem Try.info39 : (Try.prog.info? 39).map (fun i => (i.zero, i.size, i.bytes)) = some (some (.slice none 0 0), 1, 24) := by kernel_rfl
theorem Try.info40 : (Try.prog.info? 40).map (fun i => (i.zero, i.size, i.bytes)) = some (some (.slice none 0 0), 1, 24) := by kernel_rfl

theorem IsSl.single {α : Type} {k : Kind α} {bytes : Nat} {w : World} {X : List Nat} {b : Nat} {cs : List Value} {T : TypeId} {fr : Nat × Nat} {a : α} (hb : w.heap[b]? = some (.cells cs.toArray T fr)) (hX : b ∉ X) (h : k.is w X cs a) (hby : bytes ≤ 140737488351232) :
    IsSl k bytes w X (.slice (some ⟨b, 0, none⟩) 1 1) [a] := by
  refine ⟨some ⟨b, 0, none⟩, 1, b, 0, rfl, Nat.le_refl _, by simpa using hby, fun _ => ⟨rfl, hX⟩, fun i hi => ?_⟩
  obtain rfl : i = 0 := by simpa using hi
  exact ⟨cs, fun j _ => by rw [cells_of hb]; simp, h⟩

theorem ptr_neq {α : Type} {k : Kind α} {w : World} {X : List Nat} {v : Value} {o : Option α} {t e : TypeId} (h : IsP k w X v o) (hT : Try.prog.underlying t = some (.pointer e)) (w' : World) : (binOp .neq t v (.pointer none)).run Try.prog w' = .ok (.bool o.isSome) w' := by
  cases o with
  | none =>
    obtain rfl : v = .pointer none := h
    simp [go_sem, hT]
  | some a =>
    obtain ⟨b, off, cs, rfl, _⟩ := h
    simp [go_sem, hT]

theorem ptr_guard {α : Type} {k : Kind α} {w : World} {X : List Nat} {v : Value} {o : Option α} {t : TypeId} (h : IsP k w X v o) (x y : Operand) (w' : World) : (eqGuard .neq t x y v (.pointer none)).run Try.prog w' = .ok () w' := by
  cases o with
  | none =>
    obtain rfl : v = .pointer none := h
    simp [eqGuard, go_sem]
  | some a =>
    obtain ⟨b, off, cs, rfl, _⟩ := h
    simp [eqGuard, go_sem]

set_option maxRecDepth 100000 in
set_option maxHeartbeats 16000000 in
set_option pp.maxSteps 1000000 in
set_option pp.deepTerms true in
theorem fromAtom_step {d : Nat} (ih : FromAtomC d) : FromAtomC (d + 1) := by
  intro w X cs a ha hX R hR
  obtain ⟨s, ls, ms⟩ := a
  obtain ⟨ps, pl, pm, rfl, hps, hpl, hpm⟩ := ha
  have hso := hps.one
  have hlo := hpl.one
  have hmo := hpm.one
  have hps' := Lib.hid hps
  have hpl' := Lib.hid hpl
  have hpm' := Lib.hid hpm
  have hR' := Lib.hid hR
  have hX' := Lib.hid hX
  have hih := Lib.hid ih
  clear hR hX ih hps hpl hpm
  go_enter Try.func59, Try.ntmps59
  have nS : ∀ w', (binOp .neq 97 ps (.pointer none)).run Try.prog w' = .ok (.bool s.isSome) w' := ptr_neq hps'.out Try.underlying97
  have nL : ∀ w', (binOp .neq 98 pl (.pointer none)).run Try.prog w' = .ok (.bool ls.isSome) w' := ptr_neq hpl'.out Try.underlying98
  have nM : ∀ w', (binOp .neq 99 pm (.pointer none)).run Try.prog w' = .ok (.bool ms.isSome) w' := ptr_neq hpm'.out Try.underlying99
  have gS := ptr_guard (t := 97) hps'.out
  have gL := ptr_guard (t := 98) hpl'.out
  have gM := ptr_guard (t := 99) hpm'.out
  go_upto_if 7 with (fail)
  refine abs3 (G := Code.wp _ _ _ _) ?_
  intro w1 hE1 hb1 hb2 hb3 hs1
  have hz := Lib.hid hs1
  have hb3' := Lib.hid hb3
  have hsz1 : w.heap.size + 3 ≤ w1.heap.size := by omega
  clear hs1 hb3
  go_cut [] (fun wx => Ext w wx ∧ w1.heap.size ≤ wx.heap.size ∧ wx.heap[w.heap.size]? = w1.heap[w.heap.size]? ∧ wx.heap[w.heap.size + 1]? = w1.heap[w.heap.size + 1]? ∧ wx.heap[w.heap.size + 2]? = some (.cells #[.string (s.getD ⟨#[]⟩), .slice none 0 0, .slice none 0 0] 42 (0, 0)))
  case first =>
    cases s with
    | none =>
      go_wp2_with fail
      go_meet
      exact ⟨hE1, Nat.le_refl _, rfl, rfl, hb3'.out⟩
    | some nm =>
      obtain ⟨nb, noff, rfl, -, nlt, nc, nsz⟩ := hps'.out.str
      have nc1 := hE1.keep nc
      have b0 : w1.cell? ⟨w.heap.size, 0, none⟩ = some (.pointer (some ⟨nb, noff, none⟩)) := cells_of hb1 0
      go_wp2_with (refine wpL_store1 rfl 9 _ _ rfl Try.info9 (p := ⟨w.heap.size + 2, 0, none⟩) (v := .string nm) rfl rfl rfl (by rw [cells_of hb3'.out 0]; rfl) (frozen_of_row _ _ _ _ _ hb3'.out) ?_)
      obtain ⟨h7, g7, -⟩ := set_facts (off := 0) (.string nm) hb3'.out
      generalize w1.setCell ⟨w.heap.size + 2, 0, none⟩ (.string nm) = w7 at h7 g7 ⊢
      go_meet
      exact ⟨hE1.grown g7 (fun k hk => by cases hk; omega), g7.size, g7.block _ (by omega) (by simp), g7.block _ (by omega) (by simp), h7⟩
  case rest =>
    obtain ⟨hE2, hs2, hx1, hx2, hx3⟩ := hcut
    rename World => wx
    replace hx1 := hx1.trans hb1
    replace hx2 := hx2.trans hb2
    have hx1' := Lib.hid hx1
    have hx2' := Lib.hid hx2
    have hx3' := Lib.hid hx3
    have b1 : wx.cell? ⟨w.heap.size, 1, none⟩ = some pl := cells_of hx1 1
    clear hb1 hb2 hx1 hx2 hx3
    go_upto_if 15 with (fail)
    go_cut [] (fun wy => ∃ vl, Ext w wy ∧ wx.heap.size ≤ wy.heap.size ∧ wy.heap[w.heap.size]? = wx.heap[w.heap.size]? ∧ wy.heap[w.heap.size + 1]? = wx.heap[w.heap.size + 1]? ∧ wy.heap[w.heap.size + 2]? = some (.cells #[.string (s.getD ⟨#[]⟩), vl, .slice none 0 0] 42 (0, 0)) ∧
      IsSl (kLt (kA d)) 144 wy (w.heap.size :: (w.heap.size + 1) :: (w.heap.size + 2) :: X) vl (ls.map (frLt (frA d))).toList)
    case first =>
      cases ls with
      | none =>
        go_wp2_with fail
        go_meet
        exact ⟨_, hE2, Nat.le_refl _, rfl, rfl, hx3'.out, IsSl.nil _ _ _ _⟩
      | some l =>
        obtain ⟨lb, loff, lcs, rfl, lX, llt, lc, rs, vk, rfl, hr, hk, hl⟩ := hpl'.out
        obtain ⟨a0, a1, a2, a3, a4, a5, rfl, o0, o1, o2, o3, o4, o5⟩ := ksRf_six hr
        obtain ⟨ko, kc, _, _, rfl, -⟩ := id hk.ex
        have e8 : (ksLt (ksA d)).size = 8 := by simp [ksLt, ksA_size]
        rw [e8] at lc
        have m0 := hE2.keep (lc 0 (by omega))
        have m1 := hE2.keep (lc 1 (by omega))
        have m2 := hE2.keep (lc 2 (by omega))
        have m3 := hE2.keep (lc 3 (by omega))
        have m4 := hE2.keep (lc 4 (by omega))
        have m5 := hE2.keep (lc 5 (by omega))
        have m6 := hE2.keep (lc 6 (by omega))
        have m7 := hE2.keep (lc 7 (by omega))
        simp only [Nat.add_zero] at m0
        have hr' := Lib.hid hr
        have hk' := Lib.hid hk
        clear hr hk lc e8
        go_wp2_with fail
        refine wp_region_script [0, 1, 2, 3, 4, 6, 7, 8, 9, 10, 11, 12, 13, 14, 15, 17, 19] [5, 16] (fun w' => Ext wx w') [(.pure, 0), (.read, 1), (.pure, 2), (.pure, 3), (.read, 4), (.pure, 6), (.read, 7), (.pure, 8), (.pure, 9), (.read, 10), (.pure, 11), (.read, 12), (.pure, 13), (.pure, 14), (.read, 15), (.one, 5), (.one, 16), (.pure, 17), (.one, 18), (.pure, 19), (.one, 20)] (by kernel_rfl) (by kernel_rfl) ?_
        (apply scr_pure'; (· rfl); (· rfl); (· (intro w'; go_simp; try rfl)); (· (simp [go_sem]; try rfl)))
        (apply scr_read'; (· rfl); (· rfl); (· first | exact hC | exact (Ext.refl _).drew); (· (intro w' hw'; have b1_ := hw'.keep b1; go_simp; try rfl)); (· (simp [go_sem]; try rfl)))
        (apply scr_pure'; (· rfl); (· rfl); (· (intro w'; go_simp; try rfl)); (· (simp [go_sem]; try rfl)))
        (apply scr_pure'; (· rfl); (· rfl); (· (intro w'; go_simp; try rfl)); (· (simp [go_sem]; try rfl)))
        (apply scr_read'; (· rfl); (· rfl); (· first | exact hC | exact (Ext.refl _).drew); (· (intro w' hw'; have m0_ := hw'.keep m0; have m1_ := hw'.keep m1; have m2_ := hw'.keep m2; have m3_ := hw'.keep m3; have m4_ := hw'.keep m4; have m5_ := hw'.keep m5; go_simp; try rfl)); (· (simp [go_sem]; try rfl)))
        (apply scr_pure'; (· rfl); (· rfl); (· (intro w'; go_simp; try rfl)); (· (simp [go_sem]; try rfl)))
        (apply scr_read'; (· rfl); (· rfl); (· first | exact hC | exact (Ext.refl _).drew); (· (intro w' hw'; have b1_ := hw'.keep b1; go_simp; try rfl)); (· (simp [go_sem]; try rfl)))
        (apply scr_pure'; (· rfl); (· rfl); (· (intro w'; go_simp; try rfl)); (· (simp [go_sem]; try rfl)))
        (apply scr_pure'; (· rfl); (· rfl); (· (intro w'; go_simp; try rfl)); (· (simp [go_sem]; try rfl)))
        (apply scr_read'; (· rfl); (· rfl); (· first | exact hC | exact (Ext.refl _).drew); (· (intro w' hw'; have m6_ := hw'.keep m6; go_simp; try rfl)); (· (simp [go_sem]; try rfl)))
        (apply scr_pure'; (· rfl); (· rfl); (· (intro w'; go_simp; try rfl)); (· (simp [go_sem]; try rfl)))
        (apply scr_read'; (· rfl); (· rfl); (· first | exact hC | exact (Ext.refl _).drew); (· (intro w' hw'; have b1_ := hw'.keep b1; go_simp; try rfl)); (· (simp [go_sem]; try rfl)))
        (apply scr_pure'; (· rfl); (· rfl); (· (intro w'; go_simp; try rfl)); (· (simp [go_sem]; try rfl)))
        (apply scr_pure'; (· rfl); (· rfl); (· (intro w'; go_simp; try rfl)); (· (simp [go_sem]; try rfl)))
        (apply scr_read'; (· rfl); (· rfl); (· first | exact hC | exact (Ext.refl _).drew); (· (intro w' hw'; have m7_ := hw'.keep m7; go_simp; try rfl)); (· (simp [go_sem]; try rfl)))
        have hXX : Old (w.heap.size :: (w.heap.size + 1) :: (w.heap.size + 2) :: X) wx.drew := .cons (by simp; omega) (.cons (by simp; omega) (.cons (by simp; omega) (hX'.out.le hE2.drew.size)))
        have hmX : Mv w X wx.drew (w.heap.size :: (w.heap.size + 1) :: (w.heap.size + 2) :: X) := (((hE2.drew.mv X).more (n := w.heap.size + 2) (by omega)).more (n := w.heap.size + 1) (by omega)).more (Nat.le_refl _)
        refine scr_one rfl rfl (fun K hK => ?_)
        go_simp
        refine fromRef_c hih.out (X := (w.heap.size :: (w.heap.size + 1) :: (w.heap.size + 2) :: X)) ((ksRf (ksA d)).mv hr'.out hmX) hXX _ ?_
        intro w5 cs5 hE5 hy5
        obtain ⟨p0, p1, p2, p3, p4, p5, rfl, u0, u1, u2, u3, u4, u5⟩ := kRf_six hy5
        have hy5' := Lib.hid hy5
        clear hy5
        have hw5 := (Ext.refl wx).drew.trans hE5
        refine hK _ _ (fun _ => hw5) ?_
        clear hK
        refine scr_one rfl rfl (fun K hK => ?_)
        refine wp_strsCopy (X := (w.heap.size :: (w.heap.size + 1) :: (w.heap.size + 2) :: X)) ((hk'.out.mv hmX).mv (hE5.mv _)) (hXX.le hE5.size) _ _ 25 9 rfl rfl Try.underlying25 Try.info9 rfl (by go_simp) ?_
        intro v6 w6 hE6 hks
        obtain ⟨no, nc, _, _, rfl, -⟩ := id hks.ex
        have hks' := Lib.hid hks
        clear hks
        refine hK _ _ (fun _ => hw5.trans hE6) ?_
        clear hK
        (apply scr_pure'; (· rfl); (· rfl); (· (intro w'; go_simp; try rfl)); (· (simp [go_sem]; try rfl)))
        refine scr_one rfl rfl (fun K hK => ?_)
        go_simp
        refine hK _ _ (fun h => by simp at h) ?_
        clear hK
        (apply scr_pure'; (· rfl); (· rfl); (· (intro w'; go_simp; try rfl)); (· (simp [go_sem]; try rfl)))
        have hE56 := hw5.trans hE6
        have hB6 : w6.heap[w.heap.size + 2]? = _ := (hE56.below.block _ (by omega)).trans hx3'.out
        have hq := (alloc_old w6 (.cells #[p0, p1, p2, p3, p4, p5, .string l.rel, .slice no l.keys.length nc] 89 (0, 0)) (Array.getElem?_eq_some_iff.1 hB6).1).trans hB6
        have n7 := alloc_new w6 (.cells #[p0, p1, p2, p3, p4, p5, .string l.rel, .slice no l.keys.length nc] 89 (0, 0)) rfl
        have hEA := Ext.alloc w6 (.cells #[p0, p1, p2, p3, p4, p5, .string l.rel, .slice no l.keys.length nc] 89 (0, 0))
        generalize (w6.alloc (.cells #[p0, p1, p2, p3, p4, p5, .string l.rel, .slice no l.keys.length nc] 89 (0, 0))) = wA at hq n7 hEA ⊢
        refine scr_one rfl rfl (fun K hK => ?_)
        refine wp_store1 _ _ _ rfl Try.info39 (p := ⟨w.heap.size + 2, 1, none⟩) (v := .slice (some ⟨w6.heap.size, 0, none⟩) 1 1) rfl rfl rfl (by rw [cells_of hq 1]; rfl) (frozen_of_row _ _ _ _ _ hq) ?_
        obtain ⟨h7, g7, -⟩ := set_facts (off := 1) (.slice (some ⟨w6.heap.size, 0, none⟩) 1 1) hq
        generalize wA.setCell ⟨w.heap.size + 2, 1, none⟩ (.slice (some ⟨w6.heap.size, 0, none⟩) 1 1) = w7 at h7 g7 ⊢
        refine hK _ _ (fun h => by simp at h) ?_
        clear hK
        refine scr_end ?_
        show Exit.then _ _ Exit.normal _ _
        simp only [Exit.then]
        go_wp2_with fail
        go_meet
        have hEE := hE56.trans hEA
        have h6s := hE56.size
        have hn7 : w7.heap[w6.heap.size]? = _ := (g7.block _ (Array.getElem?_eq_some_iff.1 n7).1 (by simp; omega)).trans n7
        have hmA : Mv w6 (w.heap.size :: (w.heap.size + 1) :: (w.heap.size + 2) :: X) w7 (w.heap.size :: (w.heap.size + 1) :: (w.heap.size + 2) :: X) := (hEA.mv _).grown g7 (by intro k hk; cases hk; simp)
        refine ⟨_, (hE2.trans hEE).grown g7 (fun k hk => by cases hk; omega), by have := hEE.size; have := g7.size; omega, (g7.block _ (by have := hEE.size; omega) (by simp)).trans (hEE.below.block _ (by omega)), (g7.block _ (by have := hEE.size; omega) (by simp)).trans (hEE.below.block _ (by omega)), h7, ?_⟩
        refine IsSl.single (cs := [p0, p1, p2, p3, p4, p5, .string l.rel, .slice no l.keys.length nc]) hn7 ?_ ⟨[p0, p1, p2, p3, p4, p5], _, rfl, (kRf (kA d)).mv hy5'.out ((hE6.mv _).trans hmA), hks'.out.mv hmA, hl⟩ (by decide)
        simp only [List.mem_cons, not_or]
        exact ⟨by omega, by omega, by omega, fun h => by have := hX'.out _ h; have := hE2.size; omega⟩
    case rest =>
      obtain ⟨vl, hE3, hsy, hy1, hy2, hy3, hvl⟩ := hcut
      have hvlo := hvl.one
      have hvl' := Lib.hid hvl
      clear hvl
      rename World => wy
      replace hy1 := hy1.trans hx1'.out
      replace hy2 := hy2.trans hx2'.out
      have hy2' := Lib.hid hy2
      have hy3' := Lib.hid hy3
      have b2 : wy.cell? ⟨w.heap.size, 2, none⟩ = some pm := cells_of hy1 2
      clear b1 hy1 hy2 hy3
      go_upto_if 38 with (fail)
      go_cut [] (fun wz => ∃ vm, Ext w wz ∧ wy.heap.size ≤ wz.heap.size ∧ wz.heap[w.heap.size + 1]? = wy.heap[w.heap.size + 1]? ∧ wz.heap[w.heap.size + 2]? = some (.cells #[.string (s.getD ⟨#[]⟩), vl, vm] 42 (0, 0)) ∧
        IsSl (kLt (kA d)) 144 wz (w.heap.size :: (w.heap.size + 1) :: (w.heap.size + 2) :: X) vl (ls.map (frLt (frA d))).toList ∧ IsSl (kMt (kA d)) 144 wz (w.heap.size :: (w.heap.size + 1) :: (w.heap.size + 2) :: X) vm (ms.map (frMt (frA d))).toList)
      case first =>
        cases ms with
        | none =>
          go_wp2_with fail
          go_meet
          exact ⟨_, hE3, Nat.le_refl _, rfl, hy3'.out, hvl'.out, IsSl.nil _ _ _ _⟩
        | some m =>
          have hmX : Mv w X wy (w.heap.size :: (w.heap.size + 1) :: (w.heap.size + 2) :: X) := (((hE3.mv X).more (n := w.heap.size + 2) (by omega)).more (n := w.heap.size + 1) (by omega)).more (Nat.le_refl _)
          have hXX : Old (w.heap.size :: (w.heap.size + 1) :: (w.heap.size + 2) :: X) wy := .cons (by omega) (.cons (by omega) (.cons (by omega) (hX'.out.le hE3.size)))
          go_wp2_with fail
          refine fromMapType_c hih.out (X := (w.heap.size :: (w.heap.size + 1) :: (w.heap.size + 2) :: X)) (hpm'.out.mv hmX) hXX _ ?_
          intro w5 cs5 hE5 hy5
          obtain ⟨p0, p1, p2, p3, p4, p5, p6, p7, rfl⟩ := eight_of (by rw [(kMt (kA d)).len hy5]; simp [kMt, kA_size])
          have hy5' := Lib.hid hy5
          clear hy5
          have hB5 : w5.heap[w.heap.size + 2]? = _ := (hE5.below.block _ (by omega)).trans hy3'.out
          have hq := (alloc_old w5 (.cells #[p0, p1, p2, p3, p4, p5, p6, p7] 46 (0, 0)) (Array.getElem?_eq_some_iff.1 hB5).1).trans hB5
          have hq' := Lib.hid hq
          clear hq
          dsimp only
          go_wp2_with (refine wpL_store1 rfl 40 _ _ rfl Try.info40 (p := ⟨w.heap.size + 2, 2, none⟩) (v := .slice (some ⟨w5.heap.size, 0, none⟩) 1 1) rfl rfl rfl (by rw [cells_of hq'.out 2]; rfl) (frozen_of_row _ _ _ _ _ hq'.out) ?_)
          have hq := hq'.out
          have n7 := alloc_new w5 (.cells #[p0, p1, p2, p3, p4, p5, p6, p7] 46 (0, 0)) rfl
          have hEA := Ext.alloc w5 (.cells #[p0, p1, p2, p3, p4, p5, p6, p7] 46 (0, 0))
          clear hq'
          generalize (w5.alloc (.cells #[p0, p1, p2, p3, p4, p5, p6, p7] 46 (0, 0))) = wA at hq n7 hEA ⊢
          obtain ⟨h7, g7, -⟩ := set_facts (off := 2) (.slice (some ⟨w5.heap.size, 0, none⟩) 1 1) hq
          generalize wA.setCell ⟨w.heap.size + 2, 2, none⟩ (.slice (some ⟨w5.heap.size, 0, none⟩) 1 1) = w7 at h7 g7 ⊢
          go_meet
          have hEE := hE5.trans hEA
          have h6s := hE5.size
          have hn7 : w7.heap[w5.heap.size]? = _ := (g7.block _ (Array.getElem?_eq_some_iff.1 n7).1 (by simp; omega)).trans n7
          have hmA : Mv w5 (w.heap.size :: (w.heap.size + 1) :: (w.heap.size + 2) :: X) w7 (w.heap.size :: (w.heap.size + 1) :: (w.heap.size + 2) :: X) := (hEA.mv _).grown g7 (by intro k hk; cases hk; simp)
          refine ⟨_, (hE3.trans hEE).grown g7 (fun k hk => by cases hk; omega), by have := hEE.size; have := g7.size; omega, (g7.block _ (by have := hEE.size; omega) (by simp)).trans (hEE.below.block _ (by omega)), h7, hvl'.out.mv ((hE5.mv _).trans hmA) (by simp [kLt]), ?_⟩
          refine IsSl.single (cs := [p0, p1, p2, p3, p4, p5, p6, p7]) hn7 ?_ ((kMt (kA d)).mv hy5'.out hmA) (by decide)
          simp only [List.mem_cons, not_or]
          exact ⟨by omega, by omega, by omega, fun h => by have := hX'.out _ h; have := hE3.size; omega⟩
      case rest =>
        obtain ⟨vm, hE4, hsz, hz2, hz3, hvl3, hvm⟩ := hcut
        have hvmo := hvm.one
        rename World => wz
        replace hz2 := hz2.trans hy2'.out
        have v0 : wz.cell? ⟨w.heap.size + 2, 0, none⟩ = some (.string (s.getD ⟨#[]⟩)) := cells_of hz3 0
        have v1 : wz.cell? ⟨w.heap.size + 2, 1, none⟩ = some vl := cells_of hz3 1
        have v2 : wz.cell? ⟨w.heap.size + 2, 2, none⟩ = some vm := cells_of hz3 2
        have hvl3' := Lib.hid hvl3
        have hvm' := Lib.hid hvm
        clear hvl3 hvm b2
        go_wp2_with (refine wpL_storeRow (cells := #[.string (s.getD ⟨#[]⟩), vl, vm]) rfl 42 _ _ rfl Try.size42 rfl rfl hz2 rfl (by simp [str_one, hvlo, hvmo]) ?_; intro w6 h6 g6)
        go_simp
        have z0 := cells_of h6 0
        have z1 := cells_of h6 1
        have z2 := cells_of h6 2
        simp only [List.getElem?_toArray, List.getElem?_cons_zero, List.getElem?_cons_succ] at z0 z1 z2
        refine bodyPost_ret (by simp [results, Try.results59, go_sem, z0, z1, z2]; try rfl) rfl ?_
        have hm : Mv wz (w.heap.size :: (w.heap.size + 1) :: (w.heap.size + 2) :: X) w6 X := ((Mv.refl _ _).grown g6 (by intro k hk; cases hk; simp)).less fun b hb => by simp [hb]
        have hssz : (s.getD ⟨#[]⟩).size ≤ 140737488351232 := by
          cases s with
          | none => exact empty_sz
          | some nm =>
            obtain ⟨_, _, _, _, _, _, h⟩ := hps'.out.str
            exact h
        exact hR'.out w6 [_, _, _] (hE4.grown g6 (fun k hk => by cases hk; omega)) ⟨vl, vm, rfl, hssz, hvl3'.out.mv hm (by simp [kLt]), hvm'.out.mv hm (by simp [kMt])⟩

theorem fromAtom_c (d : Nat) : FromAtomC d := by
  induction d with
  | zero => intro w X cs a ha; exact ha.elim
  | succ d ih => exact fromAtom_step ih

end Go.Proofs.Ytmihdlbcjiaibaa
