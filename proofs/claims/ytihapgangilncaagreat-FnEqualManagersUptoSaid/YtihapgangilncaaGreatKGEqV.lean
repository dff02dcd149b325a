/- spec.equalPlain and spec.EqualValues. -/
import Derived.Test.YtihapgangilncaaGreatKGSame
import Derived.Test.YtihapgangilncaaGreatKGPar
import Derived.Deep.QuietTactic
import Derived.BigQuiet
import Derived.Test.YtihapgangilncaaGreatKGEqE
namespace Go.Proofs.YtihapgangilncaaGreat
open Go.RowKit

def vnum (k : Int) : Bool := k == 2 || k == 3
def asF (k n : Int) (f : Nat) : Nat := if k = 2 then toF n else f

mutual
def V.eqP : V → V → Bool
  | .mk k n f s ks l, .mk k2 n2 f2 s2 ks2 l2 =>
    if (vnum k && vnum k2) = true then (if k = 2 ∧ k2 = 2 then n == n2 else feq (asF k n f) (asF k2 n2 f2))
    else k == k2 && (n == n2 && (s == s2 && (decide (ks = ks2) && (decide (l.length = l2.length) && V.eqPL l l2))))
def V.eqPL : List V → List V → Bool
  | x :: l, y :: m => V.eqP x y && V.eqPL l m
  | _, _ => true
end

theorem eqP_num {k n k2 n2 : Int} {f f2 : Nat} {s s2 : ByteArray} {ks ks2 : List ByteArray} {l l2 : List V} (h : (vnum k && vnum k2) = true) :
    V.eqP (.mk k n f s ks l) (.mk k2 n2 f2 s2 ks2 l2) = if k = 2 ∧ k2 = 2 then n == n2 else feq (asF k n f) (asF k2 n2 f2) := by simp only [V.eqP]; rw [if_pos h]
theorem eqP_else {k n k2 n2 : Int} {f f2 : Nat} {s s2 : ByteArray} {ks ks2 : List ByteArray} {l l2 : List V} (h : (vnum k && vnum k2) = false) :
    V.eqP (.mk k n f s ks l) (.mk k2 n2 f2 s2 ks2 l2) = (k == k2 && (n == n2 && (s == s2 && (decide (ks = ks2) && (decide (l.length = l2.length) && V.eqPL l l2))))) := by simp only [V.eqP]; rw [if_neg (by rw [h]; simp)]

theorem eqPL_iff : ∀ {m l : List V}, m.length = l.length → (V.eqPL m l = true ↔ ∀ i (h : i < m.length) (h2 : i < l.length), V.eqP m[i] l[i] = true)
  | [], [], _ => by simp [V.eqPL]
  | [], _ :: _, h => by simp at h
  | _ :: _, [], h => by simp at h
  | x :: m, y :: l, h => by
    simp only [V.eqPL, Bool.and_eq_true, eqPL_iff (m := m) (l := l) (by simpa using h)]
    constructor
    · rintro ⟨h1, h2⟩ i hi hi2
      cases i with
      | zero => exact h1
      | succ i => exact h2 i (by simpa using hi) (by simpa using hi2)
    · intro h
      exact ⟨h 0 (by simp) (by simp), fun i hi hi2 => h (i + 1) (by simpa using hi) (by simpa using hi2)⟩

set_option maxRecDepth 100000 in
set_option maxHeartbeats 1000000 in
theorem number_c {w : World} {k n : Int} {f : Nat} {s : ByteArray} {v1 v2 : Value} (R : Ending → World → Prop) (hR : Ends R w (.bool (vnum k))) :
    Calls Tryz.prog 170 #[.agg #[.int .i64 k, .int .i64 n, .float .f64 f, .string s, v1, v2]] w R := by
  have hR' := Lib.hid hR
  clear hR
  cases h2 : k == 2 <;> cases h3 : k == 3
  all_goals
    go_enter Tryz.func170, Tryz.ntmps170
    go_wp2_with fail
    exact hR'.out.bool (by simp [vnum, h2, h3]) _ (.alloc _ _)
set_option maxRecDepth 100000 in
set_option maxHeartbeats 1000000 in
theorem asFloat_s {w : World} {k n : Int} {f : Nat} {s : ByteArray} {v1 v2 : Value} (R : Ending → World → Prop) (hR : Ends R w (.float .f64 (asF k n f))) :
    Calls Tryz.prog 171 #[.agg #[.int .i64 k, .int .i64 n, .float .f64 f, .string s, v1, v2]] w R := by
  have hR' := Lib.hid hR
  clear hR
  by_cases h2 : k = 2
  · subst h2
    go_enter Tryz.func171, Tryz.ntmps171
    go_wp2_with fail
    exact hR'.out.of (by simp [asF, toF]) _ (.alloc _ _)
  · have h2' : (k == 2) = false := by simpa using h2
    go_enter Tryz.func171, Tryz.ntmps171
    go_wp2_with fail
    exact hR'.out.of (by simp [asF, h2]) _ (.alloc _ _)

set_option maxRecDepth 100000 in
set_option pp.maxSteps 1000000 in
set_option pp.deepTerms true in
set_option maxHeartbeats 8000000 in
theorem equalPlain_c (v : V) : ∀ {w : World} {X Y : List Nat} {cs ds : List Value} {u : V} (_ : IsV w X cs v) (_ : IsV w Y ds u) (R : Ending → World → Prop) (_ : Ends R w (.bool (V.eqP v u))),
    Calls Tryz.prog 143 #[.agg cs.toArray, .agg ds.toArray] w R := by
  induction v using V.ind with
  | h kind n f s keys l ih =>
  intro w X Y cs ds u hv hu R hR
  obtain ⟨kind2, n2, f2, s2, keys2, l2⟩ := u
  obtain ⟨ko, kc, o, c, rfl, -, hks, hl⟩ := hv.inv
  obtain ⟨ko2, kc2, o2, c2, rfl, -, hks2, hl2⟩ := hu.inv
  have hR' := Lib.hid hR
  have hih := Lib.hid ih
  have hks' := Lib.hid hks
  have hks2' := Lib.hid hks2
  have hl' := Lib.hid hl
  have hl2' := Lib.hid hl2
  clear hR ih hks hks2 hl hl2 hv hu
  go_enter Tryz.func143, Tryz.ntmps143
  go_wp2_with fail
  refine abs2 (G := fun wr => Calls _ _ _ wr _) ?_
  intro w1 hE1 hb1 hb2 hs1
  have a0 : w1.cell? ⟨w.heap.size, 0, none⟩ = some (.int .i64 kind) := cells_of hb1 0; have a1 : w1.cell? ⟨w.heap.size, 1, none⟩ = some (.int .i64 n) := cells_of hb1 1; have a2 : w1.cell? ⟨w.heap.size, 2, none⟩ = some (.float .f64 f) := cells_of hb1 2; have a3 : w1.cell? ⟨w.heap.size, 3, none⟩ = some (.string s) := cells_of hb1 3; have a4 : w1.cell? ⟨w.heap.size, 4, none⟩ = some (.slice ko keys.length kc) := cells_of hb1 4; have a5 : w1.cell? ⟨w.heap.size, 5, none⟩ = some (.slice o l.length c) := cells_of hb1 5
  have b0 : w1.cell? ⟨w.heap.size + 1, 0, none⟩ = some (.int .i64 kind2) := cells_of hb2 0; have b1 : w1.cell? ⟨w.heap.size + 1, 1, none⟩ = some (.int .i64 n2) := cells_of hb2 1; have b2 : w1.cell? ⟨w.heap.size + 1, 2, none⟩ = some (.float .f64 f2) := cells_of hb2 2; have b3 : w1.cell? ⟨w.heap.size + 1, 3, none⟩ = some (.string s2) := cells_of hb2 3; have b4 : w1.cell? ⟨w.heap.size + 1, 4, none⟩ = some (.slice ko2 keys2.length kc2) := cells_of hb2 4; have b5 : w1.cell? ⟨w.heap.size + 1, 5, none⟩ = some (.slice o2 l2.length c2) := cells_of hb2 5
  clear hb1 hb2 hs1
  refine number_c _ ?_
  intro w2 hE2
  replace a0 := hE2.keep a0; replace a1 := hE2.keep a1; replace a2 := hE2.keep a2; replace a3 := hE2.keep a3; replace a4 := hE2.keep a4; replace a5 := hE2.keep a5; replace b0 := hE2.keep b0; replace b1 := hE2.keep b1; replace b2 := hE2.keep b2; replace b3 := hE2.keep b3; replace b4 := hE2.keep b4; replace b5 := hE2.keep b5
  replace hE1 := hE1.trans hE2
  clear hE2
  by_cases hbt : (vnum kind && vnum kind2) = true
  · have h1 : vnum kind = true := by simp at hbt; exact hbt.1
    have h2 : vnum kind2 = true := by simp at hbt; exact hbt.2
    have hbt' := Lib.hid hbt
    rw [h1]
    clear hbt h1
    dsimp only
    go_wp2_with fail
    refine number_c _ ?_
    intro w3 hE2
    rw [h2]
    clear h2
    replace a0 := hE2.keep a0; replace a1 := hE2.keep a1; replace a2 := hE2.keep a2; replace a3 := hE2.keep a3; replace a4 := hE2.keep a4; replace a5 := hE2.keep a5; replace b0 := hE2.keep b0; replace b1 := hE2.keep b1; replace b2 := hE2.keep b2; replace b3 := hE2.keep b3; replace b4 := hE2.keep b4; replace b5 := hE2.keep b5
    replace hE1 := hE1.trans hE2
    clear hE2
    have hc : (kind = 2 ∧ kind2 = 2) ∨ ¬ (kind = 2 ∧ kind2 = 2) := Classical.em _
    rcases hc with ⟨rfl, rfl⟩ | hc
    · dsimp only
      go_wp2_with fail
      exact hR'.out.bool (by rw [eqP_num hbt'.out]; simp) _ hE1
    · have hc' := Lib.hid hc
      have hcc : (kind == 2) = false ∨ ((kind == 2) = true ∧ (kind2 == 2) = false) := by
        by_cases e : kind = 2
        · exact .inr ⟨by simpa using e, by simpa using fun e2 => hc ⟨e, e2⟩⟩
        · exact .inl (by simpa using e)
      clear hc
      rcases hcc with q1 | ⟨q1, q2⟩
      all_goals
        dsimp only
        go_wp2_with fail
        have hC : Ext w3 w3.drew := (Ext.refl _).drew
        refine wp_region_script [0, 2, 4, 5] [1] (fun w' => Ext w3 w') [(.read, 0), (.read, 2), (.one, 1), (.one, 3), (.pure, 4), (.pure, 5)] (by kernel_rfl) (by kernel_rfl) ?_
        (apply scr_read'; (· rfl); (· rfl); (· first | exact hC | exact (Ext.refl _).drew); (· (intro w' hw'; have a0_ := hw'.keep a0; have a1_ := hw'.keep a1; have a2_ := hw'.keep a2; have a3_ := hw'.keep a3; have a4_ := hw'.keep a4; have a5_ := hw'.keep a5; go_simp; try rfl)); (· (simp [go_sem]; try rfl)))
        (apply scr_read'; (· rfl); (· rfl); (· first | exact hC | exact (Ext.refl _).drew); (· (intro w' hw'; have b0_ := hw'.keep b0; have b1_ := hw'.keep b1; have b2_ := hw'.keep b2; have b3_ := hw'.keep b3; have b4_ := hw'.keep b4; have b5_ := hw'.keep b5; go_simp; try rfl)); (· (simp [go_sem]; try rfl)))
        refine scr_one rfl rfl (fun K hK => ?_)
        go_simp
        refine asFloat_s _ ?_
        intro w4 hE4
        refine hK _ _ (fun _ => hC.trans hE4) ?_
        clear hK
        refine scr_one rfl rfl (fun K hK => ?_)
        go_simp
        refine asFloat_s _ ?_
        intro w5 hE5
        refine hK _ _ (fun h => by simp at h) ?_
        clear hK
        (apply scr_pure'; (· rfl); (· rfl); (· (intro w'; go_simp; try rfl)); (· (simp [go_sem]; try rfl)))
        (apply scr_pure'; (· rfl); (· rfl); (· (intro w'; go_simp; try rfl)); (· (simp [go_sem]; try rfl)))
        refine scr_end ?_
        simp only [Exit.then]
        go_wp2_with fail
        refine hR'.out.bool ?_ _ (hE1.trans (hC.trans (hE4.trans hE5)))
        have := hc'.out
        rw [eqP_num hbt'.out, if_neg this]; simp [feq]
  · have hnn : (vnum kind && vnum kind2) = false := by simpa using hbt
    have hnn' := Lib.hid hnn
    clear hbt
    cases h1 : vnum kind
    · have h1' := Lib.hid h1
      clear h1 hnn
      obtain ⟨w3, rfl⟩ : ∃ w3, w3 = w2 := ⟨_, rfl⟩
      dsimp only
      have hcase : kind ≠ kind2 ∨ (kind = kind2 ∧ n ≠ n2) ∨ (kind = kind2 ∧ n = n2 ∧ s ≠ s2) ∨ (kind = kind2 ∧ n = n2 ∧ s = s2) := by
        by_cases h0 : kind = kind2 <;> by_cases h1 : n = n2 <;> by_cases h2 : s = s2 <;> simp [h0, h1, h2]
      rcases hcase with h0 | ⟨rfl, h0⟩ | ⟨rfl, rfl, h0⟩ | ⟨rfl, rfl, rfl⟩
      iterate 2
        · have h1 := h0
          have h2 := bne_iff_ne.2 h0
          go_wp2_with fail
          all_goals first | (exact hR'.out.bool (by rw [eqP_else hnn'.out]; simp [h0]) _ hE1) | (exfalso; apply h0; assumption)
      · have h1 : (s.toList == s2.toList) = false := beq_eq_false_iff_ne.2 fun h => h0 (toList_inj h)
        go_wp2_with fail
        exact hR'.out.bool (by rw [eqP_else hnn'.out]; simp [h0]) _ hE1
      by_cases hkl : keys.length = keys2.length
      rotate_left
      · have hkl' : ¬ (keys.length : Int) = (keys2.length : Int) := by omega
        have hkb : ((keys.length : Int) != (keys2.length : Int)) = true := by rw [bne_iff_ne]; omega
        go_wp2_with fail
        refine hR'.out.bool ?_ _ hE1
        have : ¬ keys = keys2 := fun h => hkl (by rw [h])
        rw [eqP_else hnn'.out]; simp [this]
      by_cases hll : l.length = l2.length
      rotate_left
      · have hll' : ¬ (l.length : Int) = (l2.length : Int) := by omega
        have hkb : ((l.length : Int) != (l2.length : Int)) = true := by rw [bne_iff_ne]; omega
        have hkb2 : ((keys.length : Int) != (keys2.length : Int)) = false := by simpa using congrArg Int.ofNat hkl
        have hkl' := Lib.hid hkl
        clear hkl
        go_wp2_with fail
        exact hR'.out.bool (by rw [eqP_else hnn'.out]; simp [hll]) _ hE1
      have hkb : ((l.length : Int) != (l2.length : Int)) = false := by simpa using congrArg Int.ofNat hll
      have hkb2 : ((keys.length : Int) != (keys2.length : Int)) = false := by simpa using congrArg Int.ofNat hkl
      have hkl' := Lib.hid hkl
      have hll' := Lib.hid hll
      clear hkl hll
      go_wp2_with fail
      have a5w := Lib.hid a5
      have b5w := Lib.hid b5
      go_loopw [69] (fun i wr => ∃ k : Nat, k ≤ keys.length ∧ i = .int .i64 k ∧ Ext w3 wr ∧ Hid (∀ j (h : j < keys.length) (h2 : j < keys2.length), j < k → keys[j] = keys2[j])) (fun i _ => keys.length - (intOf i).toNat)
      case atStart => exact ⟨0, Nat.zero_le _, rfl, Ext.refl _, fun j _ _ hj => by omega⟩
      case round =>
        obtain ⟨k, hk, rfl, hE, hall⟩ := hrel
        replace a4 := hE.keep a4
        replace a5 := hE.keep a5
        replace b4 := hE.keep b4
        replace b5 := hE.keep b5
        clear a0 a1 a2 a3 b0 b1 b2 b3
        by_cases hlt : k < keys.length
        · have hlt2 : k < keys2.length := by have := hkl'.out; omega
          obtain ⟨_, _, kb, koff, e, k2, k3, k4, k5⟩ := hks'.out.ex
          cases e
          obtain ⟨_, _, mb, moff, e, m2, m3, m4, m5⟩ := hks2'.out.ex
          cases e
          obtain ⟨rfl, -⟩ := k4 (by omega)
          obtain ⟨rfl, -⟩ := m4 (by omega)
          have q0 := hE.keep (hE1.keep (k5 k hlt).1)
          have q1 := hE.keep (hE1.keep (m5 k hlt2).1)
          have hkm : (k : Int) + 1 ≤ 9223372036854775807 := by omega
          clear k5 m5 k4 m4 k2 k3 m2 m3
          have hk1 : keys.getD k ByteArray.empty = keys[k] := by simp [hlt]
          have hk2 : keys2.getD k ByteArray.empty = keys2[k] := by simp [hlt2]
          rw [hk1] at q0
          rw [hk2] at q1
          clear hk1 hk2
          have hi1 : (k : Int) < (keys.length : Int) := by omega
          have hi2 : (k : Int) < (keys2.length : Int) := by omega
          by_cases hke : keys[k] = keys2[k]
          · have hkt : (keys[k]).toList = (keys2[k]).toList := by rw [hke]
            rw [hke] at q0
            have hke' := Lib.hid hke
            clear hke hkt
            go_wp2_with fail
            refine wp_region_script (List.range 11) [] (fun w' => w' = wr.drew) [(.read, 0), (.read, 1), (.read, 2), (.read, 3), (.read, 4), (.read, 5), (.read, 6), (.read, 7), (.read, 8), (.read, 9), (.read, 10)] (by kernel_rfl) (by kernel_rfl) ?_
            iterate 11 (first | (apply scr_r; (· rfl); (· (first | rfl | (simp [Region.wanted, yielded, go_sem]; done) | (simp [Region.wanted, yielded, go_sem, *]; done))); (· (go_simp; try rfl)); (· (simp [go_sem]; try rfl))) | (apply scr_r0; (· rfl); (· (first | rfl | (simp [Region.wanted, yielded, go_sem]; done) | (simp [Region.wanted, yielded, go_sem, *]; done))); (· (simp [go_sem]; try rfl))))
            refine scr_end ?_
            simp only [Exit.then]
            go_wp2_with fail
            go_roundw
            case rel =>
              refine ⟨k + 1, by omega, by go_num, hE.drew, fun j h h2 hj => ?_⟩
              by_cases e : j = k
              · subst e; exact hke'.out
              · exact hall.out j h h2 (by omega)
            case measure => simp [intOf]; omega
          · have hkt : ((keys[k]).toList == (keys2[k]).toList) = false := beq_eq_false_iff_ne.2 fun h => hke (toList_inj h)
            have hke' := Lib.hid hke
            clear hke
            go_wp2_with fail
            refine wp_region_script (List.range 11) [] (fun w' => w' = wr.drew) [(.read, 0), (.read, 1), (.read, 2), (.read, 3), (.read, 4), (.read, 5), (.read, 6), (.read, 7), (.read, 8), (.read, 9), (.read, 10)] (by kernel_rfl) (by kernel_rfl) ?_
            iterate 11 (first | (apply scr_r; (· rfl); (· (first | rfl | (simp [Region.wanted, yielded, go_sem]; done) | (simp [Region.wanted, yielded, go_sem, *]; done))); (· (go_simp; try rfl)); (· (simp [go_sem]; try rfl))) | (apply scr_r0; (· rfl); (· (first | rfl | (simp [Region.wanted, yielded, go_sem]; done) | (simp [Region.wanted, yielded, go_sem, *]; done))); (· (simp [go_sem]; try rfl))))
            refine scr_end ?_
            simp only [Exit.then]
            go_wp2_with fail
            refine hR'.out.bool ?_ _ (hE1.trans hE.drew)
            have : ¬ keys = keys2 := fun h => hke'.out (by subst h; rfl)
            rw [eqP_else hnn'.out]; simp [this]
        · have hkeys : keys = keys2 := List.ext_getElem hkl'.out (fun j h h2 => hall.out j h h2 (by omega))
          have hkeys' := Lib.hid hkeys
          clear hkeys hall
          go_wp2_with fail
          go_loopw [87] (fun i wr => ∃ k : Nat, k ≤ l.length ∧ i = .int .i64 k ∧ Ext w3 wr ∧ Hid (∀ j (h : j < l.length) (h2 : j < l2.length), j < k → V.eqP (l[j]) (l2[j]) = true)) (fun i _ => l.length - (intOf i).toNat)
          case atStart => exact ⟨0, Nat.zero_le _, rfl, hE, fun j _ _ hj => by omega⟩
          case round =>
            obtain ⟨k', hk', rfl, hE', hall⟩ := hrel
            have a5' := hE'.keep (id a5w.out)
            have b5' := hE'.keep (id b5w.out)
            clear a4 a5 b4 b5
            by_cases hlt' : k' < l.length
            · have hlt2 : k' < l2.length := by have := hll'.out; omega
              obtain ⟨_, _, b, off, e, h2, h3, h4, h5⟩ := hl'.out.ex
              cases e
              obtain ⟨_, _, d, doff, e, m2, m3, m4, m5⟩ := hl2'.out.ex
              cases e
              obtain ⟨rfl, hbX⟩ := h4 (by omega)
              obtain ⟨rfl, hdY⟩ := m4 (by omega)
              obtain ⟨x, c0, c1, c2, c3, c4, c5, hx⟩ := h5 k' hlt'
              obtain ⟨y, d0, d1, d2, d3, d4, d5, hy⟩ := m5 k' hlt2
              have hEE := hE1.trans hE'
              have q0 := hEE.keep c0
              have q1 := hEE.keep c1
              have q2 := hEE.keep c2
              have q3 := hEE.keep c3
              have q4 := hEE.keep c4
              have q5 := hEE.keep c5
              have r0 := hEE.keep d0
              have r1 := hEE.keep d1
              have r2 := hEE.keep d2
              have r3 := hEE.keep d3
              have r4 := hEE.keep d4
              have r5 := hEE.keep d5
              have hi1 : (k' : Int) < (l.length : Int) := by omega
              have hi2 : (k' : Int) < (l2.length : Int) := by omega
              have hkm : (k' : Int) + 1 ≤ 9223372036854775807 := by omega
              have hx' := Lib.hid hx
              have hy' := Lib.hid hy
              clear c0 c1 c2 c3 c4 c5 d0 d1 d2 d3 d4 d5 h5 m5 h4 m4 hx hy h2 h3 m2 m3
              go_wp2_with fail
              refine wp_region_script (List.range 10) [] (fun w' => w' = wr.drew) [(.read, 0), (.read, 1), (.read, 2), (.read, 3), (.read, 4), (.read, 5), (.read, 6), (.read, 7), (.read, 8), (.read, 9), (.one, 10), (.pure, 11)] (by kernel_rfl) (by kernel_rfl) ?_
              iterate 10 (first | (apply scr_r; (· rfl); (· (first | rfl | (simp [Region.wanted, yielded, go_sem]; done) | (simp [Region.wanted, yielded, go_sem, *]; done))); (· (go_simp; try rfl)); (· (simp [go_sem]; try rfl))) | (apply scr_r0; (· rfl); (· (first | rfl | (simp [Region.wanted, yielded, go_sem]; done) | (simp [Region.wanted, yielded, go_sem, *]; done))); (· (simp [go_sem]; try rfl))))
              refine scr_one rfl rfl (fun K hK => ?_)
              go_simp
              refine hih.out k' hlt' (hx'.out.mv (hEE.drew.mv _)) (hy'.out.mv (hEE.drew.mv _)) _ ?_
              obtain ⟨bb, hbb⟩ : ∃ bb, V.eqP (l[k']) (l2[k']) = bb := ⟨_, rfl⟩
              rw [hbb]
              intro w3 hE3
              refine hK _ _ (fun h => by simp at h) ?_
              clear hK
              have hbb' := Lib.hid hbb
              clear hbb
              cases bb
              all_goals
                (apply scr_pure'; (· rfl); (· rfl); (· (intro w'; go_simp; try rfl)); (· (simp [go_sem]; try rfl)))
                refine scr_end ?_
                simp only [Exit.then]
                go_wp2_with fail
              · refine hR'.out.bool ?_ _ (hEE.drew.trans hE3)
                have : V.eqPL l l2 = false := by
                  rw [Bool.eq_false_iff]
                  intro h
                  have := (eqPL_iff hll'.out).1 h k' hlt' hlt2
                  rw [hbb'.out] at this
                  cases this
                rw [eqP_else hnn'.out]; simp [this]
              · go_roundw
                case rel =>
                  refine ⟨k' + 1, by omega, by go_num, hE'.drew.trans hE3, fun j h h2 hj => ?_⟩
                  by_cases e : j = k'
                  · subst e; exact hbb'.out
                  · exact hall.out j h h2 (by omega)
                case measure => simp [intOf]; omega
            · go_wp2_with fail
              refine hR'.out.bool ?_ _ (hE1.trans hE')
              have : V.eqPL l l2 = true := (eqPL_iff hll'.out).2 fun j h h2 => hall.out j h h2 (by omega)
              rw [eqP_else hnn'.out]; simp [this, hkeys'.out, hll'.out]
    · have h2 : vnum kind2 = false := by rw [h1] at hnn; simpa using hnn
      clear hnn h1
      dsimp only
      go_wp2_with fail
      refine number_c _ ?_
      intro w3 hE2
      rw [h2]
      clear h2
      replace a0 := hE2.keep a0; replace a1 := hE2.keep a1; replace a2 := hE2.keep a2; replace a3 := hE2.keep a3; replace a4 := hE2.keep a4; replace a5 := hE2.keep a5; replace b0 := hE2.keep b0; replace b1 := hE2.keep b1; replace b2 := hE2.keep b2; replace b3 := hE2.keep b3; replace b4 := hE2.keep b4; replace b5 := hE2.keep b5
      replace hE1 := hE1.trans hE2
      clear hE2
      dsimp only
      have hcase : kind ≠ kind2 ∨ (kind = kind2 ∧ n ≠ n2) ∨ (kind = kind2 ∧ n = n2 ∧ s ≠ s2) ∨ (kind = kind2 ∧ n = n2 ∧ s = s2) := by
        by_cases h0 : kind = kind2 <;> by_cases h1 : n = n2 <;> by_cases h2 : s = s2 <;> simp [h0, h1, h2]
      rcases hcase with h0 | ⟨rfl, h0⟩ | ⟨rfl, rfl, h0⟩ | ⟨rfl, rfl, rfl⟩
      iterate 2
        · have h1 := h0
          have h2 := bne_iff_ne.2 h0
          go_wp2_with fail
          all_goals first | (exact hR'.out.bool (by rw [eqP_else hnn'.out]; simp [h0]) _ hE1) | (exfalso; apply h0; assumption)
      · have h1 : (s.toList == s2.toList) = false := beq_eq_false_iff_ne.2 fun h => h0 (toList_inj h)
        go_wp2_with fail
        exact hR'.out.bool (by rw [eqP_else hnn'.out]; simp [h0]) _ hE1
      by_cases hkl : keys.length = keys2.length
      rotate_left
      · have hkl' : ¬ (keys.length : Int) = (keys2.length : Int) := by omega
        have hkb : ((keys.length : Int) != (keys2.length : Int)) = true := by rw [bne_iff_ne]; omega
        go_wp2_with fail
        refine hR'.out.bool ?_ _ hE1
        have : ¬ keys = keys2 := fun h => hkl (by rw [h])
        rw [eqP_else hnn'.out]; simp [this]
      by_cases hll : l.length = l2.length
      rotate_left
      · have hll' : ¬ (l.length : Int) = (l2.length : Int) := by omega
        have hkb : ((l.length : Int) != (l2.length : Int)) = true := by rw [bne_iff_ne]; omega
        have hkb2 : ((keys.length : Int) != (keys2.length : Int)) = false := by simpa using congrArg Int.ofNat hkl
        have hkl' := Lib.hid hkl
        clear hkl
        go_wp2_with fail
        exact hR'.out.bool (by rw [eqP_else hnn'.out]; simp [hll]) _ hE1
      have hkb : ((l.length : Int) != (l2.length : Int)) = false := by simpa using congrArg Int.ofNat hll
      have hkb2 : ((keys.length : Int) != (keys2.length : Int)) = false := by simpa using congrArg Int.ofNat hkl
      have hkl' := Lib.hid hkl
      have hll' := Lib.hid hll
      clear hkl hll
      go_wp2_with fail
      have a5w := Lib.hid a5
      have b5w := Lib.hid b5
      go_loopw [69] (fun i wr => ∃ k : Nat, k ≤ keys.length ∧ i = .int .i64 k ∧ Ext w3 wr ∧ Hid (∀ j (h : j < keys.length) (h2 : j < keys2.length), j < k → keys[j] = keys2[j])) (fun i _ => keys.length - (intOf i).toNat)
      case atStart => exact ⟨0, Nat.zero_le _, rfl, Ext.refl _, fun j _ _ hj => by omega⟩
      case round =>
        obtain ⟨k, hk, rfl, hE, hall⟩ := hrel
        replace a4 := hE.keep a4
        replace a5 := hE.keep a5
        replace b4 := hE.keep b4
        replace b5 := hE.keep b5
        clear a0 a1 a2 a3 b0 b1 b2 b3
        by_cases hlt : k < keys.length
        · have hlt2 : k < keys2.length := by have := hkl'.out; omega
          obtain ⟨_, _, kb, koff, e, k2, k3, k4, k5⟩ := hks'.out.ex
          cases e
          obtain ⟨_, _, mb, moff, e, m2, m3, m4, m5⟩ := hks2'.out.ex
          cases e
          obtain ⟨rfl, -⟩ := k4 (by omega)
          obtain ⟨rfl, -⟩ := m4 (by omega)
          have q0 := hE.keep (hE1.keep (k5 k hlt).1)
          have q1 := hE.keep (hE1.keep (m5 k hlt2).1)
          have hkm : (k : Int) + 1 ≤ 9223372036854775807 := by omega
          clear k5 m5 k4 m4 k2 k3 m2 m3
          have hk1 : keys.getD k ByteArray.empty = keys[k] := by simp [hlt]
          have hk2 : keys2.getD k ByteArray.empty = keys2[k] := by simp [hlt2]
          rw [hk1] at q0
          rw [hk2] at q1
          clear hk1 hk2
          have hi1 : (k : Int) < (keys.length : Int) := by omega
          have hi2 : (k : Int) < (keys2.length : Int) := by omega
          by_cases hke : keys[k] = keys2[k]
          · have hkt : (keys[k]).toList = (keys2[k]).toList := by rw [hke]
            rw [hke] at q0
            have hke' := Lib.hid hke
            clear hke hkt
            go_wp2_with fail
            refine wp_region_script (List.range 11) [] (fun w' => w' = wr.drew) [(.read, 0), (.read, 1), (.read, 2), (.read, 3), (.read, 4), (.read, 5), (.read, 6), (.read, 7), (.read, 8), (.read, 9), (.read, 10)] (by kernel_rfl) (by kernel_rfl) ?_
            iterate 11 (first | (apply scr_r; (· rfl); (· (first | rfl | (simp [Region.wanted, yielded, go_sem]; done) | (simp [Region.wanted, yielded, go_sem, *]; done))); (· (go_simp; try rfl)); (· (simp [go_sem]; try rfl))) | (apply scr_r0; (· rfl); (· (first | rfl | (simp [Region.wanted, yielded, go_sem]; done) | (simp [Region.wanted, yielded, go_sem, *]; done))); (· (simp [go_sem]; try rfl))))
            refine scr_end ?_
            simp only [Exit.then]
            go_wp2_with fail
            go_roundw
            case rel =>
              refine ⟨k + 1, by omega, by go_num, hE.drew, fun j h h2 hj => ?_⟩
              by_cases e : j = k
              · subst e; exact hke'.out
              · exact hall.out j h h2 (by omega)
            case measure => simp [intOf]; omega
          · have hkt : ((keys[k]).toList == (keys2[k]).toList) = false := beq_eq_false_iff_ne.2 fun h => hke (toList_inj h)
            have hke' := Lib.hid hke
            clear hke
            go_wp2_with fail
            refine wp_region_script (List.range 11) [] (fun w' => w' = wr.drew) [(.read, 0), (.read, 1), (.read, 2), (.read, 3), (.read, 4), (.read, 5), (.read, 6), (.read, 7), (.read, 8), (.read, 9), (.read, 10)] (by kernel_rfl) (by kernel_rfl) ?_
            iterate 11 (first | (apply scr_r; (· rfl); (· (first | rfl | (simp [Region.wanted, yielded, go_sem]; done) | (simp [Region.wanted, yielded, go_sem, *]; done))); (· (go_simp; try rfl)); (· (simp [go_sem]; try rfl))) | (apply scr_r0; (· rfl); (· (first | rfl | (simp [Region.wanted, yielded, go_sem]; done) | (simp [Region.wanted, yielded, go_sem, *]; done))); (· (simp [go_sem]; try rfl))))
            refine scr_end ?_
            simp only [Exit.then]
            go_wp2_with fail
            refine hR'.out.bool ?_ _ (hE1.trans hE.drew)
            have : ¬ keys = keys2 := fun h => hke'.out (by subst h; rfl)
            rw [eqP_else hnn'.out]; simp [this]
        · have hkeys : keys = keys2 := List.ext_getElem hkl'.out (fun j h h2 => hall.out j h h2 (by omega))
          have hkeys' := Lib.hid hkeys
          clear hkeys hall
          go_wp2_with fail
          go_loopw [87] (fun i wr => ∃ k : Nat, k ≤ l.length ∧ i = .int .i64 k ∧ Ext w3 wr ∧ Hid (∀ j (h : j < l.length) (h2 : j < l2.length), j < k → V.eqP (l[j]) (l2[j]) = true)) (fun i _ => l.length - (intOf i).toNat)
          case atStart => exact ⟨0, Nat.zero_le _, rfl, hE, fun j _ _ hj => by omega⟩
          case round =>
            obtain ⟨k', hk', rfl, hE', hall⟩ := hrel
            have a5' := hE'.keep (id a5w.out)
            have b5' := hE'.keep (id b5w.out)
            clear a4 a5 b4 b5
            by_cases hlt' : k' < l.length
            · have hlt2 : k' < l2.length := by have := hll'.out; omega
              obtain ⟨_, _, b, off, e, h2, h3, h4, h5⟩ := hl'.out.ex
              cases e
              obtain ⟨_, _, d, doff, e, m2, m3, m4, m5⟩ := hl2'.out.ex
              cases e
              obtain ⟨rfl, hbX⟩ := h4 (by omega)
              obtain ⟨rfl, hdY⟩ := m4 (by omega)
              obtain ⟨x, c0, c1, c2, c3, c4, c5, hx⟩ := h5 k' hlt'
              obtain ⟨y, d0, d1, d2, d3, d4, d5, hy⟩ := m5 k' hlt2
              have hEE := hE1.trans hE'
              have q0 := hEE.keep c0
              have q1 := hEE.keep c1
              have q2 := hEE.keep c2
              have q3 := hEE.keep c3
              have q4 := hEE.keep c4
              have q5 := hEE.keep c5
              have r0 := hEE.keep d0
              have r1 := hEE.keep d1
              have r2 := hEE.keep d2
              have r3 := hEE.keep d3
              have r4 := hEE.keep d4
              have r5 := hEE.keep d5
              have hi1 : (k' : Int) < (l.length : Int) := by omega
              have hi2 : (k' : Int) < (l2.length : Int) := by omega
              have hkm : (k' : Int) + 1 ≤ 9223372036854775807 := by omega
              have hx' := Lib.hid hx
              have hy' := Lib.hid hy
              clear c0 c1 c2 c3 c4 c5 d0 d1 d2 d3 d4 d5 h5 m5 h4 m4 hx hy h2 h3 m2 m3
              go_wp2_with fail
              refine wp_region_script (List.range 10) [] (fun w' => w' = wr.drew) [(.read, 0), (.read, 1), (.read, 2), (.read, 3), (.read, 4), (.read, 5), (.read, 6), (.read, 7), (.read, 8), (.read, 9), (.one, 10), (.pure, 11)] (by kernel_rfl) (by kernel_rfl) ?_
              iterate 10 (first | (apply scr_r; (· rfl); (· (first | rfl | (simp [Region.wanted, yielded, go_sem]; done) | (simp [Region.wanted, yielded, go_sem, *]; done))); (· (go_simp; try rfl)); (· (simp [go_sem]; try rfl))) | (apply scr_r0; (· rfl); (· (first | rfl | (simp [Region.wanted, yielded, go_sem]; done) | (simp [Region.wanted, yielded, go_sem, *]; done))); (· (simp [go_sem]; try rfl))))
              refine scr_one rfl rfl (fun K hK => ?_)
              go_simp
              refine hih.out k' hlt' (hx'.out.mv (hEE.drew.mv _)) (hy'.out.mv (hEE.drew.mv _)) _ ?_
              obtain ⟨bb, hbb⟩ : ∃ bb, V.eqP (l[k']) (l2[k']) = bb := ⟨_, rfl⟩
              rw [hbb]
              intro w3 hE3
              refine hK _ _ (fun h => by simp at h) ?_
              clear hK
              have hbb' := Lib.hid hbb
              clear hbb
              cases bb
              all_goals
                (apply scr_pure'; (· rfl); (· rfl); (· (intro w'; go_simp; try rfl)); (· (simp [go_sem]; try rfl)))
                refine scr_end ?_
                simp only [Exit.then]
                go_wp2_with fail
              · refine hR'.out.bool ?_ _ (hEE.drew.trans hE3)
                have : V.eqPL l l2 = false := by
                  rw [Bool.eq_false_iff]
                  intro h
                  have := (eqPL_iff hll'.out).1 h k' hlt' hlt2
                  rw [hbb'.out] at this
                  cases this
                rw [eqP_else hnn'.out]; simp [this]
              · go_roundw
                case rel =>
                  refine ⟨k' + 1, by omega, by go_num, hE'.drew.trans hE3, fun j h h2 hj => ?_⟩
                  by_cases e : j = k'
                  · subst e; exact hbb'.out
                  · exact hall.out j h h2 (by omega)
                case measure => simp [intOf]; omega
            · go_wp2_with fail
              refine hR'.out.bool ?_ _ (hE1.trans hE')
              have : V.eqPL l l2 = true := (eqPL_iff hll'.out).2 fun j h h2 => hall.out j h h2 (by omega)
              rw [eqP_else hnn'.out]; simp [this, hkeys'.out, hll'.out]
end Go.Proofs.YtihapgangilncaaGreat
