/- laws.bareRefs: if it answers true, no reference has a relationship of its own and each type has one kind (printed by gen_bare.py). -/
import Derived.Test.YtnndacgokehkpaaDefined
namespace Go.Proofs.Ytnndacgokehkpaa
open Go.RowKit
set_option linter.unusedSimpArgs false

def oneKind (s : ByteArray) (ls : List (LtOf A)) (ms : List (MtOf A)) : Prop := (if s.toList.isEmpty then 0 else 1) + (ls.length + ms.length) ≤ 1
def BareR (f : A → Prop) (r : RfOf A) : Prop := r.rel = ⟨#[]⟩ ∧ f r.atom
def BareP1 (f : A → Prop) : A → Prop
  | .mk s ls ms => oneKind s (ls.take 1) (ms.take 1) ∧ (∀ l ∈ ls.take 1, BareR f l.elem) ∧ ∀ m ∈ ms.take 1, BareR f m.elem ∧ ∀ x ∈ m.fields, BareR f x.type
def BareP : Nat → A → Prop
  | 0 => fun _ => True
  | d + 1 => BareP1 (BareP d)

def BarC (d : Nat) : Prop := ∀ (w : World) (X : List Nat) (cs : List Value) (a : A) (n : Int), (kA d).is w X cs a → -9223372036854775808 ≤ n → n ≤ 9223372036854775807 → ∀ R : Ending → World → Prop, (∀ w' u, Ext w w' → (u = true → BareP d a) → R (.returned (.bool u)) w') →
    Calls Try.prog 11 #[.agg cs.toArray, .int .i64 n] w R

set_option maxRecDepth 100000 in
set_option maxHeartbeats 4000000 in
theorem bareRef_c {d : Nat} (ih : BarC d) {w : World} {X : List Nat} {b : Bool} {nm rel : ByteArray} {t2 t3 t4 : Value} {a : A} {n : Int} (ha : (kA d).is w X [t2, t3, t4] a) (h1 : -9223372036854775808 ≤ n) (h2 : n ≤ 9223372036854775807)
    (R : Ending → World → Prop) (hR : ∀ w' u, Ext w w' → (u = true → rel = ⟨#[]⟩ ∧ BareP d a) → R (.returned (.bool u)) w') : Calls Try.prog 28 #[.agg #[.bool b, .string nm, t2, t3, t4, .string rel], .int .i64 n] w R := by
  have ho := (kA d).one ha
  have o2 := ho t2 (by simp)
  have o3 := ho t3 (by simp)
  have o4 := ho t4 (by simp)
  have ha' := Lib.hid ha
  have ih' := Lib.hid ih
  have hR' := Lib.hid hR
  clear ha ih hR ho
  cases hse : rel.toList.isEmpty
  · have hs' := Lib.hid hse
    go_enter Try.func28, Try.ntmps28
    go_wp2_with fail
    exact hR'.out _ _ (.alloc _ _) (fun h => by cases h)
  · have hs' := Lib.hid hse
    go_enter Try.func28, Try.ntmps28
    go_wp2_with fail
    refine abs1 (G := fun wr => Calls _ _ _ wr _) ?_
    intro w1 hE1 hb1 hs1
    refine ih'.out w1 X [t2, t3, t4] a n ((kA d).mv ha'.out (hE1.mv X)) h1 h2 _ ?_
    intro w2 u hE2 hu
    have hu' := Lib.hid hu
    clear hu
    dsimp only
    go_wp2_with fail
    exact hR'.out _ _ (hE1.trans hE2) (fun h => ⟨empty_eq hs'.out, hu'.out h⟩)

set_option maxRecDepth 100000 in
set_option maxHeartbeats 16000000 in
set_option pp.maxSteps 1000000 in
set_option pp.deepTerms true in
theorem bare_step {d : Nat} (ih : BarC d) : BarC (d + 1) := by
  intro w X cs a n ha hn1 hn2 R hR
  obtain ⟨s, ls, ms⟩ := a
  obtain ⟨vl, vm, rfl, hs, hls, hms⟩ := ha
  have hlo := hls.one
  have hmo := hms.one
  have hls' := Lib.hid hls
  have hms' := Lib.hid hms
  have hR0 : ∀ w' u, Ext w w' → (u = true → oneKind s (ls.take 1) (ms.take 1) ∧ (∀ l ∈ ls.take 1, BareR (BareP d) l.elem) ∧ ∀ m ∈ ms.take 1, BareR (BareP d) m.elem ∧ ∀ x ∈ m.fields, BareR (BareP d) x.type) → R (.returned (.bool u)) w' := hR
  have hR' := Lib.hid hR0
  have hih := Lib.hid ih
  have hl1 : (ls.take 1).length ≤ 1 := by rw [List.length_take]; omega
  have hm1 : (ms.take 1).length ≤ 1 := by rw [List.length_take]; omega
  obtain ⟨nl, hnl⟩ : ∃ q, (ls.take 1).length = q := ⟨_, rfl⟩
  obtain ⟨nm, hnm⟩ : ∃ q, (ms.take 1).length = q := ⟨_, rfl⟩
  rw [hnl] at hl1
  rw [hnm] at hm1
  have hnl' := Lib.hid hnl
  have hnm' := Lib.hid hnm
  clear hR ih hls hms hR0 hnl hnm
  cases hse : s.toList.isEmpty
  · go_enter Try.func11, Try.ntmps11
    go_wp2_with fail
    refine abs1 (G := fun wr => Code.wp _ _ _ _ wr) ?_
    intro w1 hE1 hb1 hs1
    have c0 : w1.cell? ⟨w.heap.size, 0, none⟩ = some (.string s) := cells_of hb1 0; have c1 : w1.cell? ⟨w.heap.size, 1, none⟩ = some (vl) := cells_of hb1 1; have c2 : w1.cell? ⟨w.heap.size, 2, none⟩ = some (vm) := cells_of hb1 2
    clear hb1 hs1
    refine wp_region_script [0, 2, 3, 5, 6, 7] [1, 4] (fun w' => Ext w1 w') [(.read, 0), (.read, 3), (.one, 1), (.read, 2), (.one, 4), (.read, 5), (.pure, 6), (.pure, 7)] (by kernel_rfl) (by kernel_rfl) ?_
    (apply scr_read'; (· rfl); (· rfl); (· first | exact hC | exact (Ext.refl _).drew); (· (intro w' hw'; have c0_ := hw'.keep c0; have c1_ := hw'.keep c1; have c2_ := hw'.keep c2; go_simp; try rfl)); (· (simp [go_sem]; try rfl)))
    have hC : Ext w1 w1.drew := (Ext.refl _).drew
    (apply scr_read'; (· rfl); (· rfl); (· first | exact hC | exact (Ext.refl _).drew); (· (intro w' hw'; have c0_ := hw'.keep c0; have c1_ := hw'.keep c1; have c2_ := hw'.keep c2; go_simp; try rfl)); (· (simp [go_sem]; try rfl)))
    refine scr_one rfl rfl (fun K hK => ?_)
    go_simp
    refine firstList_c (hls'.out.mv ((hE1.trans hC).mv X) (by simp [kLt])) _ ?_
    intro w2 v2 hE2 hv2
    obtain ⟨lo2, lc2, _, _, e2, -⟩ := hv2.ex
    rw [hnl'.out] at e2
    subst e2
    replace hC := hC.trans hE2
    refine hK _ _ (fun _ => hC) ?_
    clear hK hv2
    (apply scr_read'; (· rfl); (· rfl); (· first | exact hC | exact (Ext.refl _).drew); (· (intro w' hw'; have c0_ := hw'.keep c0; go_simp; try rfl)); (· (simp [go_sem]; try rfl)))
    refine scr_one rfl rfl (fun K hK => ?_)
    go_simp
    refine firstMap_c (hms'.out.mv ((hE1.trans hC).mv X) (by simp [kMt])) _ ?_
    intro w3 v3 hE3 hv3
    obtain ⟨mo3, mc3, _, _, e3, -⟩ := hv3.ex
    rw [hnm'.out] at e3
    subst e3
    replace hC := hC.trans hE3
    refine hK _ _ (fun _ => hC) ?_
    clear hK hv3
    (apply scr_read'; (· rfl); (· rfl); (· first | exact hC | exact (Ext.refl _).drew); (· (intro w' hw'; have c0_ := hw'.keep c0; go_simp; try rfl)); (· (simp [go_sem]; try rfl)))
    (apply scr_pure'; (· rfl); (· rfl); (· (intro w'; go_simp; try rfl)); (· (simp [go_sem]; try rfl)))
    (apply scr_pure'; (· rfl); (· rfl); (· (intro w'; go_simp; try rfl)); (· (simp [go_sem]; try rfl)))
    refine scr_end ?_
    simp only [Exit.then]
    replace c0 := hC.keep c0; replace c1 := hC.keep c1; replace c2 := hC.keep c2
    replace hE1 := hE1.trans hC
    clear hE2 hE3 hC
    generalize hlt0 : ls.take 1 = lt at *
    generalize hmt0 : ms.take 1 = mt at *
    obtain ⟨c, hcc⟩ : ∃ c : Int, IntKind.i64.wrap ((nl : Int) + (nm : Int)) = c := ⟨_, rfl⟩
    rw [hcc]
    have hcv : c = (nl : Int) + (nm : Int) := by rw [← hcc]; exact IntWalk.i64_in _ (by omega)
    clear hcc
    have hw : IntKind.i64.wrap (c + 1) = c + 1 := IntWalk.i64_in _ (by omega)
    have hcv' := Lib.hid hcv
    clear hcv hl1 hm1
    by_cases hp : n ≤ 0
    · have hp' : decide (n ≤ 0) = true := by simpa using hp
      go_wp2_with fail
      exact hR'.out _ _ hE1 (fun h => by cases h)
    have hp' : decide (n ≤ 0) = false := by simpa using hp
    have hp1 : 1 ≤ n := by omega
    by_cases hk : 1 < c + 1
    · have hki : decide (1 < c + 1) = true := by simpa using hk
      go_wp2_with fail
      exact hR'.out _ _ hE1 (fun h => by cases h)
    have hki : decide (1 < c + 1) = false := by simpa using hk
    have hone := Lib.hid (show oneKind s lt mt by unfold oneKind; rw [hse]; have := hcv'.out; have := hnl'.out; have := hnm'.out; simp; omega)
    go_wp2_with fail
    refine firstList_c (hls'.out.mv (hE1.mv X) (by simp [kLt])) _ ?_
    rw [hlt0]
    intro w4 v1 hE4 hv1
    replace c0 := hE4.keep c0; replace c1 := hE4.keep c1; replace c2 := hE4.keep c2
    replace hE1 := hE1.trans hE4
    obtain ⟨lo, lc, lb, loff, rfl, l1, l2, l3, l4⟩ := hv1.ex
    rw [kLt_8] at l4
    have hl3 := Lib.hid l3
    have hl4 := Lib.hid l4
    have hh := Lib.hid hlt0
    have hh2 := Lib.hid hmt0
    clear hv1 l3 l4 l1 hlt0 hmt0 hE4
    dsimp only
    go_wp2_with fail
    go_loopw [33] (fun i wr => ∃ k : Nat, k ≤ lt.length ∧ i = .int .i64 k ∧ Ext w4 wr ∧ Hid (∀ j (h : j < lt.length), j < k → BareR (BareP d) (lt[j]).elem)) (fun i _ => lt.length - (intOf i).toNat)
    case atStart => exact ⟨0, Nat.zero_le _, rfl, Ext.refl _, fun j _ hj => by omega⟩
    case round =>
      obtain ⟨k, hk, rfl, hbr, hall⟩ := hrel
      replace c0 := hbr.keep c0; replace c1 := hbr.keep c1; replace c2 := hbr.keep c2
      by_cases hlt : k < lt.length
      · obtain ⟨rfl, hbX⟩ := hl3.out (by omega)
        obtain ⟨cs', hc, hcs⟩ := hl4.out k hlt
        obtain ⟨t2, t3, t4, vk, rfl, hat, hks, o2, o3, o4⟩ := kLt_parts hcs
        have hko := hks.one
        have m0 := hbr.keep (hc 0 (by omega))
        have m1 := hbr.keep (hc 1 (by omega))
        have m2 := hbr.keep (hc 2 (by omega))
        have m3 := hbr.keep (hc 3 (by omega))
        have m4 := hbr.keep (hc 4 (by omega))
        have m5 := hbr.keep (hc 5 (by omega))
        have m6 := hbr.keep (hc 6 (by omega))
        have m7 := hbr.keep (hc 7 (by omega))
        simp only [Nat.add_zero] at m0
        have hat' := Lib.hid hat
        clear hcs hc hat hks
        go_wp2_with (refine wpL_storeRow (cells := #[.bool (lt[k]).elem.named, .string (lt[k]).elem.name, t2, t3, t4, .string (lt[k]).elem.rel, .string (lt[k]).rel, vk]) rfl 61 _ _ rfl Try.size61 rfl rfl (alloc_new _ _ rfl) rfl (by simp [o2, o3, o4, hko, str_one, bool_one]) ?_; intro w5 h5 g5; have hE5 : Ext wr w5 := ((Ext.refl wr).push _).grown g5 (fun k hk => by cases hk; exact Nat.le_refl _); have s0 : w5.cell? ⟨wr.heap.size, 0, none⟩ = some (.bool (lt[k]).elem.named) := cells_of h5 0; have s1 : w5.cell? ⟨wr.heap.size, 1, none⟩ = some (.string (lt[k]).elem.name) := cells_of h5 1; have s2 : w5.cell? ⟨wr.heap.size, 2, none⟩ = some t2 := cells_of h5 2; have s3 : w5.cell? ⟨wr.heap.size, 3, none⟩ = some t3 := cells_of h5 3; have s4 : w5.cell? ⟨wr.heap.size, 4, none⟩ = some t4 := cells_of h5 4; have s5 : w5.cell? ⟨wr.heap.size, 5, none⟩ = some (.string (lt[k]).elem.rel) := cells_of h5 5)
        refine bareRef_c hih.out (X := X) ((kA d).mv hat'.out ((hbr.trans hE5).mv X)) (by omega) (by omega) _ ?_
        intro w6 u hE6 hu
        have hu' := Lib.hid hu
        clear hu
        dsimp only
        cases u
        · go_wp2_with fail
          exact hR'.out _ _ ((hE1.trans (hbr.trans hE5)).trans hE6) (fun h => by cases h)
        · go_wp2_with fail
          go_roundw
          case rel =>
            refine ⟨k + 1, by omega, by go_num, (hbr.trans hE5).trans hE6, fun j h hj => ?_⟩
            by_cases e : j = k
            · subst e; exact hu'.out (by trivial)
            · exact hall.out j h (by omega)
          case measure => simp [intOf]; omega
      · have hLs := Lib.hid (show ∀ l ∈ lt, BareR (BareP d) l.elem from fun l hl => by
          obtain ⟨j, hj, rfl⟩ := List.getElem_of_mem hl
          exact hall.out j hj (by omega))
        have hER := hE1.trans hbr
        clear hall
        go_wp2_with fail
        refine firstMap_c (hms'.out.mv (hER.mv X) (by simp [kMt])) _ ?_
        rw [hh2.out]
        intro w3 v3 hE3 hv3
        obtain ⟨mo, mc, mb, moff, rfl, m1, m2, m3, m4⟩ := hv3.ex
        rw [kMt_8] at m4
        have hm3 := Lib.hid m3
        have hm4 := Lib.hid m4
        clear hv3 m3 m4 m1 c0 c1 c2
        have hEM := hER.trans hE3
        dsimp only
        go_wp2_with fail
        go_loopw [47] (fun i wr => ∃ k : Nat, k ≤ mt.length ∧ i = .int .i64 k ∧ Ext w wr ∧ Ext w3 wr ∧ Hid (∀ j (h : j < mt.length), j < k → BareR (BareP d) (mt[j]).elem ∧ ∀ x ∈ (mt[j]).fields, BareR (BareP d) x.type)) (fun i _ => mt.length - (intOf i).toNat)
        case atStart => exact ⟨0, Nat.zero_le _, rfl, hEM, Ext.refl _, fun j _ hj => by omega⟩
        case round =>
          obtain ⟨k2, hk2, rfl, hbm, hbm3, hall2⟩ := hrel
          by_cases hlt2 : k2 < mt.length
          · obtain ⟨rfl, hbX⟩ := hm3.out (by omega)
            obtain ⟨cs', hc, hcs⟩ := hm4.out k2 hlt2
            obtain ⟨vf, t2, t3, t4, rfl, hat, hfs, o2, o3, o4⟩ := kMt_parts hcs
            obtain ⟨fo, fc, fb, foff, rfl, f1, f2, f3, f4⟩ := hfs.ex
            rw [kFt_8] at f4
            have m0 := hbm3.keep (hc 0 (by omega))
            have m1 := hbm3.keep (hc 1 (by omega))
            have m2 := hbm3.keep (hc 2 (by omega))
            have m3 := hbm3.keep (hc 3 (by omega))
            have m4 := hbm3.keep (hc 4 (by omega))
            have m5 := hbm3.keep (hc 5 (by omega))
            have m6 := hbm3.keep (hc 6 (by omega))
            have m7 := hbm3.keep (hc 7 (by omega))
            simp only [Nat.add_zero] at m0
            have hat' := Lib.hid hat
            have hf3 := Lib.hid f3
            have hf4 := Lib.hid f4
            clear hcs hc hat hfs f3 f4 f1
            go_wp2_with (refine wpL_storeRow (cells := #[.slice fo (mt[k2]).fields.length fc, .bool (mt[k2]).elem.named, .string (mt[k2]).elem.name, t2, t3, t4, .string (mt[k2]).elem.rel, .string (mt[k2]).rel]) rfl 65 _ _ rfl Try.size65 rfl rfl (alloc_new _ _ rfl) rfl (by simp [o2, o3, o4, slice_one, str_one, bool_one]) ?_; intro w5 h5 g5; have hE5 : Ext wr w5 := ((Ext.refl wr).push _).grown g5 (fun k hk => by cases hk; exact Nat.le_refl _); have s0 : w5.cell? ⟨wr.heap.size, 0, none⟩ = some (.slice fo (mt[k2]).fields.length fc) := cells_of h5 0; have s1 : w5.cell? ⟨wr.heap.size, 1, none⟩ = some (.bool (mt[k2]).elem.named) := cells_of h5 1; have s2 : w5.cell? ⟨wr.heap.size, 2, none⟩ = some (.string (mt[k2]).elem.name) := cells_of h5 2; have s3 : w5.cell? ⟨wr.heap.size, 3, none⟩ = some t2 := cells_of h5 3; have s4 : w5.cell? ⟨wr.heap.size, 4, none⟩ = some t3 := cells_of h5 4; have s5 : w5.cell? ⟨wr.heap.size, 5, none⟩ = some t4 := cells_of h5 5; have s6 : w5.cell? ⟨wr.heap.size, 6, none⟩ = some (.string (mt[k2]).elem.rel) := cells_of h5 6)
            have hw5 := hbm.trans hE5
            refine bareRef_c hih.out (X := X) ((kA d).mv hat'.out ((hbm3.trans hE5).mv X)) (by omega) (by omega) _ ?_
            intro w6 u hE6 hu
            have hu' := Lib.hid hu
            replace s0 := hE6.keep s0
            clear s1 s2 s3 s4 s5 s6 m0 m1 m2 m3 m4 m5 m6 m7 hu
            dsimp only
            cases u
            · go_wp2_with fail
              exact hR'.out _ _ (hw5.trans hE6) (fun h => by cases h)
            · have hw6 := hw5.trans hE6
              have hw63 := (hbm3.trans hE5).trans hE6
              go_wp2_with fail
              obtain ⟨fl, hfl⟩ : ∃ q, (mt[k2]).fields = q := ⟨_, rfl⟩
              rw [hfl] at hf3 hf4 s0 f2 ⊢
              have hfl' := Lib.hid hfl
              clear hfl
              go_loopw [60] (fun i wq => ∃ q : Nat, q ≤ fl.length ∧ i = .int .i64 q ∧ Ext w wq ∧ Ext w3 wq ∧ Hid (∀ j (h : j < fl.length), j < q → BareR (BareP d) (fl[j]).type)) (fun i _ => fl.length - (intOf i).toNat)
              case atStart => exact ⟨0, Nat.zero_le _, rfl, hw6, hw63, fun j _ hj => by omega⟩
              case round =>
                obtain ⟨q, hq, rfl, hbq, hbq3, hall3⟩ := hrel
                by_cases hlt3 : q < fl.length
                · obtain ⟨rfl, hfX⟩ := hf3.out (by omega)
                  obtain ⟨cs', hc, hcs⟩ := hf4.out q hlt3
                  obtain ⟨t2, t3, t4, vd, rfl, hat, hvd, o2, o3, o4⟩ := kFt_parts hcs
                  have hvo := hvd.isSl.one
                  have m0 := hbq3.keep (hc 0 (by omega))
                  have m1 := hbq3.keep (hc 1 (by omega))
                  have m2 := hbq3.keep (hc 2 (by omega))
                  have m3 := hbq3.keep (hc 3 (by omega))
                  have m4 := hbq3.keep (hc 4 (by omega))
                  have m5 := hbq3.keep (hc 5 (by omega))
                  have m6 := hbq3.keep (hc 6 (by omega))
                  have m7 := hbq3.keep (hc 7 (by omega))
                  simp only [Nat.add_zero] at m0
                  have hat' := Lib.hid hat
                  clear hcs hc hat hvd
                  rename World => wr7
                  go_wp2_with (refine wpL_storeRow (cells := #[.string (fl[q]).name, .bool (fl[q]).type.named, .string (fl[q]).type.name, t2, t3, t4, .string (fl[q]).type.rel, vd]) rfl 67 _ _ rfl Try.size67 rfl rfl (alloc_new _ _ rfl) rfl (by simp [o2, o3, o4, hvo, str_one, bool_one]) ?_; intro w7 h7 g7; have hE7 : Ext wr7 w7 := ((Ext.refl _).push _).grown g7 (fun k hk => by cases hk; exact Nat.le_refl _); have y1 : w7.cell? ⟨wr7.heap.size, 1, none⟩ = some (.bool (fl[q]).type.named) := cells_of h7 1; have y2 : w7.cell? ⟨wr7.heap.size, 2, none⟩ = some (.string (fl[q]).type.name) := cells_of h7 2; have y3 : w7.cell? ⟨wr7.heap.size, 3, none⟩ = some t2 := cells_of h7 3; have y4 : w7.cell? ⟨wr7.heap.size, 4, none⟩ = some t3 := cells_of h7 4; have y5 : w7.cell? ⟨wr7.heap.size, 5, none⟩ = some t4 := cells_of h7 5; have y6 : w7.cell? ⟨wr7.heap.size, 6, none⟩ = some (.string (fl[q]).type.rel) := cells_of h7 6)
                  refine bareRef_c hih.out (X := X) ((kA d).mv hat'.out ((hbq3.trans hE7).mv X)) (by omega) (by omega) _ ?_
                  intro w9 u3 hE9 hu3
                  have hu3' := Lib.hid hu3
                  clear hu3
                  dsimp only
                  cases u3
                  · go_wp2_with fail
                    exact hR'.out _ _ ((hbq.trans hE7).trans hE9) (fun h => by cases h)
                  · go_wp2_with fail
                    go_roundw
                    case rel =>
                      refine ⟨q + 1, by omega, by go_num, (hbq.trans hE7).trans hE9, (hbq3.trans hE7).trans hE9, fun j h hj => ?_⟩
                      by_cases e : j = q
                      · subst e; exact hu3'.out (by trivial)
                      · exact hall3.out j h (by omega)
                    case measure => simp [intOf]; omega
                · go_wp2_with fail
                  go_roundw
                  case rel =>
                    refine ⟨k2 + 1, by omega, by go_num, hbq, hbq3, fun j h hj => ?_⟩
                    by_cases e : j = k2
                    · subst e
                      refine ⟨hu'.out (by trivial), ?_⟩
                      rw [hfl'.out]
                      intro x hx
                      obtain ⟨j2, hj2, rfl⟩ := List.getElem_of_mem hx
                      exact hall3.out j2 hj2 (by omega)
                    · exact hall2.out j h (by omega)
                  case measure => simp [intOf]; omega
          · have hMs := Lib.hid (show ∀ m ∈ mt, BareR (BareP d) m.elem ∧ ∀ x ∈ m.fields, BareR (BareP d) x.type from fun m hm => by
              obtain ⟨j, hj, rfl⟩ := List.getElem_of_mem hm
              exact hall2.out j hj (by omega))
            clear hall2
            go_wp2_with fail
            exact hR'.out _ _ hbm (fun _ => ⟨hone.out, hLs.out, hMs.out⟩)
  · go_enter Try.func11, Try.ntmps11
    go_wp2_with fail
    refine abs1 (G := fun wr => Code.wp _ _ _ _ wr) ?_
    intro w1 hE1 hb1 hs1
    have c0 : w1.cell? ⟨w.heap.size, 0, none⟩ = some (.string s) := cells_of hb1 0; have c1 : w1.cell? ⟨w.heap.size, 1, none⟩ = some (vl) := cells_of hb1 1; have c2 : w1.cell? ⟨w.heap.size, 2, none⟩ = some (vm) := cells_of hb1 2
    clear hb1 hs1
    refine wp_region_script [0, 2, 3, 5, 6, 7] [1, 4] (fun w' => Ext w1 w') [(.read, 0), (.read, 3), (.one, 1), (.read, 2), (.one, 4), (.read, 5), (.pure, 6), (.pure, 7)] (by kernel_rfl) (by kernel_rfl) ?_
    (apply scr_read'; (· rfl); (· rfl); (· first | exact hC | exact (Ext.refl _).drew); (· (intro w' hw'; have c0_ := hw'.keep c0; have c1_ := hw'.keep c1; have c2_ := hw'.keep c2; go_simp; try rfl)); (· (simp [go_sem]; try rfl)))
    have hC : Ext w1 w1.drew := (Ext.refl _).drew
    (apply scr_read'; (· rfl); (· rfl); (· first | exact hC | exact (Ext.refl _).drew); (· (intro w' hw'; have c0_ := hw'.keep c0; have c1_ := hw'.keep c1; have c2_ := hw'.keep c2; go_simp; try rfl)); (· (simp [go_sem]; try rfl)))
    refine scr_one rfl rfl (fun K hK => ?_)
    go_simp
    refine firstList_c (hls'.out.mv ((hE1.trans hC).mv X) (by simp [kLt])) _ ?_
    intro w2 v2 hE2 hv2
    obtain ⟨lo2, lc2, _, _, e2, -⟩ := hv2.ex
    rw [hnl'.out] at e2
    subst e2
    replace hC := hC.trans hE2
    refine hK _ _ (fun _ => hC) ?_
    clear hK hv2
    (apply scr_read'; (· rfl); (· rfl); (· first | exact hC | exact (Ext.refl _).drew); (· (intro w' hw'; have c0_ := hw'.keep c0; go_simp; try rfl)); (· (simp [go_sem]; try rfl)))
    refine scr_one rfl rfl (fun K hK => ?_)
    go_simp
    refine firstMap_c (hms'.out.mv ((hE1.trans hC).mv X) (by simp [kMt])) _ ?_
    intro w3 v3 hE3 hv3
    obtain ⟨mo3, mc3, _, _, e3, -⟩ := hv3.ex
    rw [hnm'.out] at e3
    subst e3
    replace hC := hC.trans hE3
    refine hK _ _ (fun _ => hC) ?_
    clear hK hv3
    (apply scr_read'; (· rfl); (· rfl); (· first | exact hC | exact (Ext.refl _).drew); (· (intro w' hw'; have c0_ := hw'.keep c0; go_simp; try rfl)); (· (simp [go_sem]; try rfl)))
    (apply scr_pure'; (· rfl); (· rfl); (· (intro w'; go_simp; try rfl)); (· (simp [go_sem]; try rfl)))
    (apply scr_pure'; (· rfl); (· rfl); (· (intro w'; go_simp; try rfl)); (· (simp [go_sem]; try rfl)))
    refine scr_end ?_
    simp only [Exit.then]
    replace c0 := hC.keep c0; replace c1 := hC.keep c1; replace c2 := hC.keep c2
    replace hE1 := hE1.trans hC
    clear hE2 hE3 hC
    generalize hlt0 : ls.take 1 = lt at *
    generalize hmt0 : ms.take 1 = mt at *
    obtain ⟨c, hcc⟩ : ∃ c : Int, IntKind.i64.wrap ((nl : Int) + (nm : Int)) = c := ⟨_, rfl⟩
    rw [hcc]
    have hcv : c = (nl : Int) + (nm : Int) := by rw [← hcc]; exact IntWalk.i64_in _ (by omega)
    clear hcc
    have hw : IntKind.i64.wrap (c + 1) = c + 1 := IntWalk.i64_in _ (by omega)
    have hcv' := Lib.hid hcv
    clear hcv hl1 hm1
    by_cases hp : n ≤ 0
    · have hp' : decide (n ≤ 0) = true := by simpa using hp
      go_wp2_with fail
      exact hR'.out _ _ hE1 (fun h => by cases h)
    have hp' : decide (n ≤ 0) = false := by simpa using hp
    have hp1 : 1 ≤ n := by omega
    by_cases hk : 1 < c
    · have hki : decide (1 < c) = true := by simpa using hk
      go_wp2_with fail
      exact hR'.out _ _ hE1 (fun h => by cases h)
    have hki : decide (1 < c) = false := by simpa using hk
    have hone := Lib.hid (show oneKind s lt mt by unfold oneKind; rw [hse]; have := hcv'.out; have := hnl'.out; have := hnm'.out; simp; omega)
    go_wp2_with fail
    refine firstList_c (hls'.out.mv (hE1.mv X) (by simp [kLt])) _ ?_
    rw [hlt0]
    intro w4 v1 hE4 hv1
    replace c0 := hE4.keep c0; replace c1 := hE4.keep c1; replace c2 := hE4.keep c2
    replace hE1 := hE1.trans hE4
    obtain ⟨lo, lc, lb, loff, rfl, l1, l2, l3, l4⟩ := hv1.ex
    rw [kLt_8] at l4
    have hl3 := Lib.hid l3
    have hl4 := Lib.hid l4
    have hh := Lib.hid hlt0
    have hh2 := Lib.hid hmt0
    clear hv1 l3 l4 l1 hlt0 hmt0 hE4
    dsimp only
    go_wp2_with fail
    go_loopw [33] (fun i wr => ∃ k : Nat, k ≤ lt.length ∧ i = .int .i64 k ∧ Ext w4 wr ∧ Hid (∀ j (h : j < lt.length), j < k → BareR (BareP d) (lt[j]).elem)) (fun i _ => lt.length - (intOf i).toNat)
    case atStart => exact ⟨0, Nat.zero_le _, rfl, Ext.refl _, fun j _ hj => by omega⟩
    case round =>
      obtain ⟨k, hk, rfl, hbr, hall⟩ := hrel
      replace c0 := hbr.keep c0; replace c1 := hbr.keep c1; replace c2 := hbr.keep c2
      by_cases hlt : k < lt.length
      · obtain ⟨rfl, hbX⟩ := hl3.out (by omega)
        obtain ⟨cs', hc, hcs⟩ := hl4.out k hlt
        obtain ⟨t2, t3, t4, vk, rfl, hat, hks, o2, o3, o4⟩ := kLt_parts hcs
        have hko := hks.one
        have m0 := hbr.keep (hc 0 (by omega))
        have m1 := hbr.keep (hc 1 (by omega))
        have m2 := hbr.keep (hc 2 (by omega))
        have m3 := hbr.keep (hc 3 (by omega))
        have m4 := hbr.keep (hc 4 (by omega))
        have m5 := hbr.keep (hc 5 (by omega))
        have m6 := hbr.keep (hc 6 (by omega))
        have m7 := hbr.keep (hc 7 (by omega))
        simp only [Nat.add_zero] at m0
        have hat' := Lib.hid hat
        clear hcs hc hat hks
        go_wp2_with (refine wpL_storeRow (cells := #[.bool (lt[k]).elem.named, .string (lt[k]).elem.name, t2, t3, t4, .string (lt[k]).elem.rel, .string (lt[k]).rel, vk]) rfl 61 _ _ rfl Try.size61 rfl rfl (alloc_new _ _ rfl) rfl (by simp [o2, o3, o4, hko, str_one, bool_one]) ?_; intro w5 h5 g5; have hE5 : Ext wr w5 := ((Ext.refl wr).push _).grown g5 (fun k hk => by cases hk; exact Nat.le_refl _); have s0 : w5.cell? ⟨wr.heap.size, 0, none⟩ = some (.bool (lt[k]).elem.named) := cells_of h5 0; have s1 : w5.cell? ⟨wr.heap.size, 1, none⟩ = some (.string (lt[k]).elem.name) := cells_of h5 1; have s2 : w5.cell? ⟨wr.heap.size, 2, none⟩ = some t2 := cells_of h5 2; have s3 : w5.cell? ⟨wr.heap.size, 3, none⟩ = some t3 := cells_of h5 3; have s4 : w5.cell? ⟨wr.heap.size, 4, none⟩ = some t4 := cells_of h5 4; have s5 : w5.cell? ⟨wr.heap.size, 5, none⟩ = some (.string (lt[k]).elem.rel) := cells_of h5 5)
        refine bareRef_c hih.out (X := X) ((kA d).mv hat'.out ((hbr.trans hE5).mv X)) (by omega) (by omega) _ ?_
        intro w6 u hE6 hu
        have hu' := Lib.hid hu
        clear hu
        dsimp only
        cases u
        · go_wp2_with fail
          exact hR'.out _ _ ((hE1.trans (hbr.trans hE5)).trans hE6) (fun h => by cases h)
        · go_wp2_with fail
          go_roundw
          case rel =>
            refine ⟨k + 1, by omega, by go_num, (hbr.trans hE5).trans hE6, fun j h hj => ?_⟩
            by_cases e : j = k
            · subst e; exact hu'.out (by trivial)
            · exact hall.out j h (by omega)
          case measure => simp [intOf]; omega
      · have hLs := Lib.hid (show ∀ l ∈ lt, BareR (BareP d) l.elem from fun l hl => by
          obtain ⟨j, hj, rfl⟩ := List.getElem_of_mem hl
          exact hall.out j hj (by omega))
        have hER := hE1.trans hbr
        clear hall
        go_wp2_with fail
        refine firstMap_c (hms'.out.mv (hER.mv X) (by simp [kMt])) _ ?_
        rw [hh2.out]
        intro w3 v3 hE3 hv3
        obtain ⟨mo, mc, mb, moff, rfl, m1, m2, m3, m4⟩ := hv3.ex
        rw [kMt_8] at m4
        have hm3 := Lib.hid m3
        have hm4 := Lib.hid m4
        clear hv3 m3 m4 m1 c0 c1 c2
        have hEM := hER.trans hE3
        dsimp only
        go_wp2_with fail
        go_loopw [47] (fun i wr => ∃ k : Nat, k ≤ mt.length ∧ i = .int .i64 k ∧ Ext w wr ∧ Ext w3 wr ∧ Hid (∀ j (h : j < mt.length), j < k → BareR (BareP d) (mt[j]).elem ∧ ∀ x ∈ (mt[j]).fields, BareR (BareP d) x.type)) (fun i _ => mt.length - (intOf i).toNat)
        case atStart => exact ⟨0, Nat.zero_le _, rfl, hEM, Ext.refl _, fun j _ hj => by omega⟩
        case round =>
          obtain ⟨k2, hk2, rfl, hbm, hbm3, hall2⟩ := hrel
          by_cases hlt2 : k2 < mt.length
          · obtain ⟨rfl, hbX⟩ := hm3.out (by omega)
            obtain ⟨cs', hc, hcs⟩ := hm4.out k2 hlt2
            obtain ⟨vf, t2, t3, t4, rfl, hat, hfs, o2, o3, o4⟩ := kMt_parts hcs
            obtain ⟨fo, fc, fb, foff, rfl, f1, f2, f3, f4⟩ := hfs.ex
            rw [kFt_8] at f4
            have m0 := hbm3.keep (hc 0 (by omega))
            have m1 := hbm3.keep (hc 1 (by omega))
            have m2 := hbm3.keep (hc 2 (by omega))
            have m3 := hbm3.keep (hc 3 (by omega))
            have m4 := hbm3.keep (hc 4 (by omega))
            have m5 := hbm3.keep (hc 5 (by omega))
            have m6 := hbm3.keep (hc 6 (by omega))
            have m7 := hbm3.keep (hc 7 (by omega))
            simp only [Nat.add_zero] at m0
            have hat' := Lib.hid hat
            have hf3 := Lib.hid f3
            have hf4 := Lib.hid f4
            clear hcs hc hat hfs f3 f4 f1
            go_wp2_with (refine wpL_storeRow (cells := #[.slice fo (mt[k2]).fields.length fc, .bool (mt[k2]).elem.named, .string (mt[k2]).elem.name, t2, t3, t4, .string (mt[k2]).elem.rel, .string (mt[k2]).rel]) rfl 65 _ _ rfl Try.size65 rfl rfl (alloc_new _ _ rfl) rfl (by simp [o2, o3, o4, slice_one, str_one, bool_one]) ?_; intro w5 h5 g5; have hE5 : Ext wr w5 := ((Ext.refl wr).push _).grown g5 (fun k hk => by cases hk; exact Nat.le_refl _); have s0 : w5.cell? ⟨wr.heap.size, 0, none⟩ = some (.slice fo (mt[k2]).fields.length fc) := cells_of h5 0; have s1 : w5.cell? ⟨wr.heap.size, 1, none⟩ = some (.bool (mt[k2]).elem.named) := cells_of h5 1; have s2 : w5.cell? ⟨wr.heap.size, 2, none⟩ = some (.string (mt[k2]).elem.name) := cells_of h5 2; have s3 : w5.cell? ⟨wr.heap.size, 3, none⟩ = some t2 := cells_of h5 3; have s4 : w5.cell? ⟨wr.heap.size, 4, none⟩ = some t3 := cells_of h5 4; have s5 : w5.cell? ⟨wr.heap.size, 5, none⟩ = some t4 := cells_of h5 5; have s6 : w5.cell? ⟨wr.heap.size, 6, none⟩ = some (.string (mt[k2]).elem.rel) := cells_of h5 6)
            have hw5 := hbm.trans hE5
            refine bareRef_c hih.out (X := X) ((kA d).mv hat'.out ((hbm3.trans hE5).mv X)) (by omega) (by omega) _ ?_
            intro w6 u hE6 hu
            have hu' := Lib.hid hu
            replace s0 := hE6.keep s0
            clear s1 s2 s3 s4 s5 s6 m0 m1 m2 m3 m4 m5 m6 m7 hu
            dsimp only
            cases u
            · go_wp2_with fail
              exact hR'.out _ _ (hw5.trans hE6) (fun h => by cases h)
            · have hw6 := hw5.trans hE6
              have hw63 := (hbm3.trans hE5).trans hE6
              go_wp2_with fail
              obtain ⟨fl, hfl⟩ : ∃ q, (mt[k2]).fields = q := ⟨_, rfl⟩
              rw [hfl] at hf3 hf4 s0 f2 ⊢
              have hfl' := Lib.hid hfl
              clear hfl
              go_loopw [60] (fun i wq => ∃ q : Nat, q ≤ fl.length ∧ i = .int .i64 q ∧ Ext w wq ∧ Ext w3 wq ∧ Hid (∀ j (h : j < fl.length), j < q → BareR (BareP d) (fl[j]).type)) (fun i _ => fl.length - (intOf i).toNat)
              case atStart => exact ⟨0, Nat.zero_le _, rfl, hw6, hw63, fun j _ hj => by omega⟩
              case round =>
                obtain ⟨q, hq, rfl, hbq, hbq3, hall3⟩ := hrel
                by_cases hlt3 : q < fl.length
                · obtain ⟨rfl, hfX⟩ := hf3.out (by omega)
                  obtain ⟨cs', hc, hcs⟩ := hf4.out q hlt3
                  obtain ⟨t2, t3, t4, vd, rfl, hat, hvd, o2, o3, o4⟩ := kFt_parts hcs
                  have hvo := hvd.isSl.one
                  have m0 := hbq3.keep (hc 0 (by omega))
                  have m1 := hbq3.keep (hc 1 (by omega))
                  have m2 := hbq3.keep (hc 2 (by omega))
                  have m3 := hbq3.keep (hc 3 (by omega))
                  have m4 := hbq3.keep (hc 4 (by omega))
                  have m5 := hbq3.keep (hc 5 (by omega))
                  have m6 := hbq3.keep (hc 6 (by omega))
                  have m7 := hbq3.keep (hc 7 (by omega))
                  simp only [Nat.add_zero] at m0
                  have hat' := Lib.hid hat
                  clear hcs hc hat hvd
                  rename World => wr7
                  go_wp2_with (refine wpL_storeRow (cells := #[.string (fl[q]).name, .bool (fl[q]).type.named, .string (fl[q]).type.name, t2, t3, t4, .string (fl[q]).type.rel, vd]) rfl 67 _ _ rfl Try.size67 rfl rfl (alloc_new _ _ rfl) rfl (by simp [o2, o3, o4, hvo, str_one, bool_one]) ?_; intro w7 h7 g7; have hE7 : Ext wr7 w7 := ((Ext.refl _).push _).grown g7 (fun k hk => by cases hk; exact Nat.le_refl _); have y1 : w7.cell? ⟨wr7.heap.size, 1, none⟩ = some (.bool (fl[q]).type.named) := cells_of h7 1; have y2 : w7.cell? ⟨wr7.heap.size, 2, none⟩ = some (.string (fl[q]).type.name) := cells_of h7 2; have y3 : w7.cell? ⟨wr7.heap.size, 3, none⟩ = some t2 := cells_of h7 3; have y4 : w7.cell? ⟨wr7.heap.size, 4, none⟩ = some t3 := cells_of h7 4; have y5 : w7.cell? ⟨wr7.heap.size, 5, none⟩ = some t4 := cells_of h7 5; have y6 : w7.cell? ⟨wr7.heap.size, 6, none⟩ = some (.string (fl[q]).type.rel) := cells_of h7 6)
                  refine bareRef_c hih.out (X := X) ((kA d).mv hat'.out ((hbq3.trans hE7).mv X)) (by omega) (by omega) _ ?_
                  intro w9 u3 hE9 hu3
                  have hu3' := Lib.hid hu3
                  clear hu3
                  dsimp only
                  cases u3
                  · go_wp2_with fail
                    exact hR'.out _ _ ((hbq.trans hE7).trans hE9) (fun h => by cases h)
                  · go_wp2_with fail
                    go_roundw
                    case rel =>
                      refine ⟨q + 1, by omega, by go_num, (hbq.trans hE7).trans hE9, (hbq3.trans hE7).trans hE9, fun j h hj => ?_⟩
                      by_cases e : j = q
                      · subst e; exact hu3'.out (by trivial)
                      · exact hall3.out j h (by omega)
                    case measure => simp [intOf]; omega
                · go_wp2_with fail
                  go_roundw
                  case rel =>
                    refine ⟨k2 + 1, by omega, by go_num, hbq, hbq3, fun j h hj => ?_⟩
                    by_cases e : j = k2
                    · subst e
                      refine ⟨hu'.out (by trivial), ?_⟩
                      rw [hfl'.out]
                      intro x hx
                      obtain ⟨j2, hj2, rfl⟩ := List.getElem_of_mem hx
                      exact hall3.out j2 hj2 (by omega)
                    · exact hall2.out j h (by omega)
                  case measure => simp [intOf]; omega
          · have hMs := Lib.hid (show ∀ m ∈ mt, BareR (BareP d) m.elem ∧ ∀ x ∈ m.fields, BareR (BareP d) x.type from fun m hm => by
              obtain ⟨j, hj, rfl⟩ := List.getElem_of_mem hm
              exact hall2.out j hj (by omega))
            clear hall2
            go_wp2_with fail
            exact hR'.out _ _ hbm (fun _ => ⟨hone.out, hLs.out, hMs.out⟩)

theorem bare_c (d : Nat) : BarC d := by
  induction d with
  | zero => intro w X cs a n ha; exact ha.elim
  | succ d ih => exact bare_step ih
end Go.Proofs.Ytnndacgokehkpaa
