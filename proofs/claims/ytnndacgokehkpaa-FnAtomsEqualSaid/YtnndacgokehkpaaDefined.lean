/- laws.definedAtom answers, whatever it says. -/
import Derived.Test.YtnndacgokehkpaaAlike
namespace Go.Proofs.Ytnndacgokehkpaa
open Go.RowKit

theorem Try.size61 : (Try.prog.info? 61).map (·.size) = some 8 := by kernel_rfl

theorem kLt_parts {d : Nat} {w : World} {X : List Nat} {cs : List Value} {l : LtOf A} (h : (kLt (kA d)).is w X cs l) : ∃ t2 t3 t4 vk, cs = [.bool l.elem.named, .string l.elem.name, t2, t3, t4, .string l.elem.rel, .string l.rel, vk] ∧ (kA d).is w X [t2, t3, t4] l.elem.atom ∧ IsStrs w X vk l.keys ∧
    t2.oneCell' = true ∧ t3.oneCell' = true ∧ t4.oneCell' = true := by
  obtain ⟨rs, vk, rfl, ⟨ac, rfl, ha, _⟩, hk, _⟩ := h
  obtain ⟨a0, a1, a2, rfl, o0, o1, o2⟩ := kA_three ha
  exact ⟨a0, a1, a2, vk, rfl, ha, hk, o0, o1, o2⟩
theorem kMt_parts {d : Nat} {w : World} {X : List Nat} {cs : List Value} {l : MtOf A} (h : (kMt (kA d)).is w X cs l) : ∃ vf t2 t3 t4, cs = [vf, .bool l.elem.named, .string l.elem.name, t2, t3, t4, .string l.elem.rel, .string l.rel] ∧ (kA d).is w X [t2, t3, t4] l.elem.atom ∧ IsSl (kFt (kA d)) 144 w X vf l.fields ∧
    t2.oneCell' = true ∧ t3.oneCell' = true ∧ t4.oneCell' = true := by
  obtain ⟨vf, rs, rfl, hf, ⟨ac, rfl, ha, _⟩, _⟩ := h
  obtain ⟨a0, a1, a2, rfl, o0, o1, o2⟩ := kA_three ha
  exact ⟨vf, a0, a1, a2, rfl, ha, hf, o0, o1, o2⟩
theorem kFt_parts {d : Nat} {w : World} {X : List Nat} {cs : List Value} {l : FtOf A} (h : (kFt (kA d)).is w X cs l) : ∃ t2 t3 t4 vd, cs = [.string l.name, .bool l.type.named, .string l.type.name, t2, t3, t4, .string l.type.rel, vd] ∧ (kA d).is w X [t2, t3, t4] l.type.atom ∧ IsVs w X vd l.dflt ∧
    t2.oneCell' = true ∧ t3.oneCell' = true ∧ t4.oneCell' = true := by
  obtain ⟨rs, vk, rfl, ⟨ac, rfl, ha, _⟩, hk, _⟩ := h
  obtain ⟨a0, a1, a2, rfl, o0, o1, o2⟩ := kA_three ha
  exact ⟨a0, a1, a2, vk, rfl, ha, hk, o0, o1, o2⟩
theorem kLt_8 (d : Nat) : (kLt (kA d)).size = 8 := by simp [kLt, kA_size]
theorem kMt_8 (d : Nat) : (kMt (kA d)).size = 8 := by simp [kMt, kA_size]
theorem kFt_8 (d : Nat) : (kFt (kA d)).size = 8 := by simp [kFt, kA_size]

def DefC (d : Nat) : Prop := ∀ (w : World) (X : List Nat) (cs : List Value) (a : A) (n : Int), (kA d).is w X cs a → -9223372036854775808 ≤ n → n ≤ 9223372036854775807 → ∀ R : Ending → World → Prop, (∀ w' u, Ext w w' → R (.returned (.bool u)) w') →
    Calls Try.prog 10 #[.agg cs.toArray, .int .i64 n] w R

set_option maxRecDepth 100000 in
set_option maxHeartbeats 16000000 in
set_option pp.maxSteps 1000000 in
set_option pp.deepTerms true in
theorem defined_step {d : Nat} (ih : DefC d) : DefC (d + 1) := by
  intro w X cs a n ha hn1 hn2 R hR
  obtain ⟨s, ls, ms⟩ := a
  obtain ⟨vl, vm, rfl, hs, hls, hms⟩ := ha
  have hlo := hls.one
  have hmo := hms.one
  have hls' := Lib.hid hls
  have hms' := Lib.hid hms
  have hR' := Lib.hid hR
  have hih := Lib.hid ih
  clear hR ih hls hms
  by_cases hp : n ≤ 0
  · have hp' : decide (n ≤ 0) = true := by simpa using hp
    go_enter Try.func10, Try.ntmps10
    go_wp2_with fail
    exact hR'.out _ _ (.alloc _ _)
  · have hp' : decide (n ≤ 0) = false := by simpa using hp
    have hp1 : 1 ≤ n := by omega
    go_enter Try.func10, Try.ntmps10
    go_wp2_with fail
    refine firstList_c (hls'.out.mv ((Ext.alloc _ _).mv X) (by simp [kLt])) _ ?_
    intro w1 v1 hE1 hv1
    obtain ⟨hE, hb, hsz⟩ := ext_new hE1
    clear hE1
    obtain ⟨lo, lc, lb, loff, rfl, l1, l2, l3, l4⟩ := hv1.ex
    rw [kLt_8] at l4
    have hl3 := Lib.hid l3
    have hl4 := Lib.hid l4
    have hb' := Lib.hid hb
    clear hv1 l3 l4 hb l1
    generalize ls.take 1 = lt at *
    dsimp only
    go_wp2_with fail
    go_loopw [16] (fun i wr => ∃ k : Nat, k ≤ lt.length ∧ i = .int .i64 k ∧ Ext w1 wr) (fun i _ => lt.length - (intOf i).toNat)
    case atStart => exact ⟨0, Nat.zero_le _, rfl, Ext.refl _⟩
    case round =>
      obtain ⟨k, hk, rfl, hbr⟩ := hrel
      by_cases hlt : k < lt.length
      · obtain ⟨rfl, hbX⟩ := hl3.out (by omega)
        obtain ⟨cs', hc, hcs⟩ := hl4.out k hlt
        obtain ⟨t2, t3, t4, vk, rfl, hat, hks, o2, o3, o4⟩ := kLt_parts hcs
        have hko := hks.one
        have m0 := hbr.keep (hc 0 (by omega))
        have m1 := hbr.keep (hc 1 (by omega))
        have m2 := hbr.keep (hc 2 (by omega))
        have m3 := hbr.keep (hc 3 (by omega))
        have m4 := hbr.keep (hc 4 (by omega))
        have m5 := hbr.keep (hc 5 (by omega))
        have m6 := hbr.keep (hc 6 (by omega))
        have m7 := hbr.keep (hc 7 (by omega))
        simp only [Nat.add_zero] at m0
        have hat' := Lib.hid hat
        clear hcs hc hat hks
        go_wp2_with (refine wpL_storeRow (cells := #[.bool (lt[k]).elem.named, .string (lt[k]).elem.name, t2, t3, t4, .string (lt[k]).elem.rel, .string (lt[k]).rel, vk]) rfl 61 _ _ rfl Try.size61 rfl rfl (alloc_new _ _ rfl) rfl (by simp [o2, o3, o4, hko, str_one, bool_one]) ?_; intro w5 h5 g5; have hE5 : Ext wr w5 := ((Ext.refl wr).push _).grown g5 (fun k hk => by cases hk; exact Nat.le_refl _); have s2 : w5.cell? ⟨wr.heap.size, 2, none⟩ = some t2 := cells_of h5 2; have s3 : w5.cell? ⟨wr.heap.size, 3, none⟩ = some t3 := cells_of h5 3; have s4 : w5.cell? ⟨wr.heap.size, 4, none⟩ = some t4 := cells_of h5 4)
        refine hih.out w5 X [t2, t3, t4] _ (n - 1) ((kA d).mv hat'.out ((hbr.trans hE5).mv X)) (by omega) (by omega) _ ?_
        intro w6 u hE6
        dsimp only
        cases u
        · go_wp2_with fail
          exact hR'.out _ _ ((hE.trans (hbr.trans hE5)).trans hE6)
        · go_wp2_with fail
          go_roundw
          case rel => exact ⟨k + 1, by omega, by go_num, (hbr.trans hE5).trans hE6⟩
          case measure => simp [intOf]; omega
      · have c0 := hbr.keep (show w1.cell? ⟨w.heap.size, 0, none⟩ = some (.string s) from cells_of hb'.out 0)
        have c1 := hbr.keep (show w1.cell? ⟨w.heap.size, 1, none⟩ = some vl from cells_of hb'.out 1)
        have c2 := hbr.keep (show w1.cell? ⟨w.heap.size, 2, none⟩ = some vm from cells_of hb'.out 2)
        have hER := hE.trans hbr
        go_wp2_with fail
        refine firstMap_c (hms'.out.mv (hER.mv X) (by simp [kMt])) _ ?_
        intro w3 v3 hE3 hv3
        obtain ⟨mo, mc, mb, moff, rfl, m1, m2, m3, m4⟩ := hv3.ex
        rw [kMt_8] at m4
        have hm3 := Lib.hid m3
        have hm4 := Lib.hid m4
        clear hv3 m3 m4 m1 c0 c1 c2
        generalize ms.take 1 = mt at *
        have hEM := hER.trans hE3
        dsimp only
        go_wp2_with fail
        go_loopw [31] (fun i wr => ∃ k : Nat, k ≤ mt.length ∧ i = .int .i64 k ∧ Ext w wr ∧ Ext w3 wr) (fun i _ => mt.length - (intOf i).toNat)
        case atStart => exact ⟨0, Nat.zero_le _, rfl, hEM, Ext.refl _⟩
        case round =>
          obtain ⟨k2, hk2, rfl, hbm, hbm3⟩ := hrel
          by_cases hlt2 : k2 < mt.length
          · obtain ⟨rfl, hbX⟩ := hm3.out (by omega)
            obtain ⟨cs', hc, hcs⟩ := hm4.out k2 hlt2
            obtain ⟨vf, t2, t3, t4, rfl, hat, hfs, o2, o3, o4⟩ := kMt_parts hcs
            obtain ⟨fo, fc, fb, foff, rfl, f1, f2, f3, f4⟩ := hfs.ex
            rw [kFt_8] at f4
            have m0 := hbm3.keep (hc 0 (by omega))
            have m1 := hbm3.keep (hc 1 (by omega))
            have m2 := hbm3.keep (hc 2 (by omega))
            have m3 := hbm3.keep (hc 3 (by omega))
            have m4 := hbm3.keep (hc 4 (by omega))
            have m5 := hbm3.keep (hc 5 (by omega))
            have m6 := hbm3.keep (hc 6 (by omega))
            have m7 := hbm3.keep (hc 7 (by omega))
            simp only [Nat.add_zero] at m0
            have hat' := Lib.hid hat
            have hf3 := Lib.hid f3
            have hf4 := Lib.hid f4
            clear hcs hc hat hfs f3 f4 f1
            go_wp2_with (refine wpL_storeRow (cells := #[.slice fo (mt[k2]).fields.length fc, .bool (mt[k2]).elem.named, .string (mt[k2]).elem.name, t2, t3, t4, .string (mt[k2]).elem.rel, .string (mt[k2]).rel]) rfl 65 _ _ rfl Try.size65 rfl rfl (alloc_new _ _ rfl) rfl (by simp [o2, o3, o4, slice_one, str_one, bool_one]) ?_; intro w5 h5 g5; have hE5 : Ext wr w5 := ((Ext.refl wr).push _).grown g5 (fun k hk => by cases hk; exact Nat.le_refl _); have s0 : w5.cell? ⟨wr.heap.size, 0, none⟩ = some (.slice fo (mt[k2]).fields.length fc) := cells_of h5 0; have s3 : w5.cell? ⟨wr.heap.size, 3, none⟩ = some t2 := cells_of h5 3; have s4 : w5.cell? ⟨wr.heap.size, 4, none⟩ = some t3 := cells_of h5 4; have s5 : w5.cell? ⟨wr.heap.size, 5, none⟩ = some t4 := cells_of h5 5)
            have hw5 := hbm.trans hE5
            refine hih.out w5 X [t2, t3, t4] _ (n - 1) ((kA d).mv hat'.out ((hbm3.trans hE5).mv X)) (by omega) (by omega) _ ?_
            intro w6 u hE6
            replace s0 := hE6.keep s0
            clear s3 s4 s5 m0 m1 m2 m3 m4 m5 m6 m7
            dsimp only
            cases u
            · go_wp2_with fail
              exact hR'.out _ _ (hw5.trans hE6)
            · have hw6 := hw5.trans hE6
              have hw63 := (hbm3.trans hE5).trans hE6
              go_wp2_with fail
              generalize (mt[k2]).fields = fl at *
              go_loopw [45] (fun i wq => ∃ q : Nat, q ≤ fl.length ∧ i = .int .i64 q ∧ Ext w wq ∧ Ext w3 wq) (fun i _ => fl.length - (intOf i).toNat)
              case atStart => exact ⟨0, Nat.zero_le _, rfl, hw6, hw63⟩
              case round =>
                obtain ⟨q, hq, rfl, hbq, hbq3⟩ := hrel
                by_cases hlt3 : q < fl.length
                · obtain ⟨rfl, hfX⟩ := hf3.out (by omega)
                  obtain ⟨cs', hc, hcs⟩ := hf4.out q hlt3
                  obtain ⟨t2, t3, t4, vd, rfl, hat, hvd, o2, o3, o4⟩ := kFt_parts hcs
                  obtain ⟨dvo, dvc, _, _, rfl, dle, -⟩ := id hvd.ex
                  have m0 := hbq3.keep (hc 0 (by omega))
                  have m1 := hbq3.keep (hc 1 (by omega))
                  have m2 := hbq3.keep (hc 2 (by omega))
                  have m3 := hbq3.keep (hc 3 (by omega))
                  have m4 := hbq3.keep (hc 4 (by omega))
                  have m5 := hbq3.keep (hc 5 (by omega))
                  have m6 := hbq3.keep (hc 6 (by omega))
                  have m7 := hbq3.keep (hc 7 (by omega))
                  simp only [Nat.add_zero] at m0
                  have hat' := Lib.hid hat
                  have hvd' := Lib.hid hvd
                  have hdle := Lib.hid dle
                  clear hcs hc hat hvd dle
                  rename World => wr7
                  generalize (fl[q]).dflt = df at *
                  cases df with
                  | nil =>
                    go_wp2_with (refine wpL_storeRow (cells := #[.string (fl[q]).name, .bool (fl[q]).type.named, .string (fl[q]).type.name, t2, t3, t4, .string (fl[q]).type.rel, .slice dvo 0 dvc]) rfl 67 _ _ rfl Try.size67 rfl rfl (alloc_new _ _ rfl) rfl (by simp [o2, o3, o4, slice_one, str_one, bool_one]) ?_; intro w7 h7 g7; have hE7 : Ext wr7 w7 := ((Ext.refl _).push _).grown g7 (fun k hk => by cases hk; exact Nat.le_refl _); have y3 : w7.cell? ⟨wr7.heap.size, 3, none⟩ = some t2 := cells_of h7 3; have y4 : w7.cell? ⟨wr7.heap.size, 4, none⟩ = some t3 := cells_of h7 4; have y5 : w7.cell? ⟨wr7.heap.size, 5, none⟩ = some t4 := cells_of h7 5; have y7 : w7.cell? ⟨wr7.heap.size, 7, none⟩ = some (.slice dvo 0 dvc) := cells_of h7 7)
                    refine orderlyValues_any (X := X) (hvd'.out.mv ((hbq3.trans hE7).mv X)) _ ?_
                    intro w8 u2 hE8
                    have z3 := hE8.keep y3
                    have z4 := hE8.keep y4
                    have z5 := hE8.keep y5
                    dsimp only
                    cases u2
                    · go_wp2_with fail
                      exact hR'.out _ _ ((hbq.trans hE7).trans hE8)
                    · go_wp2_with fail
                      refine hih.out w8 X [t2, t3, t4] _ (n - 1) ((kA d).mv hat'.out (((hbq3.trans hE7).trans hE8).mv X)) (by omega) (by omega) _ ?_
                      intro w9 u3 hE9
                      dsimp only
                      cases u3
                      · go_wp2_with fail
                        exact hR'.out _ _ (((hbq.trans hE7).trans hE8).trans hE9)
                      · go_wp2_with fail
                        go_roundw
                        case rel => exact ⟨q + 1, by omega, by go_num, ((hbq.trans hE7).trans hE8).trans hE9, ((hbq3.trans hE7).trans hE8).trans hE9⟩
                        case measure => simp [intOf]; omega
                  | cons v vs =>
                    have hc1 : 1 ≤ dvc := by have := hdle.out; simp at this; omega
                    have hc2 : (1 : Int) ≤ (dvc : Int) := by omega
                    go_wp2_with (refine wpL_storeRow (cells := #[.string (fl[q]).name, .bool (fl[q]).type.named, .string (fl[q]).type.name, t2, t3, t4, .string (fl[q]).type.rel, .slice dvo (vs.length + 1) dvc]) rfl 67 _ _ rfl Try.size67 rfl rfl (alloc_new _ _ rfl) rfl (by simp [o2, o3, o4, slice_one, str_one, bool_one]) ?_; intro w7 h7 g7; have hE7 : Ext wr7 w7 := ((Ext.refl _).push _).grown g7 (fun k hk => by cases hk; exact Nat.le_refl _); have y3 : w7.cell? ⟨wr7.heap.size, 3, none⟩ = some t2 := cells_of h7 3; have y4 : w7.cell? ⟨wr7.heap.size, 4, none⟩ = some t3 := cells_of h7 4; have y5 : w7.cell? ⟨wr7.heap.size, 5, none⟩ = some t4 := cells_of h7 5; have y7 : w7.cell? ⟨wr7.heap.size, 7, none⟩ = some (.slice dvo (vs.length + 1) dvc) := cells_of h7 7)
                    refine orderlyValues_any (X := X) (((hvd'.out.mv ((hbq3.trans hE7).mv X)).isSl.take1).isVs) _ ?_
                    intro w8 u2 hE8
                    have z3 := hE8.keep y3
                    have z4 := hE8.keep y4
                    have z5 := hE8.keep y5
                    dsimp only
                    cases u2
                    · go_wp2_with fail
                      exact hR'.out _ _ ((hbq.trans hE7).trans hE8)
                    · go_wp2_with fail
                      refine hih.out w8 X [t2, t3, t4] _ (n - 1) ((kA d).mv hat'.out (((hbq3.trans hE7).trans hE8).mv X)) (by omega) (by omega) _ ?_
                      intro w9 u3 hE9
                      dsimp only
                      cases u3
                      · go_wp2_with fail
                        exact hR'.out _ _ (((hbq.trans hE7).trans hE8).trans hE9)
                      · go_wp2_with fail
                        go_roundw
                        case rel => exact ⟨q + 1, by omega, by go_num, ((hbq.trans hE7).trans hE8).trans hE9, ((hbq3.trans hE7).trans hE8).trans hE9⟩
                        case measure => simp [intOf]; omega
                · go_wp2_with fail
                  go_roundw
                  case rel => exact ⟨k2 + 1, by omega, by go_num, hbq, hbq3⟩
                  case measure => simp [intOf]; omega
          · go_wp2_with fail
            exact hR'.out _ _ hbm

theorem defined_any (d : Nat) : DefC d := by
  induction d with
  | zero => intro w X cs a n ha; exact ha.elim
  | succ d ih => exact defined_step ih

end Go.Proofs.Ytnndacgokehkpaa
