/- FloatCompare, IntCompare, BoolCompare, strings.Compare and the reference's comparisons of numbers and of strings. -/
import Derived.Test.YtamcgcncghabhaaCmpT
import Derived.Shelf.Small.Strs
namespace Go.Proofs.Ytamcgcncghabhaa
open Go.RowKit

set_option maxRecDepth 100000 in
theorem floatCompare_c {w : World} {a b : Nat} (R : Ending → World → Prop) (hR : Ends R w (.int .i64 (cmpF a b))) : Calls Try.prog 90 #[.float .f64 a, .float .f64 b] w R := by
  have hR' := Lib.hid hR
  clear hR
  cases ho : FloatKind.f64.format.order a b with
  | none =>
    go_enter Try.func90, Try.ntmps90
    go_wp2_with fail
    exact hR'.out.int (by simp [cmpF, ho]) _ (Ext.refl _)
  | some o =>
    cases o
    all_goals
      go_enter Try.func90, Try.ntmps90
      go_wp2_with fail
      exact hR'.out.int (by simp [cmpF, ho]) _ (Ext.refl _)

set_option maxRecDepth 100000 in
theorem intCompare_c {w : World} {a b : Int} (R : Ending → World → Prop) (hR : Ends R w (.int .i64 (cmpI a b))) : Calls Try.prog 91 #[.int .i64 a, .int .i64 b] w R := by
  have hR' := Lib.hid hR
  clear hR
  go_enter Try.func91, Try.ntmps91
  go_wp2_with fail
  all_goals exact hR'.out.int (by simp only [cmpI]; (repeat' split) <;> omega) _ (Ext.refl _)

set_option maxRecDepth 100000 in
theorem boolCompare_c {w : World} {a b : Bool} (R : Ending → World → Prop) (hR : Ends R w (.int .i64 (if a = b then 0 else if a then 1 else -1))) : Calls Try.prog 92 #[.bool a, .bool b] w R := by
  have hR' := Lib.hid hR
  clear hR
  cases a <;> cases b
  all_goals
    go_enter Try.func92, Try.ntmps92
    go_wp2_with fail
    exact hR'.out.int (by simp) _ (Ext.refl _)

set_option maxRecDepth 100000 in
theorem specCompareInts_c {w : World} {a b : Int} (R : Ending → World → Prop) (hR : Ends R w (.int .i64 (cmpI a b))) : Calls Try.prog 44 #[.int .i64 a, .int .i64 b] w R := by
  have hR' := Lib.hid hR
  clear hR
  go_enter Try.func44, Try.ntmps44
  go_wp2_with fail
  all_goals exact hR'.out.int (by simp only [cmpI]; (repeat' split) <;> omega) _ (Ext.refl _)

set_option maxRecDepth 100000 in
theorem specCompareFloats_c {w : World} {a b : Nat} (R : Ending → World → Prop) (hR : Ends R w (.int .i64 (cmpF a b))) : Calls Try.prog 75 #[.float .f64 a, .float .f64 b] w R := by
  have hR' := Lib.hid hR
  clear hR
  cases ho : FloatKind.f64.format.order a b with
  | none =>
    go_enter Try.func75, Try.ntmps75
    go_wp2_with fail
    exact hR'.out.int (by simp [cmpF, ho]) _ (Ext.refl _)
  | some o =>
    cases o
    all_goals
      go_enter Try.func75, Try.ntmps75
      go_wp2_with fail
      exact hR'.out.int (by simp [cmpF, ho]) _ (Ext.refl _)

set_option maxRecDepth 100000 in
set_option maxHeartbeats 4000000 in
theorem specCompareStrings_c {w : World} {a b : ByteArray} (ha : a.size ≤ 140737488351232) (R : Ending → World → Prop) (hR : Ends R w (.int .i64 (cmpS a b))) :
    Calls Try.prog 43 #[.string a, .string b] w R := by
  have hR' := Lib.hid hR
  clear hR
  go_enter Try.func43, Try.ntmps43
  go_wp2_with fail
  go_loopw [5] (fun i wr => ∃ k : Nat, k ≤ a.size ∧ k ≤ b.size ∧ i = .int .i64 k ∧ Ext w wr ∧ Hid (cmpS a b = cmpB (a.data.toList.drop k) (b.data.toList.drop k))) (fun i _ => a.size - (intOf i).toNat)
  case atStart => exact ⟨0, Nat.zero_le _, Nat.zero_le _, rfl, Ext.refl _, Lib.hid (by simp [cmpS])⟩
  case round =>
    obtain ⟨k, hk, hkb, rfl, hE, hall⟩ := hrel
    rename World => wr
    by_cases h1 : k < a.size
    · by_cases h2 : k < b.size
      · have hat := cmpS_at hall.out h1 h2
        have hat' := Lib.hid hat
        clear hat
        have hi1 : (k : Int) < (a.size : Int) := by omega
        have hi2 : (k : Int) < (b.size : Int) := by omega
        have hkm : (k : Int) + 1 ≤ 9223372036854775807 := by omega
        go_wp2_with fail
        refine wp_region_script (List.range 7) [] (fun w' => w' = wr.drew) [(.read, 0), (.read, 1), (.read, 2), (.read, 3), (.read, 4), (.read, 5), (.read, 6)] (by kernel_rfl) (by kernel_rfl) ?_
        by_cases hne : (a[k].toNat : Int) = (b[k].toNat : Int)
        · have hneb : ((a[k].toNat : Int) != (b[k].toNat : Int)) = false := by simpa using hne
          have hnx : cmpS a b = cmpB (a.data.toList.drop (k + 1)) (b.data.toList.drop (k + 1)) := by
            rw [hat'.out, if_pos (UInt8.toNat_inj.1 (by omega))]
          have hnx' := Lib.hid hnx
          clear hnx
          iterate 7 (first | (apply scr_r; (· rfl); (· (first | rfl | (simp [Region.wanted, yielded, go_sem]; done) | (simp [Region.wanted, yielded, go_sem, *]; done))); (· (go_simp; try rfl)); (· (simp [go_sem]; try rfl))) | (apply scr_r0; (· rfl); (· (first | rfl | (simp [Region.wanted, yielded, go_sem]; done) | (simp [Region.wanted, yielded, go_sem, *]; done))); (· (simp [go_sem]; try rfl))))
          refine scr_end ?_
          simp only [Exit.then]
          go_wp2_with fail
          go_roundw
          case rel => exact ⟨k + 1, by omega, by omega, by go_num, hE.drew, hnx'.out⟩
          case measure => simp [intOf]; omega
        · have hneb : ((a[k].toNat : Int) != (b[k].toNat : Int)) = true := by rw [bne_iff_ne]; exact hne
          have hnx : cmpS a b = cmpI a[k].toNat b[k].toNat := by
            rw [hat'.out, if_neg (fun e => hne (by rw [e]))]
          have hnx' := Lib.hid hnx
          clear hnx
          iterate 7 (first | (apply scr_r; (· rfl); (· (first | rfl | (simp [Region.wanted, yielded, go_sem]; done) | (simp [Region.wanted, yielded, go_sem, *]; done))); (· (go_simp; try rfl)); (· (simp [go_sem]; try rfl))) | (apply scr_r0; (· rfl); (· (first | rfl | (simp [Region.wanted, yielded, go_sem]; done) | (simp [Region.wanted, yielded, go_sem, *]; done))); (· (simp [go_sem]; try rfl))))
          refine scr_end ?_
          simp only [Exit.then]
          go_wp2_with fail
          have hw1 : IntKind.i64.wrap (a[k].toNat : Int) = a[k].toNat := IntWalk.i64_in _ (by have := a[k].toNat_lt; omega)
          have hw2 : IntKind.i64.wrap (b[k].toNat : Int) = b[k].toNat := IntWalk.i64_in _ (by have := b[k].toNat_lt; omega)
          refine wp_region_script [0, 1, 2, 3, 4, 5, 6, 7, 9] [] (fun w' => w' = wr.drew.drew) [(.read, 0), (.read, 1), (.read, 2), (.read, 3), (.read, 4), (.read, 5), (.read, 6), (.read, 7), (.one, 8), (.pure, 9)] (by kernel_rfl) (by kernel_rfl) ?_
          iterate 8 (first | (apply scr_r; (· rfl); (· (first | rfl | (simp [Region.wanted, yielded, go_sem]; done) | (simp [Region.wanted, yielded, go_sem, *]; done))); (· (go_simp; try rfl)); (· (simp [go_sem]; try rfl))) | (apply scr_r0; (· rfl); (· (first | rfl | (simp [Region.wanted, yielded, go_sem]; done) | (simp [Region.wanted, yielded, go_sem, *]; done))); (· (simp [go_sem]; try rfl))))
          refine scr_one rfl rfl (fun K hK => ?_)
          go_simp
          refine specCompareInts_c _ ?_
          intro w3 hE3
          refine hK _ _ (fun h => by simp at h) ?_
          clear hK
          (apply scr_pure'; (· rfl); (· rfl); (· (intro w'; go_simp; try rfl)); (· (simp [go_sem]; try rfl)))
          refine scr_end ?_
          simp only [Exit.then]
          go_wp2_with fail
          exact hR'.out.int hnx'.out _ (hE.drew.drew.trans hE3)
      · have hend := Lib.hid (cmpS_end hall.out hk hkb (by omega))
        have hi1 : (k : Int) < (a.size : Int) := by omega
        have hi2 : ¬ (k : Int) < (b.size : Int) := by omega
        go_wp2_with fail
        refine specCompareInts_c _ ?_
        intro w3 hE3
        dsimp only
        go_wp2_with fail
        exact hR'.out.int hend.out _ (hE.trans hE3)
    · have hend := Lib.hid (cmpS_end hall.out hk hkb (by omega))
      have hi1 : ¬ (k : Int) < (a.size : Int) := by omega
      go_wp2_with fail
      refine specCompareInts_c _ ?_
      intro w3 hE3
      dsimp only
      go_wp2_with fail
      exact hR'.out.int hend.out _ (hE.trans hE3)
end Go.Proofs.Ytamcgcncghabhaa
