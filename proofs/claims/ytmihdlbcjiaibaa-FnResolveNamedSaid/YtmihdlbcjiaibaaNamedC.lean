/- zzFits6, definedSchema: they answer, whatever they say; written alike is reflexive. -/
import Derived.Test.YtmihdlbcjiaibaaNamedB
namespace Go.Proofs.Ytmihdlbcjiaibaa
open Go.RowKit

theorem rf_refl {d : Nat} (h : ∀ a, aAlike svSame d a a = true) (r : RfOf A) : rfAlike (aAlike svSame d) r r = true := by
  simp [rfAlike, h]
theorem lt_refl {d : Nat} (h : ∀ a, aAlike svSame d a a = true) (r : LtOf A) : ltAlike (aAlike svSame d) r r = true := by
  simp [ltAlike, rf_refl h]
theorem df_refl : ∀ l : List V, dfAlike svSame l l = true
  | [] => rfl
  | v :: _ => same_refl v.clean
theorem ft_refl {d : Nat} (h : ∀ a, aAlike svSame d a a = true) (r : FtOf A) : ftAlike svSame (aAlike svSame d) r r = true := by
  simp [ftAlike, rf_refl h, df_refl]
theorem all2b_refl {α : Type} {f : α → α → Bool} (h : ∀ a, f a a = true) : ∀ l : List α, all2b f l l = true
  | [] => rfl
  | a :: l => by simp only [all2b, h, all2b_refl h l, Bool.and_self]
theorem mt_refl {d : Nat} (h : ∀ a, aAlike svSame d a a = true) (r : MtOf A) : mtAlike svSame (aAlike svSame d) r r = true := by
  simp [mtAlike, rf_refl h, all2b_refl (ft_refl h)]
theorem alike_refl (d : Nat) (a : A) : aAlike svSame d a a = true := by
  induction d generalizing a with
  | zero => rfl
  | succ d ih =>
    obtain ⟨s, ls, ms⟩ := a
    show al5 svSame (aAlike svSame d) s s (ls.take 1) (ls.take 1) (ms.take 1) (ms.take 1) = true
    simp only [al5, all2b_refl (lt_refl ih), all2b_refl (mt_refl ih), BEq.rfl, Bool.and_self]

set_option maxRecDepth 100000 in
set_option maxHeartbeats 4000000 in
theorem zzFits6_any {α : Type} {k : Kind α} {bytes : Nat} {w : World} {X : List Nat} {vs : Value} {ts : List α} (hs : IsSl k bytes w X vs ts) (R : Ending → World → Prop) (hR : ∀ b, Ends R w (.bool b)) :
    Calls Try.prog 24 #[.agg #[vs]] w R := by
  obtain ⟨ko, kc, db, doff, rfl, -⟩ := hs.ex
  have hR' := Lib.hid hR
  clear hR hs
  go_enter Try.func24, Try.ntmps24
  go_wp2_with fail
  all_goals exact hR'.out _ _ (.alloc _ _)

set_option maxRecDepth 100000 in
set_option maxHeartbeats 8000000 in
set_option pp.maxSteps 1000000 in
set_option pp.deepTerms true in
theorem definedSchema_any {d : Nat} {w : World} {X : List Nat} {vs : Value} {ts : List (TdOf A)} (hs : IsSl (kTd (kA d)) 80 w X vs ts) (R : Ending → World → Prop) (hR : ∀ b, Ends R w (.bool b)) :
    Calls Try.prog 26 #[.agg #[vs]] w R := by
  obtain ⟨ko, kc, db, doff, rfl, k1, k2, k3, k4⟩ := id hs.ex
  rw [kTd_4] at k4
  have hk3 := Lib.hid k3
  have hk4 := Lib.hid k4
  have hR' := Lib.hid hR
  clear hR hs k1 k3 k4
  go_enter Try.func26, Try.ntmps26
  go_wp2_with fail
  refine abs1 (G := Code.wp _ _ _ _) ?_
  intro w1 hE1 hb1 hs1
  clear hb1 hs1
  go_loopw [8] (fun i wr => ∃ k : Nat, k ≤ ts.length ∧ i = .int .i64 k ∧ Ext w wr) (fun i _ => ts.length - (intOf i).toNat)
  case atStart => exact ⟨0, Nat.zero_le _, rfl, hE1⟩
  case round =>
    obtain ⟨k, hk, rfl, hEr⟩ := hrel
    by_cases hlt : k < ts.length
    · obtain ⟨cs', hc, hcs⟩ := hk4.out k hlt
      obtain ⟨rfl, hdX⟩ := hk3.out (by omega)
      obtain ⟨ac, rfl, hat, hnm⟩ := hcs
      obtain ⟨t1, t2, t3, rfl, n1, n2, n3⟩ := kA_three hat
      have m0 := hEr.keep (hc 0 (by omega))
      have m1 := hEr.keep (hc 1 (by omega))
      have m2 := hEr.keep (hc 2 (by omega))
      have m3 := hEr.keep (hc 3 (by omega))
      simp only [Nat.add_zero] at m0
      have hat' := Lib.hid hat
      have hi1 : (k : Int) < (ts.length : Int) := by omega
      have hkm : (k : Int) + 1 ≤ 9223372036854775807 := by omega
      clear hc hat hnm
      rename World => wr
      go_wp2_with (refine wpL_storeRow (cells := #[.string (ts[k]).name, t1, t2, t3]) rfl 60 _ _ rfl Try.size60 rfl rfl (alloc_new _ _ rfl) rfl (by simp [n1, n2, n3, str_one]) ?_; intro w5 h5 g5; have hE5 := (hEr.push _).grown g5 (fun k hk => by cases hk; exact hEr.size); have hEx : Ext wr w5 := ((Ext.refl wr).push _).grown g5 (fun k hk => by cases hk; exact Nat.le_refl _); have s1 : w5.cell? ⟨wr.heap.size, 1, none⟩ = some t1 := cells_of h5 1; have s2 : w5.cell? ⟨wr.heap.size, 2, none⟩ = some t2 := cells_of h5 2; have s3 : w5.cell? ⟨wr.heap.size, 3, none⟩ = some t3 := cells_of h5 3)
      refine defined_any d _ X [t1, t2, t3] (ts[k]).atom 20 ((kA d).mv hat'.out (hE5.mv _)) (by omega) (by omega) _ ?_
      intro w6 u hE6
      have hE7 := hE5.trans hE6
      dsimp only
      cases u
      · go_wp2_with fail
        exact hR'.out _ _ hE7
      · go_wp2_with fail
        go_roundw
        case rel => exact ⟨k + 1, by omega, by go_num, hE7⟩
        case measure => simp [intOf]; omega
    · go_wp2_with fail
      exact hR'.out _ _ hEr

end Go.Proofs.Ytmihdlbcjiaibaa
