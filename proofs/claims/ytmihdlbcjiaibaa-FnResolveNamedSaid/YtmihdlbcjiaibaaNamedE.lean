/- uniqueTypes: it answers, whatever it says. -/
import Derived.Test.YtmihdlbcjiaibaaNamedD
namespace Go.Proofs.Ytmihdlbcjiaibaa
open Go.RowKit

set_option maxRecDepth 100000 in
set_option maxHeartbeats 8000000 in
set_option pp.maxSteps 1000000 in
set_option pp.deepTerms true in
theorem uniqueTypes_any {d : Nat} {w : World} {X : List Nat} {vs : Value} {ts : List (TdOf A)} (hs : IsSl (kTd (kA d)) 80 w X vs ts) (R : Ending → World → Prop) (hR : ∀ b, Ends R w (.bool b)) :
    Calls Try.prog 25 #[.agg #[vs]] w R := by
  obtain ⟨ko, kc, db, doff, rfl, k1, k2, k3, k4⟩ := id hs.ex
  rw [kTd_4] at k4
  have hk3 := Lib.hid k3
  have hk4 := Lib.hid k4
  have hR' := Lib.hid hR
  clear hR hs k1 k3 k4
  go_enter Try.func25, Try.ntmps25
  go_wp2_with fail
  refine abs2 (G := Code.wp _ _ _ _) ?_
  intro w1 hE1 hb1 hb2 hs1
  have hown : Own w1 9 1 (.slice (some ⟨w.heap.size + 1, 0, none⟩) 0 0) 0 ([] : List Value) := ⟨by simp, .inr ⟨w.heap.size + 1, 0, #[], rfl, Nat.zero_le _, hb2, Nat.le_refl _, Nat.zero_le _, by simp, by simp⟩⟩
  have hown' := Lib.hid hown
  clear hb1 hs1 hb2 hown
  have hsm : ∀ i (h : i < ts.length), (ts[i]).name.size ≤ 140737488351232 := fun i h => by
    obtain ⟨cs, -, ac, -, -, hnm⟩ := hk4.out i h
    exact hnm
  have hsm' := Lib.hid hsm
  clear hsm
  go_loopw [3, 10] (fun v i wr => ∃ (k g cap : Nat), k ≤ ts.length ∧ i = .int .i64 k ∧ v = .slice (some ⟨g, 0, none⟩) k cap ∧ Ext w wr ∧ w.heap.size ≤ g ∧ k ≤ cap ∧ Own wr 9 1 (.slice (some ⟨g, 0, none⟩) k cap) k (((ts.take k).map TdOf.name).map Value.string))
    (fun _ i _ => ts.length - (intOf i).toNat)
  case atStart => exact ⟨0, w.heap.size + 1, 0, Nat.zero_le _, rfl, rfl, hE1, by omega, Nat.le_refl _, hown'.out⟩
  case round =>
    obtain ⟨k, g, cap, hk, rfl, rfl, hEr, hgw, hkc, ho⟩ := hrel
    by_cases hlt : k < ts.length
    · obtain ⟨cs', hc, hcs⟩ := hk4.out k hlt
      obtain ⟨rfl, hdX⟩ := hk3.out (by omega)
      obtain ⟨ac, rfl, hat, hnm⟩ := hcs
      obtain ⟨t1, t2, t3, rfl, n1, n2, n3⟩ := kA_three hat
      have m0 := hEr.keep (hc 0 (by omega))
      have m1 := hEr.keep (hc 1 (by omega))
      have m2 := hEr.keep (hc 2 (by omega))
      have m3 := hEr.keep (hc 3 (by omega))
      simp only [Nat.add_zero] at m0
      have hi1 : (k : Int) < (ts.length : Int) := by omega
      have hkm : (k : Int) + 1 ≤ 9223372036854775807 := by omega
      have hone1 : ∀ u ∈ (#[Value.string (ts[k]).name] : Array Value).toList, u.oneCell' = true := by simp [Value.oneCell']
      have hb3 : (k + 1) * 16 ≤ 140737488355328 := Nat.le_trans (Nat.mul_le_mul_right 16 (by omega : k + 1 ≤ ts.length)) (Nat.le_trans (Nat.mul_le_mul_left _ (by decide : 16 ≤ 80)) (Nat.le_trans k2 (by decide)))
      have hb4 : k + 1 ≤ maxLen := by rw [maxLen_eq]; omega
      clear hc hat hnm
      rename World => wr
      go_wp2_with (first | (refine wpL_storeRow (cells := #[.string (ts[k]).name, t1, t2, t3]) rfl 60 _ _ rfl Try.size60 rfl rfl (alloc_new _ _ rfl) rfl (by simp [n1, n2, n3, str_one]) ?_; intro w5 h5 g5; have hE5 := (hEr.push _).grown g5 (fun k hk => by cases hk; exact hEr.size); have hEx : Ext wr w5 := ((Ext.refl wr).push _).grown g5 (fun k hk => by cases hk; exact Nat.le_refl _); have ho5 := ho.ext hEx; have s0 : w5.cell? ⟨wr.heap.size, 0, none⟩ = some (.string (ts[k]).name) := cells_of h5 0) | (at_builtin; refine wpL_app1 rfl _ _ 25 rfl 9 Try.underlying25 Try.info9 rfl (by decide) ho5 rfl rfl rfl hone1 hb3 hb4 ?_; intro v' w6 ho6 hg6 hne6 hd6))
      go_roundw
      case rel =>
        obtain ⟨g', cap', hv6, hkc'⟩ := ho6.shape hne6
        have hd7 : g = g' ∨ w5.heap.size ≤ g' := by simpa [Value.ownBlock] using hd6 g' (by rw [hv6]; rfl)
        have hg7 : w5.grownBy w6 (some g) := hg6
        refine ⟨k + 1, g', cap', by omega, by go_num, hv6, hE5.grown hg7 (by intro j hj; cases hj; exact hgw), by have := hE5.size; omega, hkc', ?_⟩
        have e : ((ts.take (k + 1)).map TdOf.name).map Value.string = ((ts.take k).map TdOf.name).map Value.string ++ [Value.string (ts[k]).name] := by
          rw [List.take_succ_eq_append_getElem hlt, List.map_append, List.map_append]; rfl
        rw [e]
        exact hv6 ▸ ho6
      case measure => simp [intOf]; omega
    · have ek : k = ts.length := by omega
      subst ek
      rw [List.take_of_length_le (Nat.le_refl _)] at ho
      have hst : IsStrs _ [] (.slice (some ⟨g, 0, none⟩) ts.length cap) (ts.map TdOf.name) := IsStrs.of_own ho (fun _ _ h => by cases h) (by rw [List.length_map]; omega) (fun s hs => by
        obtain ⟨t, ht, rfl⟩ := List.mem_map.1 hs
        obtain ⟨i, hi, rfl⟩ := List.getElem_of_mem ht
        exact hsm'.out i hi)
      have hst' := Lib.hid hst
      clear hst
      go_wp2_with fail
      refine distinctAny_any hst'.out _ ?_
      intro b w2 hE2
      dsimp only
      go_wp2_with fail
      exact hR'.out _ _ (hEr.trans hE2)

end Go.Proofs.Ytmihdlbcjiaibaa
