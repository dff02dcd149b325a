/- spec.OrderlyPaths over any list of paths. -/
import Derived.Test.YtihapgangilncaaGreatKGTameS
namespace Go.Proofs.YtihapgangilncaaGreat
open Go.RowKit
set_option linter.unusedSimpArgs false

set_option maxRecDepth 100000 in
set_option maxHeartbeats 4000000 in
set_option pp.maxSteps 1000000 in
set_option pp.deepTerms true in
theorem orderlyPaths_c {w : World} {psv : Value} {ps : List (List EL)} (hps : IsSl kPth 24 w [] psv ps) (R : Ending → World → Prop) (hR : ∀ t, (t = true → ∀ p ∈ ps, ∀ e ∈ p, tameEl e) → Ends R w (.bool t)) :
    Calls Tryz.prog 12 #[psv] w R := by
  obtain ⟨oo, oc, ob, ooff, rfl, n2, n3, n4, n5⟩ := id hps.ex
  have n4' := Lib.hid n4
  have n5' := Lib.hid n5
  have hR' := Lib.hid hR
  have hnl : (ps.length : Int) ≤ 140737488351232 := by omega
  clear hR hps n4 n5 n2 n3
  go_enter Tryz.func12, Tryz.ntmps12
  go_wp2_with fail
  go_loopw [9] (fun i wr => ∃ q : Nat, q ≤ ps.length ∧ i = .int .i64 q ∧ Ext w wr ∧ Hid (∀ j (h : j < ps.length), j < q → ∀ e ∈ ps[j], tameEl e)) (fun i _ => ps.length - (intOf i).toNat)
  case atStart => exact ⟨0, Nat.zero_le _, rfl, Ext.refl _, Lib.hid fun j _ h => by omega⟩
  case round =>
    obtain ⟨q, hq, rfl, hE, hdone⟩ := hrel
    rename World => wr
    by_cases hql : q < ps.length
    · obtain ⟨pcs, hpc, hpcs⟩ := n5'.out q hql
      obtain ⟨rfl, -⟩ := n4'.out (by omega)
      obtain ⟨p, hp⟩ : ∃ p, ps[q]'hql = p := ⟨_, rfl⟩
      rw [hp] at hpcs
      obtain ⟨pv, rfl, hps⟩ := hpcs
      obtain ⟨o, c, b, off, rfl, l2, l3, l4, l5⟩ := id hps.ex
      have hb3 := hE.keep (hpc 0 (by decide))
      simp only [show kPth.size = 1 from rfl, Nat.add_zero, Nat.mul_one] at hb3
      have hpn : (p.length : Int) ≤ 140737488351232 := by omega
      have l4' := Lib.hid l4
      have l5' := Lib.hid l5
      have hp' := Lib.hid hp
      have hq1 : (q : Int) < (ps.length : Int) := by omega
      have hqm : (q : Int) + 1 ≤ 9223372036854775807 := by omega
      clear l4 l5 hpc hps hp l2 l3
      go_wp2_with fail
      obtain ⟨wo, rfl⟩ : ∃ wo : World, wo = wr := ⟨_, rfl⟩
      go_loopw [6, 15] (fun _ i wr => ∃ k : Nat, k ≤ p.length ∧ i = .int .i64 k ∧ Ext w wr ∧ Hid (∀ j (h : j < p.length), j < k → tameEl p[j])) (fun _ i _ => p.length - (intOf i).toNat)
      case atStart => exact ⟨0, Nat.zero_le _, rfl, hE, Lib.hid fun j _ h => by omega⟩
      case round =>
        obtain ⟨k, hk, rfl, hEr, hall⟩ := hrel
        rename World => wr
        by_cases hlt : k < p.length
        · obtain ⟨cs, hc, hcs⟩ := l5'.out k hlt
          obtain ⟨rfl, -⟩ := l4'.out (by omega)
          have hone := kEl.one hcs
          obtain ⟨c0, c1, c2, c3, c4, c5, c6, c7, c8, c9, c10, rfl⟩ := kEl_eleven hcs
          have q0 := hEr.keep (hc 0 (by decide))
          have q1 := hEr.keep (hc 1 (by decide))
          have q2 := hEr.keep (hc 2 (by decide))
          have q3 := hEr.keep (hc 3 (by decide))
          have q4 := hEr.keep (hc 4 (by decide))
          have q5 := hEr.keep (hc 5 (by decide))
          have q6 := hEr.keep (hc 6 (by decide))
          have q7 := hEr.keep (hc 7 (by decide))
          have q8 := hEr.keep (hc 8 (by decide))
          have q9 := hEr.keep (hc 9 (by decide))
          have q10 := hEr.keep (hc 10 (by decide))
          simp only [show kEl.size = 11 from rfl, Nat.add_zero] at q0 q1 q2 q3 q4 q5 q6 q7 q8 q9 q10
          have hi1 : (k : Int) < (p.length : Int) := by omega
          have hkm : (k : Int) + 1 ≤ 9223372036854775807 := by omega
          have hcs' := Lib.hid (kEl.mv hcs (hEr.mv _))
          have hone' := Lib.hid hone
          clear hc hcs hone
          go_wp2_with (first | (refine wpL_storeRow (cells := #[c0, c1, c2, c3, c4, c5, c6, c7, c8, c9, c10]) rfl 47 _ _ rfl Tryz.size47 rfl rfl (alloc_new _ _ rfl) rfl (by simpa using hone'.out) ?_; intro w5 h5 g5; have hEx : Ext wr w5 := ((Ext.refl wr).push _).grown g5 (fun k hk => by cases hk; exact Nat.le_refl _); have s0 : w5.cell? ⟨wr.heap.size, 0, none⟩ = some (c0) := cells_of h5 0; have s1 : w5.cell? ⟨wr.heap.size, 1, none⟩ = some (c1) := cells_of h5 1; have s2 : w5.cell? ⟨wr.heap.size, 2, none⟩ = some (c2) := cells_of h5 2; have s3 : w5.cell? ⟨wr.heap.size, 3, none⟩ = some (c3) := cells_of h5 3; have s4 : w5.cell? ⟨wr.heap.size, 4, none⟩ = some (c4) := cells_of h5 4; have s5 : w5.cell? ⟨wr.heap.size, 5, none⟩ = some (c5) := cells_of h5 5; have s6 : w5.cell? ⟨wr.heap.size, 6, none⟩ = some (c6) := cells_of h5 6; have s7 : w5.cell? ⟨wr.heap.size, 7, none⟩ = some (c7) := cells_of h5 7; have s8 : w5.cell? ⟨wr.heap.size, 8, none⟩ = some (c8) := cells_of h5 8; have s9 : w5.cell? ⟨wr.heap.size, 9, none⟩ = some (c9) := cells_of h5 9; have s10 : w5.cell? ⟨wr.heap.size, 10, none⟩ = some (c10) := cells_of h5 10; clear q0 q1 q2 q3 q4 q5 q6 q7 q8 q9 q10 h5 g5))
          refine orderlyElem_c (kEl.mv hcs'.out (hEx.mv _)) _ ?_
          intro t ht w6 hE6
          have ht' := Lib.hid ht
          clear ht s0 s1 s2 s3 s4 s5 s6 s7 s8 s9 s10
          dsimp only
          cases t
          · go_wp2_with fail
            exact hR'.out _ (fun h => by cases h) _ (hEr.trans (hEx.trans hE6))
          · go_wp2_with fail
            go_roundw
            case rel =>
              refine ⟨k + 1, by omega, by go_num, hEr.trans (hEx.trans hE6), Lib.hid fun j h hj => ?_⟩
              by_cases e : j = k
              · subst e; exact ht'.out rfl
              · exact hall.out j h (by omega)
            case measure => simp [intOf]; omega
        · have hp3 : ∀ e ∈ p, tameEl e := fun e he => by
            obtain ⟨j, hj, rfl⟩ := List.getElem_of_mem he
            exact hall.out j hj (by omega)
          have hp2 := Lib.hid hp3
          have hi1 : ¬ (k : Int) < (p.length : Int) := by omega
          clear hp3 hall
          go_wp2_with fail
          go_roundw
          case rel =>
            refine ⟨q + 1, by omega, by go_num, hEr, Lib.hid fun j h hj => ?_⟩
            by_cases e : j = q
            · subst e
              rw [hp'.out]
              exact hp2.out
            · exact hdone.out j h (by omega)
          case measure => simp [intOf]; omega
    · have hq1 : ¬ (q : Int) < (ps.length : Int) := by omega
      have hd : Hid (∀ p ∈ ps, ∀ e ∈ p, tameEl e) := Lib.hid fun p hp => by
        obtain ⟨j, hj, rfl⟩ := List.getElem_of_mem hp
        exact hdone.out j hj (by omega)
      clear hdone
      go_wp2_with fail
      exact hR'.out _ (fun _ => hd.out) _ hE

end Go.Proofs.YtihapgangilncaaGreat
