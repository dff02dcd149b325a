/- The limits that the laws look at first, and impl.ScalarFits. -/
import Derived.Test.YtnndacgokehkpaaScalar
namespace Go.Proofs.Ytnndacgokehkpaa
open Go.RowKit

set_option maxRecDepth 100000 in
set_option maxHeartbeats 1000000 in
theorem zzFits2_any {w : World} {X : List Nat} {v : Value} {ss : List ByteArray} (hv : IsStrs w X v ss) (R : Ending → World → Prop) (hR : ∀ b, Ends R w (.bool b)) :
    Calls Try.prog 15 #[v] w R := by
  obtain ⟨o, c, b, off, rfl, h2, h3, h4, h5⟩ := hv.ex
  clear hv
  have hR' := Lib.hid hR
  clear hR
  by_cases hlen : ss.length ≤ 2147483647
  · have hlen' : ¬ 2147483647 < (ss.length : Int) := by omega
    go_enter Try.func15, Try.ntmps15
    go_wp2_with fail
    go_loopw [4, 10] (fun _ i wr => ∃ k : Nat, k ≤ ss.length ∧ i = .int .i64 k ∧ wr = w) (fun _ i _ => ss.length - (intOf i).toNat)
    case atStart => exact ⟨0, Nat.zero_le _, rfl, rfl⟩
    case round =>
      obtain ⟨k, hk, rfl, rfl⟩ := hrel
      by_cases hlt : k < ss.length
      · obtain ⟨rfl, hbX⟩ := h4 (by omega)
        have hc := (h5 k hlt).1
        clear h4
        go_wp2_with fail
        · exact hR'.out _ _ (Ext.refl _)
        · go_roundw
          case rel => exact ⟨k + 1, by omega, by go_num, trivial⟩
          case measure => simp [intOf]; omega
      · clear h4
        go_wp2_with fail
        exact hR'.out _ _ (Ext.refl _)
  · have hlen' : 2147483647 < (ss.length : Int) := by omega
    go_enter Try.func15, Try.ntmps15
    go_wp2_with fail
    exact hR'.out _ _ (Ext.refl _)

set_option maxRecDepth 100000 in
set_option maxHeartbeats 1000000 in
theorem zzFits5_any {w : World} {X : List Nat} {cs : List Value} {v : V} (hv : IsV w X cs v) (R : Ending → World → Prop) (hR : ∀ b, Ends R w (.bool b)) :
    Calls Try.prog 5 #[.agg cs.toArray] w R := by
  obtain ⟨kind, n, f, s, keys, l⟩ := v
  obtain ⟨ko, kc, o, c, rfl, -, hks, -⟩ := hv.inv
  clear hv
  have hR' := Lib.hid hR
  have hks' := Lib.hid hks
  clear hR hks
  go_enter Try.func5, Try.ntmps5
  go_wp2_with fail
  · exact hR'.out _ _ (.alloc _ _)
  · refine zzFits2_any (hks'.out.mv ((Ext.alloc _ _).mv X)) _ ?_
    intro b w1 hE1
    dsimp only
    obtain ⟨hc1, hf1, hz1⟩ := hE1.cells
    cases b
    · go_wp2_with fail
      all_goals exact hR'.out _ _ ((Ext.alloc _ _).trans hE1)
    · go_wp2_with fail
      all_goals exact hR'.out _ _ ((Ext.alloc _ _).trans hE1)

end Go.Proofs.Ytnndacgokehkpaa
