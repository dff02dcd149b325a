/- The limits that the laws look at first, and impl.ScalarFits. -/
import Derived.Test.YtmihdlbcjiaibaaScalar
namespace Go.Proofs.Ytmihdlbcjiaibaa
open Go.RowKit

set_option maxRecDepth 100000 in
set_option maxHeartbeats 1000000 in
theorem zzFits2_any {w : World} {X : List Nat} {v : Value} {ss : List ByteArray} (hv : IsStrs w X v ss) (R : Ending → World → Prop) (hR : ∀ b, Ends R w (.bool b)) :
    Calls Try.prog 40 #[v] w R := by
  obtain ⟨o, c, b, off, rfl, h2, h3, h4, h5⟩ := hv.ex
  clear hv
  have hR' := Lib.hid hR
  clear hR
  by_cases hlen : ss.length ≤ 2147483647
  · have hlen' : ¬ 2147483647 < (ss.length : Int) := by omega
    go_enter Try.func40, Try.ntmps40
    go_wp2_with fail
    go_loopw [4, 10] (fun _ i wr => ∃ k : Nat, k ≤ ss.length ∧ i = .int .i64 k ∧ wr = w) (fun _ i _ => ss.length - (intOf i).toNat)
    case atStart => exact ⟨0, Nat.zero_le _, rfl, rfl⟩
    case round =>
      obtain ⟨k, hk, rfl, rfl⟩ := hrel
      by_cases hlt : k < ss.length
      · obtain ⟨rfl, hbX⟩ := h4 (by omega)
        have hc := (h5 k hlt).1
        clear h4
        go_wp2_with fail
        · exact hR'.out _ _ (Ext.refl _)
        · go_roundw
          case rel => exact ⟨k + 1, by omega, by go_num, trivial⟩
          case measure => simp [intOf]; omega
      · clear h4
        go_wp2_with fail
        exact hR'.out _ _ (Ext.refl _)
  · have hlen' : 2147483647 < (ss.length : Int) := by omega
    go_enter Try.func40, Try.ntmps40
    go_wp2_with fail
    exact hR'.out _ _ (Ext.refl _)

set_option maxRecDepth 100000 in
set_option maxHeartbeats 1000000 in
theorem zzFits5_any {w : World} {X : List Nat} {cs : List Value} {v : V} (hv : IsV w X cs v) (R : Ending → World → Prop) (hR : ∀ b, Ends R w (.bool b)) :
    Calls Try.prog 13 #[.agg cs.toArray] w R := by
  obtain ⟨kind, n, f, s, keys, l⟩ := v
  obtain ⟨ko, kc, o, c, rfl, -, hks, -⟩ := hv.inv
  clear hv
  have hR' := Lib.hid hR
  have hks' := Lib.hid hks
  clear hR hks
  go_enter Try.func13, Try.ntmps13
  go_wp2_with fail
  · exact hR'.out _ _ (.alloc _ _)
  · refine zzFits2_any (hks'.out.mv ((Ext.alloc _ _).mv X)) _ ?_
    intro b w1 hE1
    dsimp only
    obtain ⟨hc1, hf1, hz1⟩ := hE1.cells
    cases b
    · go_wp2_with fail
      all_goals exact hR'.out _ _ ((Ext.alloc _ _).trans hE1)
    · go_wp2_with fail
      all_goals exact hR'.out _ _ ((Ext.alloc _ _).trans hE1)

set_option maxRecDepth 100000 in
set_option maxHeartbeats 1000000 in
theorem doorScalar_c {w : World} {X : List Nat} {y : Value} {t : T} (hy : IsVal w X y t) (word : ByteArray) (R : Ending → World → Prop) (hR : Ends R w (.bool (scalarOk word.toList t))) :
    Calls Try.prog 43 #[.string word, y] w R := by
  have hR' := Lib.hid hR
  have hy' := Lib.hid hy
  clear hR hy
  go_enter Try.func43, Try.ntmps43
  go_wp2_with fail
  refine validateScalar_c (hy'.out.mv ((Ext.alloc _ _).mv X)) word _ w.heap.size (by rw [World.cell?_alloc_at _ _ _ _ rfl]; rfl) _ ?_
  intro w1 v hE1 hv
  dsimp only
  cases hs : scalarOk word.toList t with
  | true =>
    rw [hs, if_pos rfl] at hv
    subst hv
    rw [hs] at hR'
    clear hs
    go_wp2_with fail
    exact hR'.out _ ((Ext.alloc _ _).trans hE1)
  | false =>
    rw [hs, if_neg (by simp)] at hv
    obtain ⟨a, rfl⟩ := hv
    rw [hs] at hR'
    clear hs
    go_wp2_with fail
    exact hR'.out _ ((Ext.alloc _ _).trans hE1)

set_option maxRecDepth 100000 in
set_option maxHeartbeats 1000000 in
theorem scalarFits_c {w : World} {X : List Nat} {cs : List Value} {v : V} (hv : IsV w X cs v) (hX : Old X w) (word : ByteArray) (R : Ending → World → Prop) (hR : Ends R w (.bool (scalarOk word.toList v.plain))) :
    Calls Try.prog 15 #[.string word, .agg cs.toArray] w R := by
  obtain ⟨x, rfl⟩ := hv.shape
  have hR' := Lib.hid hR
  have hv' := Lib.hid hv
  have hX' := Lib.hid hX
  clear hR hv hX
  simp only [Cells6.list]
  go_enter Try.func15, Try.ntmps15
  go_wp2_with fail
  refine toValue_c (hv'.out.mv ((Ext.alloc _ _).mv X)) (Old.le hX'.out (Ext.alloc _ _).size) _ ?_
  intro w1 y hE1 hy
  dsimp only
  have hy' := Lib.hid hy
  clear hy
  go_wp2_with fail
  refine doorScalar_c hy'.out word _ ?_
  intro w2 hE2
  dsimp only
  go_wp2_with fail
  exact hR'.out _ (((Ext.alloc _ _).trans hE1).trans hE2)

end Go.Proofs.Ytmihdlbcjiaibaa
