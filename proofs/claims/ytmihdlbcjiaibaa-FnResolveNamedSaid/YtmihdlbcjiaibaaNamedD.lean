/- isKey, distinctAny: they answer, whatever they say. -/
import Derived.Test.YtmihdlbcjiaibaaNamedC
namespace Go.Proofs.Ytmihdlbcjiaibaa
open Go.RowKit

theorem IsStrs.takeK {w : World} {X : List Nat} {o : Option Addr} {n c k : Nat} {ss : List ByteArray} (h : IsStrs w X (.slice o n c) ss) (hk : k ≤ ss.length) : IsStrs w X (.slice o k c) (ss.take k) := by
  obtain ⟨o', c', b, off, e, h1, h2, h3, h4⟩ := h.ex
  cases e
  have hl : (ss.take k).length = k := by rw [List.length_take]; omega
  refine ⟨o, c, b, off, by rw [hl], by rw [hl]; omega, by rw [hl]; exact Nat.le_trans (Nat.mul_le_mul_right 16 hk) h2, fun h0 => h3 (by rw [hl] at h0; omega), fun i hi => ?_⟩
  rw [hl] at hi
  have h5 := h4 i (by omega)
  have e1 : (ss.take k).getD i ByteArray.empty = ss.getD i ByteArray.empty := by simp [List.getD, hi]
  rw [e1]
  exact h5

set_option maxRecDepth 100000 in
set_option maxHeartbeats 4000000 in
theorem isKey_any {w : World} {X : List Nat} {v : Value} {name : ByteArray} {ss : List ByteArray} (hs : IsStrs w X v ss) (R : Ending → World → Prop) (hR : ∀ b, Ends R w (.bool b)) :
    Calls Try.prog 83 #[v, .string name] w R := by
  obtain ⟨o, c, kb, koff, rfl, k2, k3, k4, k5⟩ := hs.ex
  have hR' := Lib.hid hR
  have k4' := Lib.hid k4
  have k5' := Lib.hid k5
  clear hs hR k4 k5 k2
  go_enter Try.func83, Try.ntmps83
  go_wp2_with fail
  go_loopw [9] (fun i wr => ∃ k : Nat, k ≤ ss.length ∧ i = .int .i64 k ∧ Ext w wr) (fun i _ => ss.length - (intOf i).toNat)
  case atStart => exact ⟨0, Nat.zero_le _, rfl, Ext.refl _⟩
  case round =>
    obtain ⟨k, hk, rfl, hE⟩ := hrel
    by_cases hlt : k < ss.length
    · obtain ⟨rfl, -⟩ := k4'.out (by omega)
      have q0 := hE.keep (k5'.out k hlt).1
      have hi1 : (k : Int) < (ss.length : Int) := by omega
      have hkm : (k : Int) + 1 ≤ 9223372036854775807 := by omega
      by_cases hn : ss.getD k ByteArray.empty = name
      · rw [hn] at q0
        clear hn
        go_wp2_with fail
        exact hR'.out _ _ hE
      · have hb := bytes_beq hn
        clear hn
        generalize ss.getD k ByteArray.empty = sk at *
        go_wp2_with fail
        go_roundw
        case rel => exact ⟨k + 1, by omega, by go_num, hE⟩
        case measure => simp [intOf]; omega
    · go_wp2_with fail
      exact hR'.out _ _ hE

set_option maxRecDepth 100000 in
set_option maxHeartbeats 4000000 in
theorem distinctAny_any {w : World} {X : List Nat} {v : Value} {ss : List ByteArray} (hs : IsStrs w X v ss) (R : Ending → World → Prop) (hR : ∀ b, Ends R w (.bool b)) :
    Calls Try.prog 55 #[v] w R := by
  obtain ⟨o, c, kb, koff, rfl, k2, k3, k4, k5⟩ := id hs.ex
  have hR' := Lib.hid hR
  have k4' := Lib.hid k4
  have k5' := Lib.hid k5
  have hs' := Lib.hid hs
  clear hs hR k4 k5
  go_enter Try.func55, Try.ntmps55
  go_wp2_with fail
  go_loopw [7] (fun i wr => ∃ k : Nat, k ≤ ss.length ∧ i = .int .i64 k ∧ Ext w wr) (fun i _ => ss.length - (intOf i).toNat)
  case atStart => exact ⟨0, Nat.zero_le _, rfl, Ext.refl _⟩
  case round =>
    obtain ⟨k, hk, rfl, hE⟩ := hrel
    by_cases hlt : k < ss.length
    · obtain ⟨rfl, -⟩ := k4'.out (by omega)
      have q0 := hE.keep (k5'.out k hlt).1
      have hi1 : (k : Int) < (ss.length : Int) := by omega
      have hkm : (k : Int) + 1 ≤ 9223372036854775807 := by omega
      have hkc : (k : Int) ≤ (c : Int) := by omega
      generalize ss.getD k ByteArray.empty = sk at *
      go_wp2_with fail
      refine isKey_any ((hs'.out.takeK (k := k) hk).mv (hE.mv _)) _ ?_
      intro b w2 hE2
      dsimp only
      cases b
      · go_wp2_with fail
        go_roundw
        case rel => exact ⟨k + 1, by omega, by go_num, hE.trans hE2⟩
        case measure => simp [intOf]; omega
      · go_wp2_with fail
        exact hR'.out _ _ (hE.trans hE2)
    · go_wp2_with fail
      exact hR'.out _ _ hE

end Go.Proofs.Ytmihdlbcjiaibaa
