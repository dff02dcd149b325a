/- Set.Size and Set.Empty. -/
import Derived.Test.YtihapgangilncaaGreatKFSetR
namespace Go.Proofs.YtihapgangilncaaGreat
open Go.RowKit
set_option linter.unusedSimpArgs false

set_option maxRecDepth 100000 in
set_option maxHeartbeats 4000000 in
theorem peSetSize_c {w : World} {X : List Nat} {b o : Nat} {sv : Value} {us : List PEl} (h1 : w.cell? ⟨b, o, none⟩ = some sv) (hs : IsSl kPe 32 w X sv us) (R : Ending → World → Prop) (hR : Ends R w (.int .i64 us.length)) :
    Calls Tryz.prog 128 #[.pointer (some ⟨b, o, none⟩)] w R := by
  obtain ⟨oo, c, _, _, rfl, -⟩ := id hs.ex
  have hR' := Lib.hid hR
  clear hR hs
  go_enter Tryz.func128, Tryz.ntmps128
  go_wp2_with fail
  exact hR'.out w (Ext.refl w)

/-- Set.Size over a pointer to a set -/
def SzC (k : Kind St) : Prop := ∀ {w : World} {X : List Nat} {sv : Value} {s : St}, k.is w X [sv] s → s.paths.length ≤ 1099511627776 → ∀ R : Ending → World → Prop, Ends R w (.int .i64 s.paths.length) →
  Calls Tryz.prog 73 #[sv] w R

theorem flat_len_take {cs : List (PEl × St)} (m : Nat) : ((cs.take m).flatMap fun p => p.2.paths.map (p.1 :: ·)).length ≤ (cs.flatMap fun p => p.2.paths.map (p.1 :: ·)).length := by
  conv => rhs; rw [← List.take_append_drop m cs, List.flatMap_append, List.length_append]
  exact Nat.le_add_right _ _
theorem flat_len_succ {cs : List (PEl × St)} {m : Nat} (h : m < cs.length) : ((cs.take (m + 1)).flatMap fun p => p.2.paths.map (p.1 :: ·)).length = ((cs.take m).flatMap fun p => p.2.paths.map (p.1 :: ·)).length + (cs[m]'h).2.paths.length := by
  rw [List.take_succ_eq_append_getElem h, List.flatMap_append, List.length_append]
  simp

set_option maxRecDepth 100000 in
set_option maxHeartbeats 4000000 in
set_option pp.maxSteps 1000000 in
set_option pp.deepTerms true in
theorem nodeSize_c {d : Nat} (ih : SzC (kSt d)) {w : World} {X : List Nat} {b1 o1 : Nat} {sv : Value} {cs : List (PEl × St)} (h1 : w.cell? ⟨b1, o1, none⟩ = some sv) (hs : IsSl (kNd (kSt d)) 40 w X sv cs) (hlen : (cs.flatMap fun p => p.2.paths.map (p.1 :: ·)).length ≤ 1099511627776)
    (R : Ending → World → Prop) (hR : Ends R w (.int .i64 (cs.flatMap fun p => p.2.paths.map (p.1 :: ·)).length)) : Calls Tryz.prog 129 #[.pointer (some ⟨b1, o1, none⟩)] w R := by
  obtain ⟨o, c, b, off, rfl, l2, l3, l4, l5⟩ := id hs.ex
  have l4' := Lib.hid l4
  have l5' := Lib.hid l5
  have hR' := Lib.hid hR
  have ih' : Hid (SzC (kSt d)) := Lib.hid ih
  have hlen' := Lib.hid hlen
  have hpI : (cs.length : Int) ≤ 140737488351232 := by omega
  clear hR hs l4 l5 l3 l2 ih hlen
  go_enter Tryz.func129, Tryz.ntmps129
  go_wp2_with fail
  go_loopw [3, 5, 11] (fun n _ i wr => ∃ m a : Nat, m ≤ cs.length ∧ i = .int .i64 m ∧ n = .int .i64 a ∧ Ext w wr ∧ Hid (a = ((cs.take m).flatMap fun p => p.2.paths.map (p.1 :: ·)).length)) (fun _ _ i _ => cs.length - (intOf i).toNat)
  case atStart => exact ⟨0, 0, Nat.zero_le _, rfl, rfl, Ext.refl _, Lib.hid (by simp)⟩
  case round =>
    obtain ⟨m, a, hm, rfl, rfl, hEr, ha⟩ := hrel
    rename World => wr
    by_cases hlt : m < cs.length
    · obtain ⟨ds, hc, hds⟩ := l5'.out m hlt
      obtain ⟨rfl, -⟩ := l4'.out (by omega)
      rw [kNd_size] at hc
      have hone := (kNd (kSt d)).one hds
      obtain ⟨c0, c1, c2, c3, c4, rfl, -, hst, u0, u1, u2, u3, u4⟩ := node5 hds
      have q0 := hEr.keep (hc 0 (by decide))
      have q1 := hEr.keep (hc 1 (by decide))
      have q2 := hEr.keep (hc 2 (by decide))
      have q3 := hEr.keep (hc 3 (by decide))
      have q4 := hEr.keep (hc 4 (by decide))
      simp only [Nat.add_zero] at q0
      have hi2 : (m : Int) < (cs.length : Int) := by omega
      have hkm : (m : Int) + 1 ≤ 9223372036854775807 := by omega
      have hst' := Lib.hid hst
      have hone' := Lib.hid hone
      have hfs := flat_len_succ hlt
      have hft := flat_len_take (cs := cs) (m + 1)
      obtain ⟨n, hn⟩ : ∃ n, (cs[m]'hlt).2.paths.length = n := ⟨_, rfl⟩
      rw [hn, ← ha.out] at hfs
      have hsum : a + n ≤ 1099511627776 := by have := hlen'.out; omega
      have hwr : IntKind.i64.wrap ((a : Int) + (n : Int)) = (a : Int) + (n : Int) := IntWalk.i64_in _ (by omega)
      have hfs' := Lib.hid hfs
      have hn' := Lib.hid hn
      clear hc hds hst hone hfs hft hn u0 u1 u2 u3 u4
      go_wp2_with (refine wpL_storeRow (cells := #[c0, c1, c2, c3, c4]) (b := wr.heap.size) rfl 183 _ _ rfl Tryz.size183 rfl rfl (alloc_new wr _ rfl) rfl (by simpa using hone'.out) ?_; intro w5 h5 g5; have hEx : Ext wr w5 := ((Ext.refl wr).push _).grown g5 (fun k hk => by cases hk; exact Nat.le_refl _); have s0 : w5.cell? ⟨wr.heap.size, 0, none⟩ = some (c0) := cells_of h5 0; have s1 : w5.cell? ⟨wr.heap.size, 1, none⟩ = some (c1) := cells_of h5 1; have s2 : w5.cell? ⟨wr.heap.size, 2, none⟩ = some (c2) := cells_of h5 2; have s3 : w5.cell? ⟨wr.heap.size, 3, none⟩ = some (c3) := cells_of h5 3; have s4 : w5.cell? ⟨wr.heap.size, 4, none⟩ = some (c4) := cells_of h5 4; clear q0 q1 q2 q3 q4 h5 g5 s0 s1 s2 s3)
      refine ih'.out ((kSt d).mv hst'.out ((hEr.trans hEx).mv X)) (by rw [hn'.out]; omega) _ ?_
      rw [hn'.out]
      intro w6 hE6
      have hE' := Lib.hid ((hEr.trans hEx).trans hE6)
      clear hE6 hEx hEr s4
      dsimp only
      go_wp2_with fail
      go_roundw
      case rel => exact ⟨m + 1, a + n, by omega, by go_num, by go_num, hE'.out, Lib.hid hfs'.out.symm⟩
      case measure => simp [intOf]; omega
    · have ek : m = cs.length := by omega
      subst ek
      have hi2 : ¬ (cs.length : Int) < (cs.length : Int) := by omega
      have hae := ha.out
      rw [List.take_of_length_le (Nat.le_refl _)] at hae
      have hae' := Lib.hid hae
      clear ha hae
      go_wp2_with fail
      have := hR'.out
      rw [← hae'.out] at this
      exact this wr hEr

set_option maxRecDepth 100000 in
set_option maxHeartbeats 4000000 in
set_option pp.maxSteps 1000000 in
set_option pp.deepTerms true in
theorem setSize_step {d : Nat} (ih : SzC (kSt d)) : SzC (kSt (d + 1)) := by
  intro w X sv s hs hlen R hR
  obtain ⟨b, vm, vc, hsv, hbX, c0, c1, hms, hcs⟩ := hs
  cases hsv
  have hpl : s.paths.length = s.ms.length + (s.cs.flatMap fun p => p.2.paths.map (p.1 :: ·)).length := by rw [Tr.paths_eq, List.length_append, List.length_map]
  rw [hpl] at hlen hR
  obtain ⟨a, ha⟩ : ∃ a, (Tr.ms s).length = a := ⟨_, rfl⟩
  obtain ⟨n, hn⟩ : ∃ n, (s.cs.flatMap fun p => p.2.paths.map (p.1 :: ·)).length = n := ⟨_, rfl⟩
  rw [ha, hn] at hlen hR
  have hwr : IntKind.i64.wrap ((a : Int) + (n : Int)) = (a : Int) + (n : Int) := IntWalk.i64_in _ (by omega)
  have ha' := Lib.hid ha
  have hn' := Lib.hid hn
  have hms' := Lib.hid hms
  have hcs' := Lib.hid hcs
  have hR' := Lib.hid hR
  have ih' : Hid (SzC (kSt d)) := Lib.hid ih
  clear hms hcs hR ih hbX ha hn hpl
  go_enter Tryz.func73, Tryz.ntmps73
  go_wp2_with fail
  refine wp_region_script [0, 1, 2, 4, 5, 6, 8, 9] [3] (fun w' => Ext w w') [(.pure, 0), (.pure, 1), (.pure, 2), (.pure, 4), (.pure, 5), (.pure, 6), (.one, 3), (.one, 7), (.pure, 8), (.pure, 9)] (by kernel_rfl) (by kernel_rfl) ?_
  have hC : Ext w w.drew := (Ext.refl w).drew
  iterate 6 (apply scr_pure'; (· rfl); (· rfl); (· (intro w'; go_simp; try rfl)); (· (simp [go_sem]; try rfl)))
  refine scr_one rfl rfl (fun K hK => ?_)
  go_simp
  refine peSetSize_c (hC.keep c0) (hms'.out.mv (hC.mv X) (by decide)) _ ?_
  rw [ha'.out]
  intro w3 hE3
  have hE3' := Lib.hid (hC.trans hE3)
  refine hK _ _ (fun _ => hE3'.out) ?_
  clear hK hE3 hC
  refine scr_one rfl rfl (fun K hK => ?_)
  go_simp
  refine nodeSize_c ih'.out (hE3'.out.keep c1) (hcs'.out.mv (hE3'.out.mv X) (by rw [kNd_size]; decide)) (by rw [hn'.out]; omega) _ ?_
  rw [hn'.out]
  intro w4 hE4
  have hE4' := Lib.hid (hE3'.out.trans hE4)
  refine hK _ _ (fun h => by simp at h) ?_
  clear hK hE4
  iterate 2 (apply scr_pure'; (· rfl); (· rfl); (· (intro w'; go_simp; try rfl)); (· (simp [go_sem]; try rfl)))
  refine scr_end ?_
  simp only [Exit.then]
  go_wp2_with fail
  have := hR'.out w4 hE4'.out
  first | exact this | simpa using this
theorem setSize_all : ∀ d, SzC (kSt d)
  | 0 => fun h => False.elim h
  | d + 1 => setSize_step (setSize_all d)
/-- Set.Empty over a pointer to a set -/
def EmC (k : Kind St) : Prop := ∀ {w : World} {X : List Nat} {sv : Value} {s : St}, k.is w X [sv] s → ∀ R : Ending → World → Prop, Ends R w (.bool (emT s)) →
  Calls Tryz.prog 74 #[sv] w R

set_option maxRecDepth 100000 in
set_option maxHeartbeats 4000000 in
set_option pp.maxSteps 1000000 in
set_option pp.deepTerms true in
theorem nodeEmpty_c {d : Nat} (ih : EmC (kSt d)) {w : World} {X : List Nat} {b1 o1 : Nat} {sv : Value} {cs : List (PEl × St)} (h1 : w.cell? ⟨b1, o1, none⟩ = some sv) (hs : IsSl (kNd (kSt d)) 40 w X sv cs)
    (R : Ending → World → Prop) (hR : Ends R w (.bool ((cs.flatMap fun p => p.2.paths.map (p.1 :: ·)).isEmpty))) : Calls Tryz.prog 130 #[.pointer (some ⟨b1, o1, none⟩)] w R := by
  obtain ⟨o, c, b, off, rfl, l2, l3, l4, l5⟩ := id hs.ex
  have l4' := Lib.hid l4
  have l5' := Lib.hid l5
  have hR' := Lib.hid hR
  have ih' : Hid (EmC (kSt d)) := Lib.hid ih
  have hpI : (cs.length : Int) ≤ 140737488351232 := by omega
  clear hR hs l4 l5 l3 l2 ih
  go_enter Tryz.func130, Tryz.ntmps130
  go_wp2_with fail
  go_loopw [4, 10] (fun _ i wr => ∃ m : Nat, m ≤ cs.length ∧ i = .int .i64 m ∧ Ext w wr ∧ Hid (((cs.take m).flatMap fun p => p.2.paths.map (p.1 :: ·)).length = 0)) (fun _ i _ => cs.length - (intOf i).toNat)
  case atStart => exact ⟨0, Nat.zero_le _, rfl, Ext.refl _, Lib.hid (by simp)⟩
  case round =>
    obtain ⟨m, hm, rfl, hEr, ha⟩ := hrel
    rename World => wr
    by_cases hlt : m < cs.length
    · obtain ⟨ds, hc, hds⟩ := l5'.out m hlt
      obtain ⟨rfl, -⟩ := l4'.out (by omega)
      rw [kNd_size] at hc
      have hone := (kNd (kSt d)).one hds
      obtain ⟨c0, c1, c2, c3, c4, rfl, -, hst, u0, u1, u2, u3, u4⟩ := node5 hds
      have q0 := hEr.keep (hc 0 (by decide))
      have q1 := hEr.keep (hc 1 (by decide))
      have q2 := hEr.keep (hc 2 (by decide))
      have q3 := hEr.keep (hc 3 (by decide))
      have q4 := hEr.keep (hc 4 (by decide))
      simp only [Nat.add_zero] at q0
      have hi2 : (m : Int) < (cs.length : Int) := by omega
      have hkm : (m : Int) + 1 ≤ 9223372036854775807 := by omega
      have hst' := Lib.hid hst
      have hone' := Lib.hid hone
      have hfs := flat_len_succ hlt
      have hft := flat_len_take (cs := cs) (m + 1)
      have hfs' := Lib.hid hfs
      have hft' := Lib.hid hft
      clear hc hds hst hone hfs hft u0 u1 u2 u3 u4
      go_wp2_with (refine wpL_storeRow (cells := #[c0, c1, c2, c3, c4]) (b := wr.heap.size) rfl 183 _ _ rfl Tryz.size183 rfl rfl (alloc_new wr _ rfl) rfl (by simpa using hone'.out) ?_; intro w5 h5 g5; have hEx : Ext wr w5 := ((Ext.refl wr).push _).grown g5 (fun k hk => by cases hk; exact Nat.le_refl _); have s0 : w5.cell? ⟨wr.heap.size, 0, none⟩ = some (c0) := cells_of h5 0; have s1 : w5.cell? ⟨wr.heap.size, 1, none⟩ = some (c1) := cells_of h5 1; have s2 : w5.cell? ⟨wr.heap.size, 2, none⟩ = some (c2) := cells_of h5 2; have s3 : w5.cell? ⟨wr.heap.size, 3, none⟩ = some (c3) := cells_of h5 3; have s4 : w5.cell? ⟨wr.heap.size, 4, none⟩ = some (c4) := cells_of h5 4; clear q0 q1 q2 q3 q4 h5 g5 s0 s1 s2 s3)
      refine ih'.out ((kSt d).mv hst'.out ((hEr.trans hEx).mv X)) _ ?_
      obtain ⟨bb, hbb⟩ : ∃ bb, emT (cs[m]'hlt).2 = bb := ⟨_, rfl⟩
      rw [hbb]
      intro w6 hE6
      have hE' := Lib.hid ((hEr.trans hEx).trans hE6)
      have hbb' := Lib.hid hbb
      clear hE6 hEx hEr s4 hbb
      dsimp only
      cases bb
      · go_wp2_with fail
        have hf : (cs.flatMap fun p => p.2.paths.map (p.1 :: ·)).isEmpty = false := by
          rw [← Bool.not_eq_true, List.isEmpty_iff]
          intro h
          have h2 := hft'.out
          rw [h, hfs'.out] at h2
          have h3 := hbb'.out
          simp only [emT] at h3
          have : (cs[m]'hlt).2.paths = [] := List.eq_nil_of_length_eq_zero (by rw [List.length_nil] at h2; omega)
          rw [this] at h3
          simp at h3
        have := hR'.out
        rw [hf] at this
        exact this w6 hE'.out
      · go_wp2_with fail
        go_roundw
        case rel => exact ⟨m + 1, by omega, by go_num, hE'.out, Lib.hid (by rw [hfs'.out, ha.out]; have h3 := hbb'.out; simp only [emT, List.isEmpty_iff] at h3; rw [h3]; rfl)⟩
        case measure => simp [intOf]; omega
    · have ek : m = cs.length := by omega
      subst ek
      have hi2 : ¬ (cs.length : Int) < (cs.length : Int) := by omega
      have hae := ha.out
      rw [List.take_of_length_le (Nat.le_refl _)] at hae
      have hf : (cs.flatMap fun p => p.2.paths.map (p.1 :: ·)).isEmpty = true := by rw [List.isEmpty_iff]; exact List.eq_nil_of_length_eq_zero hae
      rw [hf] at hR'
      clear ha hae hf
      go_wp2_with fail
      exact hR'.out wr hEr

set_option maxRecDepth 100000 in
set_option maxHeartbeats 4000000 in
set_option pp.maxSteps 1000000 in
set_option pp.deepTerms true in
theorem setEmpty_step {d : Nat} (ih : EmC (kSt d)) : EmC (kSt (d + 1)) := by
  intro w X sv s hs R hR
  obtain ⟨b, vm, vc, hsv, hbX, c0, c1, hms, hcs⟩ := hs
  cases hsv
  have hpl : emT s = ((Tr.ms s).isEmpty && (s.cs.flatMap fun p => p.2.paths.map (p.1 :: ·)).isEmpty) := by
    unfold emT
    rw [Tr.paths_eq]
    cases Tr.ms s <;> simp
  rw [hpl] at hR
  have hmI : ((Tr.ms s).length : Int) ≤ 140737488351232 := by obtain ⟨_, _, _, _, -, -, h, -⟩ := hms.ex; omega
  have hms' := Lib.hid hms
  have hcs' := Lib.hid hcs
  have hR' := Lib.hid hR
  have ih' : Hid (EmC (kSt d)) := Lib.hid ih
  clear hms hcs hR ih hbX hpl
  go_enter Tryz.func74, Tryz.ntmps74
  go_wp2_with fail
  refine peSetSize_c c0 hms'.out _ ?_
  obtain ⟨a, ha⟩ : ∃ a, (Tr.ms s).length = a := ⟨_, rfl⟩
  rw [ha]
  intro w3 hE3
  dsimp only
  by_cases h0 : a = 0
  · have hf : (Tr.ms s).isEmpty = true := by rw [List.isEmpty_iff]; exact List.eq_nil_of_length_eq_zero (ha.trans h0)
    rw [hf, Bool.true_and] at hR'
    have hz : ¬ (0 : Int) < (a : Int) := by omega
    clear ha hf
    go_wp2_with fail
    refine nodeEmpty_c ih'.out (hE3.keep c1) (hcs'.out.mv (hE3.mv X) (by rw [kNd_size]; decide)) _ ?_
    intro w4 hE4
    dsimp only
    go_wp2_with fail
    exact hR'.out w4 (hE3.trans hE4)
  · have hf : (Tr.ms s).isEmpty = false := by
      rw [← Bool.not_eq_true, List.isEmpty_iff]
      intro h
      rw [h] at ha
      exact h0 ha.symm
    rw [hf, Bool.false_and] at hR'
    have hz : (0 : Int) < (a : Int) := by omega
    clear ha hf
    go_wp2_with fail
    exact hR'.out w3 hE3
theorem setEmpty_all : ∀ d, EmC (kSt d)
  | 0 => fun h => False.elim h
  | d + 1 => setEmpty_step (setEmpty_all d)
end Go.Proofs.YtihapgangilncaaGreat
