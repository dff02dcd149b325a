/- FloatCompare, IntCompare, BoolCompare, strings.Compare and the reference's comparisons of numbers and of strings. strings.Compare and value.ListCompareUsing. (printed by gen_cmpm.py) Insertion sort of keys, and what is asked of a function that is called along two maps: no code yet. The small functions that a walk along two maps calls: Has, GetUsing, Free, and the two that put keys into a row that they share with the walk. value.lexicalKeyOrderedMapZip: the keys of two maps, sorted, each once, and a function called along them. value.MapZipUsing in the order of keys, and value.MapCompareUsing. -/
import Derived.Test.YtihapgangilncaaGreatKGCmpT
import Derived.Shelf.Small.Strs
import Derived.Deep.Cut
namespace Go.Proofs.YtihapgangilncaaGreat
open Go.RowKit

set_option maxRecDepth 100000 in
theorem floatCompare_c {w : World} {a b : Nat} (R : Ending → World → Prop) (hR : Ends R w (.int .i64 (cmpF a b))) : Calls Tryz.prog 195 #[.float .f64 a, .float .f64 b] w R := by
  have hR' := Lib.hid hR
  clear hR
  cases ho : FloatKind.f64.format.order a b with
  | none =>
    go_enter Tryz.func195, Tryz.ntmps195
    go_wp2_with fail
    exact hR'.out.int (by simp [cmpF, ho]) _ (Ext.refl _)
  | some o =>
    cases o
    all_goals
      go_enter Tryz.func195, Tryz.ntmps195
      go_wp2_with fail
      exact hR'.out.int (by simp [cmpF, ho]) _ (Ext.refl _)

set_option maxRecDepth 100000 in
theorem intCompare_c {w : World} {a b : Int} (R : Ending → World → Prop) (hR : Ends R w (.int .i64 (cmpI a b))) : Calls Tryz.prog 196 #[.int .i64 a, .int .i64 b] w R := by
  have hR' := Lib.hid hR
  clear hR
  go_enter Tryz.func196, Tryz.ntmps196
  go_wp2_with fail
  all_goals exact hR'.out.int (by simp only [cmpI]; (repeat' split) <;> omega) _ (Ext.refl _)

set_option maxRecDepth 100000 in
theorem boolCompare_c {w : World} {a b : Bool} (R : Ending → World → Prop) (hR : Ends R w (.int .i64 (if a = b then 0 else if a then 1 else -1))) : Calls Tryz.prog 197 #[.bool a, .bool b] w R := by
  have hR' := Lib.hid hR
  clear hR
  cases a <;> cases b
  all_goals
    go_enter Tryz.func197, Tryz.ntmps197
    go_wp2_with fail
    exact hR'.out.int (by simp) _ (Ext.refl _)

set_option maxRecDepth 100000 in
theorem specCompareInts_c {w : World} {a b : Int} (R : Ending → World → Prop) (hR : Ends R w (.int .i64 (cmpI a b))) : Calls Tryz.prog 106 #[.int .i64 a, .int .i64 b] w R := by
  have hR' := Lib.hid hR
  clear hR
  go_enter Tryz.func106, Tryz.ntmps106
  go_wp2_with fail
  all_goals exact hR'.out.int (by simp only [cmpI]; (repeat' split) <;> omega) _ (Ext.refl _)

set_option maxRecDepth 100000 in
theorem specCompareFloats_c {w : World} {a b : Nat} (R : Ending → World → Prop) (hR : Ends R w (.int .i64 (cmpF a b))) : Calls Tryz.prog 176 #[.float .f64 a, .float .f64 b] w R := by
  have hR' := Lib.hid hR
  clear hR
  cases ho : FloatKind.f64.format.order a b with
  | none =>
    go_enter Tryz.func176, Tryz.ntmps176
    go_wp2_with fail
    exact hR'.out.int (by simp [cmpF, ho]) _ (Ext.refl _)
  | some o =>
    cases o
    all_goals
      go_enter Tryz.func176, Tryz.ntmps176
      go_wp2_with fail
      exact hR'.out.int (by simp [cmpF, ho]) _ (Ext.refl _)

set_option maxRecDepth 100000 in
set_option maxHeartbeats 4000000 in
theorem specCompareStrings_c {w : World} {a b : ByteArray} (ha : a.size ≤ 140737488351232) (R : Ending → World → Prop) (hR : Ends R w (.int .i64 (cmpS a b))) :
    Calls Tryz.prog 109 #[.string a, .string b] w R := by
  have hR' := Lib.hid hR
  clear hR
  go_enter Tryz.func109, Tryz.ntmps109
  go_wp2_with fail
  go_loopw [5] (fun i wr => ∃ k : Nat, k ≤ a.size ∧ k ≤ b.size ∧ i = .int .i64 k ∧ Ext w wr ∧ Hid (cmpS a b = cmpB (a.data.toList.drop k) (b.data.toList.drop k))) (fun i _ => a.size - (intOf i).toNat)
  case atStart => exact ⟨0, Nat.zero_le _, Nat.zero_le _, rfl, Ext.refl _, Lib.hid (by simp [cmpS])⟩
  case round =>
    obtain ⟨k, hk, hkb, rfl, hE, hall⟩ := hrel
    rename World => wr
    by_cases h1 : k < a.size
    · by_cases h2 : k < b.size
      · have hat := cmpS_at hall.out h1 h2
        have hat' := Lib.hid hat
        clear hat
        have hi1 : (k : Int) < (a.size : Int) := by omega
        have hi2 : (k : Int) < (b.size : Int) := by omega
        have hkm : (k : Int) + 1 ≤ 9223372036854775807 := by omega
        go_wp2_with fail
        refine wp_region_script (List.range 7) [] (fun w' => w' = wr.drew) [(.read, 0), (.read, 1), (.read, 2), (.read, 3), (.read, 4), (.read, 5), (.read, 6)] (by kernel_rfl) (by kernel_rfl) ?_
        by_cases hne : (a[k].toNat : Int) = (b[k].toNat : Int)
        · have hneb : ((a[k].toNat : Int) != (b[k].toNat : Int)) = false := by simpa using hne
          have hnx : cmpS a b = cmpB (a.data.toList.drop (k + 1)) (b.data.toList.drop (k + 1)) := by
            rw [hat'.out, if_pos (UInt8.toNat_inj.1 (by omega))]
          have hnx' := Lib.hid hnx
          clear hnx
          iterate 7 (first | (apply scr_r; (· rfl); (· (first | rfl | (simp [Region.wanted, yielded, go_sem]; done) | (simp [Region.wanted, yielded, go_sem, *]; done))); (· (go_simp; try rfl)); (· (simp [go_sem]; try rfl))) | (apply scr_r0; (· rfl); (· (first | rfl | (simp [Region.wanted, yielded, go_sem]; done) | (simp [Region.wanted, yielded, go_sem, *]; done))); (· (simp [go_sem]; try rfl))))
          refine scr_end ?_
          simp only [Exit.then]
          go_wp2_with fail
          go_roundw
          case rel => exact ⟨k + 1, by omega, by omega, by go_num, hE.drew, hnx'.out⟩
          case measure => simp [intOf]; omega
        · have hneb : ((a[k].toNat : Int) != (b[k].toNat : Int)) = true := by rw [bne_iff_ne]; exact hne
          have hnx : cmpS a b = cmpI a[k].toNat b[k].toNat := by
            rw [hat'.out, if_neg (fun e => hne (by rw [e]))]
          have hnx' := Lib.hid hnx
          clear hnx
          iterate 7 (first | (apply scr_r; (· rfl); (· (first | rfl | (simp [Region.wanted, yielded, go_sem]; done) | (simp [Region.wanted, yielded, go_sem, *]; done))); (· (go_simp; try rfl)); (· (simp [go_sem]; try rfl))) | (apply scr_r0; (· rfl); (· (first | rfl | (simp [Region.wanted, yielded, go_sem]; done) | (simp [Region.wanted, yielded, go_sem, *]; done))); (· (simp [go_sem]; try rfl))))
          refine scr_end ?_
          simp only [Exit.then]
          go_wp2_with fail
          have hw1 : IntKind.i64.wrap (a[k].toNat : Int) = a[k].toNat := IntWalk.i64_in _ (by have := a[k].toNat_lt; omega)
          have hw2 : IntKind.i64.wrap (b[k].toNat : Int) = b[k].toNat := IntWalk.i64_in _ (by have := b[k].toNat_lt; omega)
          refine wp_region_script [0, 1, 2, 3, 4, 5, 6, 7, 9] [] (fun w' => w' = wr.drew.drew) [(.read, 0), (.read, 1), (.read, 2), (.read, 3), (.read, 4), (.read, 5), (.read, 6), (.read, 7), (.one, 8), (.pure, 9)] (by kernel_rfl) (by kernel_rfl) ?_
          iterate 8 (first | (apply scr_r; (· rfl); (· (first | rfl | (simp [Region.wanted, yielded, go_sem]; done) | (simp [Region.wanted, yielded, go_sem, *]; done))); (· (go_simp; try rfl)); (· (simp [go_sem]; try rfl))) | (apply scr_r0; (· rfl); (· (first | rfl | (simp [Region.wanted, yielded, go_sem]; done) | (simp [Region.wanted, yielded, go_sem, *]; done))); (· (simp [go_sem]; try rfl))))
          refine scr_one rfl rfl (fun K hK => ?_)
          go_simp
          refine specCompareInts_c _ ?_
          intro w3 hE3
          refine hK _ _ (fun h => by simp at h) ?_
          clear hK
          (apply scr_pure'; (· rfl); (· rfl); (· (intro w'; go_simp; try rfl)); (· (simp [go_sem]; try rfl)))
          refine scr_end ?_
          simp only [Exit.then]
          go_wp2_with fail
          exact hR'.out.int hnx'.out _ (hE.drew.drew.trans hE3)
      · have hend := Lib.hid (cmpS_end hall.out hk hkb (by omega))
        have hi1 : (k : Int) < (a.size : Int) := by omega
        have hi2 : ¬ (k : Int) < (b.size : Int) := by omega
        go_wp2_with fail
        refine specCompareInts_c _ ?_
        intro w3 hE3
        dsimp only
        go_wp2_with fail
        exact hR'.out.int hend.out _ (hE.trans hE3)
    · have hend := Lib.hid (cmpS_end hall.out hk hkb (by omega))
      have hi1 : ¬ (k : Int) < (a.size : Int) := by omega
      go_wp2_with fail
      refine specCompareInts_c _ ?_
      intro w3 hE3
      dsimp only
      go_wp2_with fail
      exact hR'.out.int hend.out _ (hE.trans hE3)
end Go.Proofs.YtihapgangilncaaGreat

namespace Go.Proofs.YtihapgangilncaaGreat
open Go.RowKit
set_option linter.unusedSimpArgs false

def CmC (b : T) : Prop := ∀ (w : World) (X Y : List Nat) (a : T) (va vb al : Value), IsVal w X va a → IsVal w Y vb b → IsAl al → ∀ R : Ending → World → Prop, Ends R w (.int .i64 (cmpT a b)) →
  Calls Tryz.prog 173 #[al, va, vb] w R

theorem cmpB_compare : ∀ a b : List UInt8, Lib.compareBytes a b = cmpB a b
  | [], [] => rfl
  | [], _ :: _ => rfl
  | _ :: _, [] => rfl
  | a :: xs, b :: bs => by
    simp only [Lib.compareBytes, cmpB, cmpB_compare xs bs, cmpI]
    by_cases h : a = b
    · subst h; simp [UInt8.lt_irrefl]
    · simp only [if_neg h, UInt8.lt_iff_toNat_lt, Int.ofNat_lt]
      have : a.toNat ≠ b.toNat := fun e => h (UInt8.toNat_inj.1 e)
      by_cases h1 : a.toNat < b.toNat
      · simp [h1]
      · have h2 : b.toNat < a.toNat := by omega
        simp [h1, h2]

def strRen : Go.Shelf.Ren := ⟨fun n => match n with | 106 => 145 | 213 => 172 | 265 => 194 | _ => 0, fun n => match n with | 3 => 3 | 9 => 9 | _ => 0, fun n => n⟩
set_option maxRecDepth 100000 in
theorem strLays : Lays.n106 Tryz.prog strRen where
  mixed := by kernel_rfl
  f106 := by kernel_rfl
  f213 := by kernel_rfl
  f265 := by kernel_rfl
  t3 := by kernel_rfl
  a3 := fun _ => by kernel_rfl
  z3 := fun _ => by kernel_rfl
  v3 := fun _ => by kernel_rfl
  t9 := by kernel_rfl
  a9 := fun _ => by kernel_rfl
  z9 := fun _ => by kernel_rfl
  v9 := fun _ => by kernel_rfl
theorem stringsCompare_c {w : World} {a b : ByteArray} (R : Ending → World → Prop) (hR : R (.returned (.int .i64 (cmpS a b))) w) : Calls Tryz.prog 145 #[.string a, .string b] w R := by
  refine Calls.mono (Any.strings_Compare strLays a b w) ?_
  rintro e w' ⟨rfl, rfl⟩
  rw [cmpB_compare]
  exact hR

set_option maxRecDepth 100000 in
set_option maxHeartbeats 4000000 in
set_option pp.maxSteps 1000000 in
set_option pp.deepTerms true in
theorem listCompare_c {w : World} {s1 s2 al : Value} {ms ls : List T} (ih : ∀ i (h : i < ls.length), CmC ls[i]) (h1 : IsTs w [] s1 ms) (h2 : IsTs w [] s2 ls) (hal : IsAl al)
    (R : Ending → World → Prop) (hR : Ends R w (.int .i64 (cmpTs ms ls))) :
    Calls Tryz.prog 198 #[al, .iface 361 s1, .iface 361 s2] w R := by
  obtain ⟨ab, rfl⟩ := hal
  obtain ⟨b1, f1, k1, rfl, l1, -⟩ := id h1.ex
  obtain ⟨b2, f2, k2, rfl, l2, -⟩ := id h2.ex
  have h1' := Lib.hid h1
  have h2' := Lib.hid h2
  have hR' := Lib.hid hR
  have ih' := Lib.hid ih
  clear hR h1 h2 ih l1 l2
  go_enter_defers Tryz.func198, Tryz.ntmps198
  go_wp2_with fail
  refine rangeUsing_c h1'.out (Old.nil _) _ ?_
  intro w1 v1 B1 hE1 hr1 hB1
  have hr1' := Lib.hid hr1
  have hB1' := Lib.hid hB1
  clear hr1 hB1
  dsimp only
  go_wp2_with fail
  refine rangeUsing_c (X := B1) (h2'.out.mv (by simpa using (hE1.mv []).moreL hB1'.out)) hr1'.out.old _ ?_
  intro w2 v2 B2 hE2 hr2 hB2
  have hr1b : IsRange w2 B2 v1 ms 0 B1 := hr1'.out.mv (by simpa using (hE2.mv []).moreL hB2)
  have hr2' := Lib.hid hr2
  have hr1b' := Lib.hid hr1b
  have hB2' := Lib.hid hB2
  have hE := hE1.trans hE2
  clear hr2 hB2 hr1b hr1'
  dsimp only
  have r1 := hr1b'.out
  have r2 := hr2'.out
  cases r1 with
  | empty e1 e2 =>
    cases r2 with
    | empty e3 e4 =>
      have hd : cmpTs [] [] = 0 := rfl
      go_wp2_with fail
      go_loopw [11] (fun i wr => i = undef ∧ Ext w wr) (fun _ _ => 0)
      case atStart => exact ⟨rfl, hE⟩
      case round =>
        obtain ⟨rfl, hEr⟩ := hrel
        go_wp2_with fail
        refine emptyNext_c _ ?_
        dsimp only
        go_wp2_with fail
        refine emptyNext_c _ ?_
        dsimp only
        go_wp2_with fail
        refine leaves_free (by simp [results, Tryz.results198, go_sem]; try rfl) (hR'.out.int (hd) _ hEr) _ (by simp [freeD])
    | @list rc ic _ sv2 x2 _ q1 q2 hne2 qx1 qx2 q3 =>
      have q1' := Lib.hid q1
      have q2' := Lib.hid q2
      have q3' := Lib.hid q3
      clear q1 q2 q3
      go_wp2_with fail
      go_loopw [11] (fun i wr => i = undef ∧ wr = w2) (fun _ _ => 0)
      case atStart => exact ⟨rfl, rfl⟩
      case round =>
        obtain ⟨rfl, rfl⟩ := hrel
        go_wp2_with fail
        refine emptyNext_c _ ?_
        dsimp only
        go_wp2_with fail
        refine rangeNext_c q1'.out q2'.out hne2 qx1 qx2 q3'.out (Nat.zero_le _) _ ?_
        intro w3 hM hr3
        clear hr3
        have hE3 := hE.mutated hM (fun k hk => Nat.le_trans hE1.size (hB2'.out k hk))
        cases ls with
        | nil =>
          have hd : cmpTs [] [] = 0 := rfl
          rw [show decide (0 < ([] : List T).length) = false from rfl]
          dsimp only
          go_wp2_with fail
          refine leaves_free (by simp [results, Tryz.results198, go_sem]; try rfl) (hR'.out.int (hd) _ hE3) _ (by simp [freeD])
        | cons y ys =>
          have hd : cmpTs [] (y :: ys) = -1 := rfl
          rw [show decide (0 < (y :: ys).length) = true from by simp]
          dsimp only
          go_wp2_with fail
          refine leaves_free (by simp [results, Tryz.results198, go_sem]; try rfl) (hR'.out.int (hd) _ hE3) _ (by simp [freeD])
  | @list rb ib _ sv x _ p1 p2 hne px1 px2 p3 =>
    cases r2 with
    | empty e1 e2 =>
      have p1' := Lib.hid p1
      have p2' := Lib.hid p2
      have p3' := Lib.hid p3
      clear p1 p2 p3
      go_wp2_with fail
      go_loopw [11] (fun i wr => i = undef ∧ wr = w2) (fun _ _ => 0)
      case atStart => exact ⟨rfl, rfl⟩
      case round =>
        obtain ⟨rfl, rfl⟩ := hrel
        go_wp2_with fail
        refine rangeNext_c p1'.out p2'.out hne px1 px2 p3'.out (Nat.zero_le _) _ ?_
        intro w3 hM hr3
        clear hr3
        have hE3 := hE.mutated hM (fun k hk => Nat.le_trans (hB1'.out k hk) (Nat.le_refl _))
        cases ms with
        | nil =>
          have hd : cmpTs [] [] = 0 := rfl
          rw [show decide (0 < ([] : List T).length) = false from rfl]
          dsimp only
          go_wp2_with fail
          refine emptyNext_c _ ?_
          dsimp only
          go_wp2_with fail
          refine leaves_free (by simp [results, Tryz.results198, go_sem]; try rfl) (hR'.out.int (hd) _ hE3) _ (by simp [freeD])
        | cons y ys =>
          have hd : cmpTs (y :: ys) [] = 1 := rfl
          rw [show decide (0 < (y :: ys).length) = true from by simp]
          dsimp only
          go_wp2_with fail
          refine emptyNext_c _ ?_
          dsimp only
          go_wp2_with fail
          refine leaves_free (by simp [results, Tryz.results198, go_sem]; try rfl) (hR'.out.int (hd) _ hE3) _ (by simp [freeD])
    | @list rc ic _ sv2 x2 _ q1 q2 hne2 qx1 qx2 q3 =>
      have hs1 : IsRange w2 [rc, ic] (.iface 382 (.pointer (some ⟨rb, 0, none⟩))) ms 0 [rb, ib] := .list p1 p2 hne px1 px2 p3
      have hs2 : IsRange w2 [rb, ib] (.iface 382 (.pointer (some ⟨rc, 0, none⟩))) ls 0 [rc, ic] := .list q1 q2 hne2 qx1 qx2 q3
      have hs1' := Lib.hid hs1
      have hs2' := Lib.hid hs2
      clear hs1 hs2 p1 p2 p3 q1 q2 q3 hr2' hr1b'
      go_wp2_with fail
      go_loopw [11] (fun i wr => ∃ k, k ≤ ms.length ∧ k ≤ ls.length ∧ stepsOf i = k ∧ Ext w wr ∧ Hid (IsRange wr [rc, ic] (.iface 382 (.pointer (some ⟨rb, 0, none⟩))) ms k [rb, ib]) ∧ Hid (IsRange wr [rb, ib] (.iface 382 (.pointer (some ⟨rc, 0, none⟩))) ls k [rc, ic]) ∧
        Hid (cmpTs ms ls = cmpTs (ms.drop k) (ls.drop k))) (fun i _ => ms.length - stepsOf i)
      case atStart => exact ⟨0, Nat.zero_le _, Nat.zero_le _, rfl, hE, hs1', hs2', Lib.hid (by simp)⟩
      case round =>
        obtain ⟨k, hk, hk2, hst, hEr, g1, g2, g3⟩ := hrel
        have hst' := Lib.hid hst
        clear hst
        rename World => wr
        have hb1 : ∀ b ∈ [rb, ib], w.heap.size ≤ b := hB1'.out
        have hb2 : ∀ b ∈ [rc, ic], w.heap.size ≤ b := fun b hb => Nat.le_trans hE1.size (hB2'.out b hb)
        have hb1' := Lib.hid hb1
        have hb2' := Lib.hid hb2
        clear hb1 hb2
        have e1 := g1.out
        cases e1 with
        | @list _ _ _ tv1 y1 _ P1 P2 _ PX1 PX2 P3 =>
        have P1' := Lib.hid P1
        have P2' := Lib.hid P2
        have P3' := Lib.hid P3
        clear P1 P2 P3
        go_wp2_with fail
        refine rangeNext_c P1'.out P2'.out hne PX1 PX2 P3'.out hk _ ?_
        intro wa hMa hra
        have hEa := hEr.mutated hMa hb1'.out
        have hra' := Lib.hid hra
        clear hra P1' P2' P3'
        have f1 := g2.out.mv (hMa.mv (X := [rb, ib]) (fun _ h => h))
        cases f1 with
        | @list _ _ _ tv2 y2 _ Q1 Q2 _ QX1 QX2 Q3 =>
        have Q1' := Lib.hid Q1
        have Q2' := Lib.hid Q2
        have Q3' := Lib.hid Q3
        clear Q1 Q2 Q3
        by_cases hlt : k < ms.length
        · rw [decide_eq_true hlt]
          dsimp only
          go_wp2_with fail
          refine rangeNext_c Q1'.out Q2'.out hne2 QX1 QX2 Q3'.out hk2 _ ?_
          intro wb hMb hrb
          have hEb := hEa.mutated hMb hb2'.out
          have hrb' := Lib.hid hrb
          clear hrb Q1' Q2' Q3'
          by_cases hlt2 : k < ls.length
          · rw [decide_eq_true hlt2]
            have f2 := hra'.out.mv (hMb.mv (X := [rc, ic]) (fun _ h => h))
            cases f2 with
            | @list _ _ _ tv3 y3 _ S1 S2 _ SX1 SX2 S3 =>
            have S1' := Lib.hid S1
            have S2' := Lib.hid S2
            have S3' := Lib.hid S3
            clear S1 S2 S3
            dsimp only
            go_wp2_with fail
            refine rangeItem_c S1'.out S2'.out hne SX1 SX2 S3'.out hlt _ ?_
            intro wc y hMc hrc hyc hyT
            have hEc := hEb.mutated hMc hb1'.out
            have hrc' := Lib.hid hrc
            have hyT' := Lib.hid hyT
            clear hrc S1' S2' S3' hyT hra'
            have f3 := hrb'.out.mv (hMc.mv (X := [rb, ib]) (fun _ h => h))
            cases f3 with
            | @list _ _ _ tv4 y4 _ U1 U2 _ UX1 UX2 U3 =>
            have U1' := Lib.hid U1
            have U2' := Lib.hid U2
            have U3' := Lib.hid U3
            clear U1 U2 U3
            dsimp only
            go_wp2_with fail
            refine rangeItem_c U1'.out U2'.out hne2 UX1 UX2 U3'.out hlt2 _ ?_
            intro wd z hMd hrd hzd hzT
            have hEd := hEc.mutated hMd hb2'.out
            have hrd' := Lib.hid hrd
            have hva : IsVal wd [] (.iface 261 (.pointer (some ⟨ib, 0, none⟩))) ms[k] :=
              ⟨ib, y, rfl, (hMd.block _ (Array.getElem?_eq_some_iff.1 hyc).1 SX2).trans hyc, by simp, hyT'.out.mv ((hMd.mv (X := rb :: ib :: [rc, ic]) (by simp)).less (Z := []) (by simp))⟩
            have hvb : IsVal wd [] (.iface 261 (.pointer (some ⟨ic, 0, none⟩))) ls[k] :=
              ⟨ic, z, rfl, hzd, by simp, hzT.mv ((Mv.refl wd _).less (Z := []) (by simp))⟩
            have hva' := Lib.hid hva
            have hvb' := Lib.hid hvb
            have hrc2 := Lib.hid (hrc'.out.mv (hMd.mv (X := [rc, ic]) (fun _ h => h)))
            have hat := Lib.hid (cmpTs_at g3.out hlt hlt2)
            clear hrd U1' U2' U3' hva hvb hrb' hrc' hzT hyT' hyc hzd hMa hMb hMc hMd hEa hEb hEc
            dsimp only
            go_wp2_with fail
            refine ih'.out k hlt2 wd [] [] ms[k] _ _ _ hva'.out hvb'.out ⟨ab, rfl⟩ _ ?_
            intro we hEe
            by_cases hq : cmpT ms[k] ls[k] = 0
            · have hq' := Lib.hid hq
              have hz : (cmpT ms[k] ls[k] != 0) = false := by simpa using hq
              clear hq
              dsimp only
              go_wp2_with fail
              go_roundw
              case rel =>
                refine ⟨k + 1, hlt, hlt2, by simp [stepsOf], hEd.trans hEe, Lib.hid (hrc2.out.mv (hEe.mv _)), Lib.hid (hrd'.out.mv (hEe.mv _)), Lib.hid ?_⟩
                rw [hat.out, if_neg (by simp [hq'.out])]
              case measure => rw [hst'.out]; simp [stepsOf]; omega
            · have hz : (cmpT ms[k] ls[k] != 0) = true := by simpa using hq
              have hd : cmpTs ms ls = cmpT ms[k] ls[k] := by rw [hat.out, if_pos hq]
              have hd' := Lib.hid hd
              clear hq hd
              dsimp only
              go_wp2_with fail
              refine leaves_free (by simp [results, Tryz.results198, go_sem]; try rfl) (hR'.out.int (hd'.out) _ (hEd.trans hEe)) _ (by simp [freeD])
          · rw [decide_eq_false hlt2]
            have hd' := Lib.hid (cmpTs_long g3.out hlt hlt2)
            dsimp only
            go_wp2_with fail
            refine leaves_free (by simp [results, Tryz.results198, go_sem]; try rfl) (hR'.out.int (hd'.out) _ hEb) _ (by simp [freeD])
        · rw [decide_eq_false hlt]
          dsimp only
          go_wp2_with fail
          refine rangeNext_c Q1'.out Q2'.out hne2 QX1 QX2 Q3'.out hk2 _ ?_
          intro wb hMb hrb
          have hEb := hEa.mutated hMb hb2'.out
          clear hrb Q1' Q2' Q3'
          by_cases hlt2 : k < ls.length
          · rw [decide_eq_true hlt2]
            have hd' := Lib.hid (cmpTs_short g3.out hlt hlt2)
            dsimp only
            go_wp2_with fail
            refine leaves_free (by simp [results, Tryz.results198, go_sem]; try rfl) (hR'.out.int (hd'.out) _ hEb) _ (by simp [freeD])
          · rw [decide_eq_false hlt2]
            have hd' := Lib.hid (cmpTs_same g3.out hlt hlt2)
            dsimp only
            go_wp2_with fail
            refine leaves_free (by simp [results, Tryz.results198, go_sem]; try rfl) (hR'.out.int (hd'.out) _ hEb) _ (by simp [freeD])
end Go.Proofs.YtihapgangilncaaGreat

namespace Go.Proofs.YtihapgangilncaaGreat
open Go.RowKit

/-- e, which stood behind ks, moved down to place j -/
def mvd (ks : List ByteArray) (e : ByteArray) (rest : List ByteArray) (j : Nat) : List ByteArray := (ks.take j ++ e :: ks.drop j) ++ rest

theorem mvd_top (ks : List ByteArray) (e : ByteArray) (rest : List ByteArray) : mvd ks e rest ks.length = ks ++ e :: rest := by simp [mvd]
theorem mvd_perm (ks : List ByteArray) (e : ByteArray) (rest : List ByteArray) (j : Nat) : (mvd ks e rest j).Perm (ks ++ e :: rest) := by
  have h1 : (ks.take j ++ e :: ks.drop j).Perm (e :: ks) := by
    have := List.perm_middle (a := e) (l₁ := ks.take j) (l₂ := ks.drop j)
    rwa [List.take_append_drop] at this
  exact (h1.append_right rest).trans (List.perm_middle (a := e) (l₁ := ks) (l₂ := rest)).symm
theorem mvd_at {ks : List ByteArray} {e : ByteArray} {rest : List ByteArray} {j : Nat} (hj : j ≤ ks.length) : (mvd ks e rest j)[j]? = some e := by
  have : (ks.take j).length = j := by simp; omega
  rw [mvd, List.append_assoc, List.getElem?_append_right (by omega), this, Nat.sub_self]
  rfl
theorem mvd_below {ks : List ByteArray} {e : ByteArray} {rest : List ByteArray} {m : Nat} (hm : m < ks.length) : (mvd ks e rest (m + 1))[m]? = some ks[m] := by
  have : (ks.take (m + 1)).length = m + 1 := by simp; omega
  rw [mvd, List.append_assoc, List.getElem?_append_left (by omega), List.getElem?_take_of_lt (by omega), List.getElem?_eq_getElem hm]
theorem mvd_swap (ks : List ByteArray) (e : ByteArray) (rest : List ByteArray) (m : Nat) (h : m < ks.length) :
    (((mvd ks e rest (m + 1)).map Value.string).set (m + 1) (.string (ks[m]))).set m (.string e) = (mvd ks e rest m).map Value.string := by
  have h3 : (ks.take (m + 1) ++ e :: ks.drop (m + 1)).length = ks.length + 1 := by simp; omega
  rw [← List.map_set, ← List.map_set, mvd, mvd, List.set_append_left _ _ (by rw [h3]; omega), List.set_append_left _ _ (by rw [List.length_set, h3]; omega), swap_put ks e m h]
theorem mvd_done {ks : List ByteArray} {e : ByteArray} {rest : List ByteArray} {j : Nat} (hn : (ks ++ e :: rest).Nodup) (hr : Rising ks) (hgt : ∀ x ∈ ks.drop j, slt e x = true) (hlo : j = 0 ∨ ∃ m, ∃ h : m < ks.length, j = m + 1 ∧ slt e (ks[m]) = false) :
    (mvd ks e rest j).Nodup ∧ Rising ((mvd ks e rest j).take (ks.length + 1)) ∧ ∀ k, k ∈ mvd ks e rest j ↔ k ∈ ks ++ e :: rest := by
  have hp := mvd_perm ks e rest j
  refine ⟨hp.nodup_iff.2 hn, ?_, fun k => hp.mem_iff⟩
  have hl : (ks.take j ++ e :: ks.drop j).length = ks.length + 1 := by simp; omega
  rw [mvd, ← hl, List.take_left]
  refine put_rising hr (fun hm => ?_) hgt hlo
  rw [List.nodup_append] at hn
  exact hn.2.2 e hm e (by simp) rfl

/-- a value or nil -/
def OptVal (w : World) (X : List Nat) (v : Value) : Option T → Prop
  | none => v = .nilIface
  | some t => IsVal w X v t

/-- what is asked of the function that is called along the sorted keys O of two maps -/
structure ZipV (w : World) (X : List Nat) (P Q : EntsOfT T) (O : List ByteArray) (F : FuncId) (cap : Array Value) (Inv : Nat → World → Prop) (Stop : World → Prop) : Prop where
  start : Inv 0 w
  keep : ∀ j B w1 w2, w.heap.size ≤ w1.heap.size → Inv j w1 → Mut w1 B w2 → (∀ b ∈ B, w.heap.size ≤ b) → Inv j w2
  step : ∀ j (hj : j < O.length) w1 va vb, Mut w X w1 → Inv j w1 → OptVal w1 X va (getEnt O[j] P) → OptVal w1 X vb (getEnt O[j] Q) → ∀ K : Ending → World → Prop,
    (∀ w2 b, Mut w1 X w2 → (b = true → Inv (j + 1) w2) → (b = false → Stop w2) → K (.returned (.bool b)) w2) → Calls Tryz.prog F (#[.string O[j], va, vb] ++ cap) w1 K
  enter : ∀ (args : Array Value) (w : World), (callFunc F args).run Tryz.prog w = .ok (.enter F args) w

/-- the keys that a walk over a map's entries ts has put behind those of pre: those of the visited ones for which app holds -/
structure Keys (pre : List ByteArray) (ts : EntsOfT T) (app : ByteArray → Bool) (don : List Nat) (ks : List ByteArray) : Prop where
  nodup : ks.Nodup
  m : ∀ k, k ∈ ks ↔ k ∈ pre ∨ ∃ i, ∃ h : i < ts.length, i ∈ don ∧ app (ts[i]).1 = true ∧ (ts[i]).1 = k

theorem Keys.zero {pre : List ByteArray} {ts : EntsOfT T} {app : ByteArray → Bool} (h : pre.Nodup) : Keys pre ts app [] pre := ⟨h, by simp⟩
theorem keysT_inj {ts : EntsOfT T} (h : (ts.map (·.1)).Nodup) {i j : Nat} (hi : i < ts.length) (hj : j < ts.length) (e : (ts[i]).1 = (ts[j]).1) : i = j := by
  have h1 : i < (ts.map (·.1)).length := by simpa using hi
  have h2 : j < (ts.map (·.1)).length := by simpa using hj
  exact (List.getElem_inj (h₀ := h1) (h₁ := h2) h).1 (by simpa using e)
theorem Keys.skip {pre : List ByteArray} {ts : EntsOfT T} {app : ByteArray → Bool} {don : List Nat} {ks : List ByteArray} (h : Keys pre ts app don ks) {i : Nat} (hi : i < ts.length) (ha : app (ts[i]).1 = false) : Keys pre ts app (don ++ [i]) ks := by
  refine ⟨h.nodup, fun k => ?_⟩
  rw [h.m]
  constructor
  · rintro (h1 | ⟨i', h1, h2, h3⟩)
    · exact .inl h1
    · exact .inr ⟨i', h1, by simp [h2], h3⟩
  · rintro (h1 | ⟨i', h1, h2, h3, h4⟩)
    · exact .inl h1
    · rcases List.mem_append.1 h2 with h2 | h2
      · exact .inr ⟨i', h1, h2, h3, h4⟩
      · rw [List.mem_singleton] at h2; subst h2; rw [ha] at h3; cases h3
theorem Keys.new {pre : List ByteArray} {ts : EntsOfT T} {app : ByteArray → Bool} {don : List Nat} {ks : List ByteArray} (h : Keys pre ts app don ks) (hnd : (ts.map (·.1)).Nodup) {i : Nat} (hi : i < ts.length) (hd : i ∉ don) (hp : (ts[i]).1 ∉ pre) : (ts[i]).1 ∉ ks := fun hk => by
  rcases (h.m _).1 hk with h1 | ⟨i', h1, h2, -, h4⟩
  · exact hp h1
  · exact hd (keysT_inj hnd h1 hi h4 ▸ h2)
theorem Keys.put {pre : List ByteArray} {ts : EntsOfT T} {app : ByteArray → Bool} {don : List Nat} {ks : List ByteArray} (h : Keys pre ts app don ks) (hnd : (ts.map (·.1)).Nodup) {i : Nat} (hi : i < ts.length) (hd : i ∉ don) (hp : (ts[i]).1 ∉ pre) (ha : app (ts[i]).1 = true) : Keys pre ts app (don ++ [i]) (ks ++ [(ts[i]).1]) := by
  have hnew := h.new hnd hi hd hp
  refine ⟨?_, fun k => ?_⟩
  · rw [List.nodup_append]
    refine ⟨h.nodup, by simp, fun a ha b hb e => ?_⟩
    rw [List.mem_singleton] at hb
    exact hnew (hb ▸ e ▸ ha)
  · rw [List.mem_append, h.m, List.mem_singleton]
    constructor
    · rintro ((h1 | ⟨i', h1, h2, h3⟩) | rfl)
      · exact .inl h1
      · exact .inr ⟨i', h1, by simp [h2], h3⟩
      · exact .inr ⟨i, hi, by simp, ha, rfl⟩
    · rintro (h1 | ⟨i', h1, h2, h3, h4⟩)
      · exact .inl (.inl h1)
      · rcases List.mem_append.1 h2 with h2 | h2
        · exact .inl (.inr ⟨i', h1, h2, h3, h4⟩)
        · rw [List.mem_singleton] at h2; subst h2; exact .inr h4.symm
theorem Keys.count {pre : List ByteArray} {ts : EntsOfT T} {app : ByteArray → Bool} {don : List Nat} {ks : List ByteArray} (h : Keys pre ts app don ks) : ks.length ≤ pre.length + ts.length := by
  have := nodup_le (G := pre ++ ts.map (·.1)) h.nodup (fun k hk => by
    rcases (h.m k).1 hk with h1 | ⟨i, h1, -, -, rfl⟩
    · exact List.mem_append_left _ h1
    · exact List.mem_append_right _ (List.mem_map.2 ⟨_, List.getElem_mem h1, rfl⟩))
  simpa using this
theorem Keys.all {pre : List ByteArray} {ts : EntsOfT T} {app : ByteArray → Bool} {don : List Nat} {ks : List ByteArray} (h : Keys pre ts app don ks) (hall : ∀ i, i < ts.length → i ∈ don) (happ : ∀ k, app k = true ∨ k ∈ pre) : ∀ k, k ∈ ks ↔ k ∈ pre ∨ k ∈ ts.map (·.1) := by
  intro k
  rw [h.m]
  constructor
  · rintro (h1 | ⟨i, h1, -, -, rfl⟩)
    · exact .inl h1
    · exact .inr (List.mem_map.2 ⟨_, List.getElem_mem h1, rfl⟩)
  · rintro (h1 | h1)
    · exact .inl h1
    · rcases happ k with ha | ha
      · obtain ⟨p, hp, rfl⟩ := List.mem_map.1 h1
        obtain ⟨i, hi, rfl⟩ := List.getElem_of_mem hp
        exact .inr ⟨i, hi, hall i hi, ha, rfl⟩
      · exact .inl ha
end Go.Proofs.YtihapgangilncaaGreat

namespace Go.Proofs.YtihapgangilncaaGreat
open Go.RowKit
set_option linter.unusedSimpArgs false

theorem free_c {w : World} {p x : Value} (R : Ending → World → Prop) (hR : R (.returned (.tuple #[])) w) : Calls Tryz.prog 241 #[p, x] w R := by
  have hR' := Lib.hid hR
  clear hR
  go_enter Tryz.func241, Tryz.ntmps241
  go_wp2_with fail
  exact bodyPost_end (by simp [results, Tryz.results241, go_sem]) rfl hR'.out

set_option maxRecDepth 100000 in
theorem mHas_c {w : World} {X : List Nat} {r : Nat} {ts : EntsOfT T} {k : ByteArray} (h : IsTm w X r ts) (R : Ending → World → Prop) (hR : R (.returned (.bool (getEnt k ts).isSome)) w) :
    Calls Tryz.prog 275 #[.map (some r), .string k] w R := by
  obtain ⟨⟨us, hm1, hm2⟩, -, -, -⟩ := id h
  have hlw := run_lookup_ents_ok (P := Tryz.prog) (w := w) Tryz.underlying362 Tryz.underlying9 hm1 k .nilIface (zero_any w)
  rcases hm2.find k with ⟨g1, g2⟩ | ⟨x, u, g1, g2, g3⟩
  all_goals
    rw [g1] at hlw
    rw [g2] at hR
    have hR' := Lib.hid hR
    clear hR g1 g2 hm2 h hm1
    go_enter Tryz.func275, Tryz.ntmps275
    go_wp2_with fail
    exact hR'.out

set_option maxRecDepth 100000 in
theorem getUsing_c {w : World} {X : List Nat} {r : Nat} {ts : EntsOfT T} {k : ByteArray} {al : Value} (h : IsTm w X r ts) (hX : Old X w) (hal : IsAl al) (R : Ending → World → Prop)
    (hR : ∀ w' v, Ext w w' → OptVal w' X v (getEnt k ts) → R (.returned (.tuple #[v, .bool (getEnt k ts).isSome])) w') :
    Calls Tryz.prog 274 #[.map (some r), al, .string k] w R := by
  obtain ⟨ab, rfl⟩ := hal
  obtain ⟨⟨us, hm1, hm2⟩, -, -, -⟩ := id h
  have hlw := run_lookup_ents_ok (P := Tryz.prog) (w := w) Tryz.underlying362 Tryz.underlying9 hm1 k .nilIface (zero_any w)
  have hX' := Lib.hid hX
  rcases hm2.find k with ⟨g1, g2⟩ | ⟨x, u, g1, g2, g3⟩
  · rw [g1] at hlw
    rw [g2] at hR
    have hR' := Lib.hid hR
    clear hR g1 g2 hm2 h hm1 hX
    go_enter Tryz.func274, Tryz.ntmps274
    go_wp2_with fail
    exact hR'.out w _ (Ext.refl _) rfl
  · rw [g1] at hlw
    rw [g2] at hR
    have hone := g3.one
    have hR' := Lib.hid hR
    have g3' := Lib.hid g3
    clear hR g1 g2 hm2 h hm1 hX g3
    go_enter Tryz.func274, Tryz.ntmps274
    go_wp2_with fail
    refine allocValue_c _ ?_
    intro w1 hE1 hb1
    dsimp only
    go_wp2_with fail
    refine reuse_c hb1 hone _ ?_
    intro w2 hb2 hg2
    have hE2 : Ext w w2 := hE1.grown hg2 (fun k hk => by cases hk; exact Nat.le_refl _)
    dsimp only
    go_wp2_with fail
    exact hR'.out w2 _ hE2 ⟨_, _, rfl, hb2, fun hx => Nat.lt_irrefl _ (hX'.out _ hx), g3'.out.mv (hE2.mv X)⟩

/-- a row of keys in the variable at bo; its elements lie in block g0 or in a block that is newer than w0 -/
structure KRow (w0 w : World) (B : List Nat) (bo g0 : Nat) (ks : List ByteArray) : Prop where
  ex : ∃ g cap, w.heap[bo]? = some (.cells #[.slice (some ⟨g, 0, none⟩) ks.length cap] 41 (0, 0)) ∧ Own w 9 1 (.slice (some ⟨g, 0, none⟩) ks.length cap) ks.length (ks.map Value.string) ∧ g ∉ B ∧ g ≠ bo ∧ (g = g0 ∨ w0.heap.size ≤ g)

theorem KRow.keep {w0 w w' : World} {B : List Nat} {bo g0 : Nat} {ks : List ByteArray} (h : KRow w0 w B bo g0 ks) (hm : Mut w B w') (hbo : bo ∉ B) : KRow w0 w' B bo g0 ks := by
  obtain ⟨g, cap, h1, h2, h3, h4, h5⟩ := h.ex
  exact ⟨g, cap, (hm.block _ (Array.getElem?_eq_some_iff.1 h1).1 hbo).trans h1, h2.keep (fun g' hg => by cases hg; exact hm.block g (h2.lt rfl) h3), h3, h4, h5⟩
theorem KRow.rebase {w0 w0' w w' : World} {B B' : List Nat} {bo g0 : Nat} {ks : List ByteArray} (h : KRow w0 w B bo g0 ks) (hE : Ext w w') (hs : w.heap.size ≤ w0'.heap.size) (hB : ∀ b ∈ B', w0'.heap.size ≤ b) : ∃ g, g < w0'.heap.size ∧ g ≠ bo ∧ (g = g0 ∨ w0.heap.size ≤ g) ∧ KRow w0' w' B' bo g ks := by
  obtain ⟨g, cap, h1, h2, h3, h4, h5⟩ := h.ex
  have hlt : g < _ := h2.lt rfl
  refine ⟨g, by omega, h4, h5, g, cap, (hE.below.block _ (Array.getElem?_eq_some_iff.1 h1).1).trans h1, h2.ext hE, fun hb => ?_, h4, .inl rfl⟩
  have := hB g hb
  omega

set_option maxRecDepth 100000 in
set_option maxHeartbeats 1000000 in
theorem putFn1_c {w0 w : World} {B : List Nat} {bo g0 : Nat} {ks : List ByteArray} {k : ByteArray} {val : Value} (hk : KRow w0 w B bo g0 ks) (hB : Old B w) (hbB : bo ∉ B) (hM : Mut w0 [bo, g0] w) (hbytes : (ks.length + 1) * 16 ≤ 140737488355328)
    (K : Ending → World → Prop) (hK : ∀ w2, Mut w0 [bo, g0] w2 → w.heap.size ≤ w2.heap.size → (∀ b ∈ B, w2.heap[b]? = w.heap[b]?) → KRow w0 w2 B bo g0 (ks ++ [k]) → K (.returned (.bool true)) w2) :
    Calls Tryz.prog 288 #[.string k, val, .pointer (some ⟨bo, 0, none⟩)] w K := by
  obtain ⟨g, cap, h1, h2, h3, h4, h5⟩ := hk.ex
  have c0 : w.cell? ⟨bo, 0, none⟩ = some (.slice (some ⟨g, 0, none⟩) ks.length cap) := cells_of h1 0
  have hone1 : ∀ u ∈ (#[Value.string k] : Array Value).toList, u.oneCell' = true := by simp [Value.oneCell']
  have hb4 : ks.length + 1 ≤ maxLen := by rw [maxLen_eq]; omega
  have hK' := Lib.hid hK
  have h1' := Lib.hid h1
  have h5' := Lib.hid h5
  have hB' := Lib.hid hB
  have h3' := Lib.hid h3
  have hM' := Lib.hid hM
  clear hK h1 hk h5 hB h3 hM
  go_enter Tryz.func288, Tryz.ntmps288
  go_wp2_with (first
    | refine wpL_lit1 (v := .string k) rfl 41 _ rfl 9 Tryz.underlying41 Tryz.info9 rfl rfl rfl ?_
    | (at_builtin; refine wpL_app1 rfl _ _ 41 rfl 9 Tryz.underlying41 Tryz.info9 rfl (by decide) h2 rfl rfl rfl hone1 hbytes hb4 ?_; intro v' w4 ho4 hg4 hne4 hd4; obtain ⟨g', cap', rfl, hkc'⟩ := ho4.shape hne4; have hbo4 := Lib.hid ((hg4.block bo (Array.getElem?_eq_some_iff.1 h1'.out).1 (fun e => h4 (by cases e; rfl))).trans h1'.out))
    | (refine wpL_storeC rfl 41 _ _ rfl Tryz.info41 (v := .slice (some ⟨g', 0, none⟩) (ks.length + 1) cap') (new := #[.slice (some ⟨g', 0, none⟩) (ks.length + 1) cap']) rfl rfl rfl hbo4.out (by simp) rfl ?_; intro w5 hb5 hg5))
  have hsz : g < _ := h2.lt rfl
  have hne : g' ≠ bo := by
    rcases hd4 g' rfl with h | h
    · cases h; exact h4
    · have := (Array.getElem?_eq_some_iff.1 h1'.out).1; omega
  have hgB : g' ∉ B := by
    rcases hd4 g' rfl with h | h
    · cases h; exact h3'.out
    · intro hb; have := hB'.out _ hb; omega
  refine hK'.out w5 ⟨?_, ?_, ?_, ?_, ?_⟩ ?_ ?_ ⟨g', cap', ?_, ?_, hgB, hne, ?_⟩
  · exact hg5.os.trans (hg4.os.trans hM'.out.os)
  · exact hg5.tape.trans (hg4.tape.trans hM'.out.tape)
  · exact hg5.output.trans (hg4.output.trans hM'.out.output)
  · exact Nat.le_trans hM'.out.size (Nat.le_trans hg4.size hg5.size)
  · intro i hi hx
    simp only [List.mem_cons, List.not_mem_nil, or_false, not_or] at hx
    have hi1 := Nat.lt_of_lt_of_le hi hM'.out.size
    rw [hg5.block i (Nat.lt_of_lt_of_le hi1 hg4.size) (fun e => hx.1 (by cases e; rfl)), hg4.block i hi1 (fun e => by have e2 : i = g := Option.some.inj e; rcases h5'.out with h | h; exact hx.2 (e2.trans h); omega)]
    exact hM'.out.block i hi (by simp [hx])
  · exact Nat.le_trans hg4.size hg5.size
  · intro b hb
    have hlt := hB'.out b hb
    rw [hg5.block b (Nat.lt_of_lt_of_le hlt hg4.size) (fun e => hbB (by cases e; exact hb)), hg4.block b hlt (fun e => h3'.out (by cases e; exact hb))]
  · simpa using hb5
  · have := Own.keep ho4 (w' := w5) (fun j hj => hg5.block j (ho4.lt hj) (fun e => by cases e; cases hj; exact hne rfl))
    simpa using this
  · rcases hd4 g' rfl with h | h
    · cases h; exact h5'.out
    · exact .inr (Nat.le_trans hM'.out.size h)

set_option maxRecDepth 100000 in
set_option maxHeartbeats 1000000 in
theorem putFn2_c {w0 w : World} {B X : List Nat} {bo g0 b5 r1 : Nat} {P : EntsOfT T} {ks : List ByteArray} {k : ByteArray} {val : Value} (hk : KRow w0 w B bo g0 ks) (hB : Old B w) (hbB : bo ∉ B) (hM : Mut w0 [bo, g0] w) (hbytes : (ks.length + 1) * 16 ≤ 140737488355328)
    (hP : IsTm w X r1 P) (c5 : w.cell? ⟨b5, 0, none⟩ = some (.iface 362 (.map (some r1))))
    (K : Ending → World → Prop) (hK : ∀ w2 ks2, Mut w0 [bo, g0] w2 → w.heap.size ≤ w2.heap.size → (∀ b ∈ B, w2.heap[b]? = w.heap[b]?) → KRow w0 w2 B bo g0 ks2 → ((getEnt k P).isSome = true ∧ ks2 = ks ∨ (getEnt k P).isSome = false ∧ ks2 = ks ++ [k]) → K (.returned (.bool true)) w2) :
    Calls Tryz.prog 289 #[.string k, val, .pointer (some ⟨b5, 0, none⟩), .pointer (some ⟨bo, 0, none⟩)] w K := by
  obtain ⟨g, cap, h1, h2, h3, h4, h5⟩ := hk.ex
  have c0 : w.cell? ⟨bo, 0, none⟩ = some (.slice (some ⟨g, 0, none⟩) ks.length cap) := cells_of h1 0
  have hone1 : ∀ u ∈ (#[Value.string k] : Array Value).toList, u.oneCell' = true := by simp [Value.oneCell']
  have hb4 : ks.length + 1 ≤ maxLen := by rw [maxLen_eq]; omega
  have hK' := Lib.hid hK
  have h1' := Lib.hid h1
  have h5' := Lib.hid h5
  have hB' := Lib.hid hB
  have h3' := Lib.hid h3
  have hM' := Lib.hid hM
  have hk' := Lib.hid hk
  have hP' := Lib.hid hP
  clear hK h1 hk h5 hB h3 hM hP
  cases hs : (getEnt k P).isSome
  · have hs' := Lib.hid hs
    clear hs
    go_enter Tryz.func289, Tryz.ntmps289
    go_wp2_with fail
    refine mHas_c hP'.out _ ?_
    rw [hs'.out]
    dsimp only
    go_wp2_with (first
    | refine wpL_lit1 (v := .string k) rfl 41 _ rfl 9 Tryz.underlying41 Tryz.info9 rfl rfl rfl ?_
    | (at_builtin; refine wpL_app1 rfl _ _ 41 rfl 9 Tryz.underlying41 Tryz.info9 rfl (by decide) h2 rfl rfl rfl hone1 hbytes hb4 ?_; intro v' w4 ho4 hg4 hne4 hd4; obtain ⟨g', cap', rfl, hkc'⟩ := ho4.shape hne4; have hbo4 := Lib.hid ((hg4.block bo (Array.getElem?_eq_some_iff.1 h1'.out).1 (fun e => h4 (by cases e; rfl))).trans h1'.out))
    | (refine wpL_storeC rfl 41 _ _ rfl Tryz.info41 (v := .slice (some ⟨g', 0, none⟩) (ks.length + 1) cap') (new := #[.slice (some ⟨g', 0, none⟩) (ks.length + 1) cap']) rfl rfl rfl hbo4.out (by simp) rfl ?_; intro w5 hb5 hg5))
    have hsz : g < _ := h2.lt rfl
    have hne : g' ≠ bo := by
      rcases hd4 g' rfl with h | h
      · cases h; exact h4
      · have := (Array.getElem?_eq_some_iff.1 h1'.out).1; omega
    have hgB : g' ∉ B := by
      rcases hd4 g' rfl with h | h
      · cases h; exact h3'.out
      · intro hb; have := hB'.out _ hb; omega
    refine hK'.out w5 (ks ++ [k]) ⟨?_, ?_, ?_, ?_, ?_⟩ ?_ ?_ ⟨g', cap', ?_, ?_, hgB, hne, ?_⟩ (.inr ⟨hs'.out, rfl⟩)
    · exact hg5.os.trans (hg4.os.trans hM'.out.os)
    · exact hg5.tape.trans (hg4.tape.trans hM'.out.tape)
    · exact hg5.output.trans (hg4.output.trans hM'.out.output)
    · exact Nat.le_trans hM'.out.size (Nat.le_trans hg4.size hg5.size)
    · intro i hi hx
      simp only [List.mem_cons, List.not_mem_nil, or_false, not_or] at hx
      have hi1 := Nat.lt_of_lt_of_le hi hM'.out.size
      rw [hg5.block i (Nat.lt_of_lt_of_le hi1 hg4.size) (fun e => hx.1 (by cases e; rfl)), hg4.block i hi1 (fun e => by have e2 : i = g := Option.some.inj e; rcases h5'.out with h | h; exact hx.2 (e2.trans h); omega)]
      exact hM'.out.block i hi (by simp [hx])
    · exact Nat.le_trans hg4.size hg5.size
    · intro b hb
      have hlt := hB'.out b hb
      rw [hg5.block b (Nat.lt_of_lt_of_le hlt hg4.size) (fun e => hbB (by cases e; exact hb)), hg4.block b hlt (fun e => h3'.out (by cases e; exact hb))]
    · simpa using hb5
    · have := Own.keep ho4 (w' := w5) (fun j hj => hg5.block j (ho4.lt hj) (fun e => by cases e; cases hj; exact hne rfl))
      simpa using this
    · rcases hd4 g' rfl with h | h
      · cases h; exact h5'.out
      · exact .inr (Nat.le_trans hM'.out.size h)
  · have hs' := Lib.hid hs
    clear hs
    go_enter Tryz.func289, Tryz.ntmps289
    go_wp2_with fail
    refine mHas_c hP'.out _ ?_
    rw [hs'.out]
    dsimp only
    go_wp2_with fail
    exact hK'.out w ks hM'.out (Nat.le_refl _) (fun _ _ => rfl) hk'.out (.inl ⟨hs'.out, rfl⟩)

set_option maxRecDepth 100000 in
theorem callFunc_zip1 (args : Array Value) (w : World) : (callFunc 288 args).run Tryz.prog w = .ok (.enter 288 args) w := rfl
set_option maxRecDepth 100000 in
theorem callFunc_zip2 (args : Array Value) (w : World) : (callFunc 289 args).run Tryz.prog w = .ok (.enter 289 args) w := rfl

theorem bd2 {a b c : Nat} (h1 : a * 88 ≤ 140737488351232) (h2 : b * 88 ≤ 140737488351232) (h3 : c ≤ a + b) : (c + 1) * 16 ≤ 140737488355328 := by omega

theorem keys_visit1 {w : World} {bo g0 : Nat} {ts : EntsOfT T} (hnd : (ts.map (·.1)).Nodup) (hb : ts.length * 88 ≤ 140737488351232) (hk : KRow w w [] bo g0 []) (hbo : bo < w.heap.size) :
    Visit w [bo, g0] ts 288 #[.pointer (some ⟨bo, 0, none⟩)] (fun B don w1 => ∃ ks, KRow w w1 B bo g0 ks ∧ Keys [] ts (fun _ => true) don ks) (fun _ _ => False) where
  start := fun B w1 hE hB => by
    obtain ⟨g, cap, h1, h2, h3, h4, h5⟩ := hk.ex
    have hlt : g < _ := h2.lt rfl
    exact ⟨[], ⟨g, cap, (hE.below.block _ hbo).trans h1, h2.ext hE, fun h => by have := hB g h; omega, h4, h5⟩, Keys.zero List.nodup_nil⟩
  keep := fun B don w1 w2 hB ⟨ks, h1, h2⟩ hM => ⟨ks, h1.keep hM (fun h => by have := hB _ h; omega), h2⟩
  step := fun B don i hi w1 val hni hB hoB hM ⟨ks, h1, h2⟩ hval K hK => by
    have h3 := h2.put hnd hi hni (by simp) rfl
    have hc := h2.count
    refine putFn1_c h1 hoB (fun h => by have := hB _ h; omega) hM (bd2 (b := 0) hb (by omega) (by simp at hc; omega)) K fun w2 hM2 hs2 hB2 hk2 => ?_
    exact hK w2 true hM2 hs2 hB2 (fun _ => ⟨_, hk2, h3⟩) (fun h => by cases h)
  enter := callFunc_zip1

theorem keys_visit2 {w : World} {X : List Nat} {bo g0 b5 r1 : Nat} {P ts : EntsOfT T} {ks0 : List ByteArray} (hnd : (ts.map (·.1)).Nodup) (hb : ts.length * 88 ≤ 140737488351232) (hk : KRow w w [] bo g0 ks0) (hbo : bo < w.heap.size)
    (hP : IsTm w (bo :: g0 :: X) r1 P) (c5 : w.cell? ⟨b5, 0, none⟩ = some (.iface 362 (.map (some r1)))) (h5a : b5 ≠ bo) (h5b : b5 ≠ g0) (hks : ks0.Nodup) (hm : ∀ k, k ∈ ks0 ↔ k ∈ P.map (·.1)) (hl : ks0.length ≤ P.length) :
    Visit w [bo, g0] ts 289 #[.pointer (some ⟨b5, 0, none⟩), .pointer (some ⟨bo, 0, none⟩)] (fun B don w1 => ∃ ks, KRow w w1 B bo g0 ks ∧ Keys ks0 ts (fun k => !(getEnt k P).isSome) don ks) (fun _ _ => False) where
  start := fun B w1 hE hB => by
    obtain ⟨g, cap, h1, h2, h3, h4, h5⟩ := hk.ex
    have hlt : g < _ := h2.lt rfl
    exact ⟨ks0, ⟨g, cap, (hE.below.block _ hbo).trans h1, h2.ext hE, fun h => by have := hB g h; omega, h4, h5⟩, Keys.zero hks⟩
  keep := fun B don w1 w2 hB ⟨ks, h1, h2⟩ hM => ⟨ks, h1.keep hM (fun h => by have := hB _ h; omega), h2⟩
  step := fun B don i hi w1 val hni hB hoB hM ⟨ks, h1, h2⟩ hval K hK => by
    have hc := h2.count
    have hmv : Mv w (bo :: g0 :: X) w1 (bo :: g0 :: X) := hM.mv (by simp)
    have hc5 := (Mv.cell (hM.mv (X := [bo, g0]) (fun _ h => h)) (by simp [h5a, h5b]) c5).1
    refine putFn2_c (X := bo :: g0 :: X) h1 hoB (fun h => by have := hB _ h; omega) hM (bd2 hP.bound hb (by omega)) (hP.mv hmv) hc5 K fun w2 ks2 hM2 hs2 hB2 hk2 hks2 => ?_
    refine hK w2 true hM2 hs2 hB2 (fun _ => ?_) (fun h => by cases h)
    rcases hks2 with ⟨e1, rfl⟩ | ⟨e1, rfl⟩
    · exact ⟨_, hk2, h2.skip hi (by simp [e1])⟩
    · refine ⟨_, hk2, h2.put hnd hi hni ?_ (by simp [e1])⟩
      rw [hm]
      rw [getEnt_lookK] at e1
      exact lookK_none.1 (by simpa using e1)
  enter := callFunc_zip2
end Go.Proofs.YtihapgangilncaaGreat

namespace Go.Proofs.YtihapgangilncaaGreat
open Go.RowKit
set_option linter.unusedSimpArgs false

@[go_sem] theorem meth_mLength (n r : Nat) (w : World) : (method (n + 1) 362 (.map (some r)) "Length").run Tryz.prog w = .ok (278, .map (some r)) w := by kernel_rfl
@[go_sem] theorem meth_mGetUsing (n r : Nat) (w : World) : (method (n + 1) 362 (.map (some r)) "GetUsing").run Tryz.prog w = .ok (274, .map (some r)) w := by kernel_rfl
@[go_sem] theorem meth_mZipUsing (n r : Nat) (w : World) : (method (n + 1) 362 (.map (some r)) "ZipUsing").run Tryz.prog w = .ok (281, .map (some r)) w := by kernel_rfl

theorem OptVal.shape {w : World} {X : List Nat} {v : Value} {o : Option T} (h : OptVal w X v o) : v = .nilIface ∨ ∃ b, v = .iface 261 (.pointer (some ⟨b, 0, none⟩)) := by
  cases o with
  | none => exact .inl h
  | some t => obtain ⟨p, x, e, _⟩ := IsVal.ex h; exact .inr ⟨p, e⟩
theorem OptVal.mv {a b : World} {X Y : List Nat} {v : Value} {o : Option T} (h : OptVal a X v o) (hm : Mv a X b Y) : OptVal b Y v o := by
  cases o with
  | none => exact h
  | some t => exact IsVal.mv h hm

theorem grownBy_trans2 {a b c : World} {g : Option Nat} (h : a.grownBy b g) (k : b.grownBy c g) : a.grownBy c g :=
  ⟨k.os.trans h.os, k.tape.trans h.tape, k.output.trans h.output, Nat.le_trans h.size k.size, fun i hi hn => (k.block i (Nat.lt_of_lt_of_le hi h.size) hn).trans (h.block i hi hn)⟩
/-- the state of the insertion sort: q of the n keys of the row stand in order -/
structure Sorting (w wr : World) (b5 g n cap bo : Nat) (c5 : Value) (ks : List ByteArray) (q : Nat) (L : List ByteArray) : Prop where
  ext : Ext w wr
  hb5 : wr.cell? ⟨b5, 0, none⟩ = some c5
  hbo : wr.heap[bo]? = some (.cells #[.slice (some ⟨g, 0, none⟩) n cap] 41 (0, 0))
  own : Own wr 9 1 (.slice (some ⟨g, 0, none⟩) n cap) n (L.map Value.string)
  nodup : L.Nodup
  m : ∀ k, k ∈ L ↔ k ∈ ks
  len : L.length = n
  rising : Rising (L.take q)

theorem Sorting.ext2 {w wr w2 : World} {b5 g n cap bo q : Nat} {c5 : Value} {ks L : List ByteArray} (h : Sorting w wr b5 g n cap bo c5 ks q L) (hE : Ext wr w2) : Sorting w w2 b5 g n cap bo c5 ks q L :=
  ⟨h.ext.trans hE, hE.keep h.hb5, (hE.below.block _ (Array.getElem?_eq_some_iff.1 h.hbo).1).trans h.hbo, h.own.ext hE, h.nodup, h.m, h.len, h.rising⟩
theorem Sorting.at {w wr : World} {b5 g n cap bo q : Nat} {c5 : Value} {ks L : List ByteArray} (h : Sorting w wr b5 g n cap bo c5 ks q L) {i : Nat} {k : ByteArray} (hk : L[i]? = some k) : wr.cell? ⟨g, i, none⟩ = some (.string k) := by
  obtain ⟨hi, e⟩ := List.getElem?_eq_some_iff.1 hk
  have := h.own.cell i (by simpa using hi)
  rw [Nat.zero_add] at this
  rw [this]
  simp [e]
/-- two cells of the row are written -/
theorem Sorting.store {w wr w2 : World} {b5 g n cap bo q : Nat} {c5 : Value} {ks L L2 : List ByteArray} (h : Sorting w wr b5 g n cap bo c5 ks q L) (hg : wr.grownBy w2 (some g)) (hwg : w.heap.size ≤ g) (h5 : b5 ≠ g) (hbo : bo ≠ g)
    (ho : Own w2 9 1 (.slice (some ⟨g, 0, none⟩) n cap) n (L2.map Value.string)) (hp : ∀ k, k ∈ L2 ↔ k ∈ L) (hn : L2.Nodup) (hl : L2.length = L.length) (hr : Rising (L2.take q)) : Sorting w w2 b5 g n cap bo c5 ks q L2 :=
  ⟨h.ext.grown hg (fun k hk => by cases hk; exact hwg), grown_keep hg h.hb5 h5, (hg.block _ (Array.getElem?_eq_some_iff.1 h.hbo).1 (fun e => hbo (by cases e; rfl))).trans h.hbo, ho, hn, fun k => (hp k).trans (h.m k), hl.trans h.len, hr⟩

theorem rising_one : ∀ {L : List ByteArray}, Rising (L.take 1)
  | [] => trivial
  | _ :: _ => ⟨by simp, trivial⟩
theorem bdn {n p q : Nat} (h1 : p * 88 ≤ 140737488351232) (h2 : q * 88 ≤ 140737488351232) (h : n ≤ p + q) : n ≤ 3198579280710 := by omega

set_option maxRecDepth 100000 in
set_option maxHeartbeats 16000000 in
set_option pp.maxSteps 1000000 in
set_option pp.deepTerms true in
theorem lexZip_c {w : World} {X : List Nat} {r1 r2 : Nat} {al : Value} {P Q : EntsOfT T} {F : FuncId} {cap : Array Value} {Inv : List ByteArray → Nat → World → Prop} {Stop : List ByteArray → World → Prop} (h1 : IsTm w X r1 P) (h2 : IsTm w X r2 Q) (hX : Old X w) (hal : IsAl al)
    (hv : ∀ O, Rising O → (∀ k, k ∈ O ↔ k ∈ P.map (·.1) ∨ k ∈ Q.map (·.1)) → ZipV w X P Q O F cap (Inv O) (Stop O))
    (R : Ending → World → Prop) (hR : ∀ O w', Rising O → (∀ k, k ∈ O ↔ k ∈ P.map (·.1) ∨ k ∈ Q.map (·.1)) → Mut w X w' → Inv O O.length w' → R (.returned (.bool true)) w')
    (hS : ∀ O w', Rising O → (∀ k, k ∈ O ↔ k ∈ P.map (·.1) ∨ k ∈ Q.map (·.1)) → Mut w X w' → Stop O w' → R (.returned (.bool false)) w') :
    Calls Tryz.prog 285 #[al, .iface 362 (.map (some r1)), .iface 362 (.map (some r2)), .func (.func F) #[] cap] w R := by
  have hmf : ∀ (fn : Fn) (first cap : Array Value) (w : World), (Instr.makeFunc fn first cap).run Tryz.prog w = .ok (.func fn first cap) w := fun _ _ _ _ => rfl
  obtain ⟨ab, rfl⟩ := hal
  obtain ⟨us1, hu1, hl1⟩ := h1.len
  obtain ⟨us2, hu2, hl2⟩ := h2.len
  obtain ⟨n1, hn1⟩ : ∃ n, us1.length = n := ⟨_, rfl⟩
  obtain ⟨n2, hn2⟩ : ∃ n, us2.length = n := ⟨_, rfl⟩
  have hbd1 := h1.bound
  have hbd2 := h2.bound
  have e1 : P.length = n1 := by rw [← hl1, hn1]
  have e2 : Q.length = n2 := by rw [← hl2, hn2]
  have b1 : n1 * 88 ≤ 140737488351232 := by rw [← e1]; exact hbd1
  have b2 : n2 * 88 ≤ 140737488351232 := by rw [← e2]; exact hbd2
  have hv' := Lib.hid hv
  have h1' := Lib.hid h1
  have h2' := Lib.hid h2
  have hX' := Lib.hid hX
  have hR' := Lib.hid hR
  have hS' := Lib.hid hS
  have hn1' := Lib.hid hn1
  have hn2' := Lib.hid hn2
  have hu1' := Lib.hid hu1
  have hu2' := Lib.hid hu2
  have e1' := Lib.hid e1
  have e2' := Lib.hid e2
  have b1' := Lib.hid b1
  have b2' := Lib.hid b2
  clear hv h1 h2 hX hR hS hn1 hn2 hu1 hu2 hl1 hl2 e1 e2 hbd1 hbd2 b1 b2
  by_cases hz : n1 = 0 ∧ n2 = 0
  · obtain ⟨rfl, rfl⟩ := hz
    have hP : P = [] := List.eq_nil_of_length_eq_zero e1'.out
    have hQ : Q = [] := List.eq_nil_of_length_eq_zero e2'.out
    have hP' := Lib.hid hP
    have hQ' := Lib.hid hQ
    clear hP hQ
    go_enter Tryz.func285, Tryz.ntmps285
    go_wp2_with fail
    refine abs1 (G := fun wr => Calls _ _ _ wr _) ?_
    intro w1 hE1 hb1 hs1
    have hs1' := Lib.hid hs1
    clear hs1
    refine mLength_c (hu1'.out.ext hE1) _ ?_
    rw [hn1'.out]
    dsimp only
    go_wp2_with fail
    refine mLength_c (hu2'.out.ext hE1) _ ?_
    rw [hn2'.out]
    dsimp only
    go_wp2_with fail
    have hm : ∀ k, k ∈ ([] : List ByteArray) ↔ k ∈ P.map (·.1) ∨ k ∈ Q.map (·.1) := by rw [hP'.out, hQ'.out]; simp
    have hz := hv'.out [] trivial hm
    exact hR'.out [] w1 trivial hm (hE1.mut X) (hz.keep 0 [] w w1 (Nat.le_refl _) hz.start (hE1.mut _) (by simp))
  · have hA1 : 16 * n1 ≤ 281474976710656 := by have := b1'.out; omega
    have hA2 : n1 ≤ maxLen := by have := b1'.out; rw [maxLen_eq]; omega
    have hB1 : 16 * n2 ≤ 281474976710656 := by have := b2'.out; omega
    have hB2 : n2 ≤ maxLen := by have := b2'.out; rw [maxLen_eq]; omega
    have hz1 : ((n1 : Int) == 0) = decide (n1 = 0) := by rw [Bool.eq_iff_iff]; simp
    have hz2 : ((n2 : Int) == 0) = decide (n2 = 0) := by rw [Bool.eq_iff_iff]; simp
    go_enter Tryz.func285, Tryz.ntmps285
    go_wp2_with fail
    refine abs1 (G := fun wr => Calls _ _ _ wr _) ?_
    intro w1 hE1 hb1 hs1
    have c5 := cells_of hb1 0
    simp only [List.getElem?_toArray, List.getElem?_cons_zero] at c5
    clear hb1
    have hs1' := Lib.hid hs1
    clear hs1
    refine mLength_c (hu1'.out.ext hE1) _ ?_
    rw [hn1'.out]
    dsimp only
    go_wp2_with fail
    refine mLength_c (hu2'.out.ext hE1) _ ?_
    rw [hn2'.out]
    dsimp only
    go_upto_if 31 with (fail)
    go_cut [11] from 32 (fun c wc => (∃ cN : Nat, c = .int .i64 cN ∧ 16 * cN ≤ 281474976710656 ∧ cN ≤ maxLen) ∧ w1 = wc)
    case first =>
      by_cases hlt : n1 < n2
      · go_wp2_with fail
        go_meet
        case rel => exact ⟨⟨n2, rfl, hB1, hB2⟩, rfl⟩
      · go_wp2_with fail
        go_meet
        case rel => exact ⟨⟨n1, rfl, hA1, hA2⟩, rfl⟩
    obtain ⟨⟨c, rfl, hc1, hc2⟩, ew⟩ := hcut
    subst ew
    go_upto_region 10 with (fail)
    go_cut [38] from 33 (fun b wc => b = .bool false ∧ w1 = wc)
    case first =>
      by_cases hn0 : n1 = 0
      · have hn3 : n2 ≠ 0 := fun h => hz ⟨hn0, h⟩
        go_wp2_with fail
        go_meet
        case rel => exact ⟨by simp [hn3], rfl⟩
      · go_wp2_with fail
        go_meet
        case rel => exact ⟨by simp, rfl⟩
    obtain ⟨rfl, ew⟩ := hcut
    subst ew
    go_wp2_with (first
      | (refine wpL_make rfl 41 _ _ rfl 9 Tryz.underlying41 Tryz.info9 c rfl rfl hc1 hc2 ?_; intro w2 hown hE2; replace c5 := hE2.keep c5)
      | (refine wpL_init1 rfl 41 _ _ rfl Tryz.info41 rfl (by simp) rfl hown.one (by decide) rfl ?_; refine abs1 (G := fun wr => wpList _ _ _ _ _ wr) ?_; intro w3 hE3 hb3 hs3; replace c5 := hE3.keep c5))
    have hl1 : w1.heap.size < w2.heap.size := hown.lt rfl
    have hl0 : w.heap.size < w1.heap.size := by have := hs1'.out; omega
    have hE13 : Ext w w3 := (hE1.trans hE2).trans hE3
    have hk0 : KRow w3 w3 [] w2.heap.size w1.heap.size [] := ⟨_, _, hb3, hown.ext hE3, by simp, by omega, .inl rfl⟩
    have hk0' := Lib.hid hk0
    have hs3' := Lib.hid hs3
    have hl1' := Lib.hid hl1
    have hl0' := Lib.hid hl0
    clear hk0 hb3 hown hs3 hl1 hl0 hA1 hA2 hB1 hB2 hz1 hz2 hs1' hc1 hc2
    refine iterate_c (X := [w2.heap.size, w1.heap.size]) (h1'.out.mv (((hE13.mv X).moreL (Z := [w2.heap.size, w1.heap.size]) (by have := hl0'.out; have := hl1'.out; simp; omega)).less (by simp))) (Old.cons (by have := hs3'.out; omega) (Old.cons (by have := hs3'.out; have := hl1'.out; omega) (Old.nil _))) ⟨ab, rfl⟩
      (keys_visit1 h1'.out.nodup h1'.out.bound hk0'.out (by have := hs3'.out; omega)) _ ?_ ?_
    rotate_left
    · intro w4 B hM4 hf
      exact hf.elim
    intro w4 B don hM4 hinv hall
    obtain ⟨ks1, hk1, hy1⟩ := hinv
    have hall1 := hy1.all hall (fun _ => .inl rfl)
    have hcn1 := hy1.count
    have hnd1 := hy1.nodup
    have hE14 : Ext w w4 := hE13.mutated hM4 (by have := hl0'.out; have := hl1'.out; simp; omega)
    replace c5 := ((hM4.mv (X := [w2.heap.size, w1.heap.size]) (fun _ h => h)).cell (by have := hl0'.out; have := hl1'.out; simp; omega) c5).1
    obtain ⟨g1, p1, p2, p3, hk2⟩ := hk1.rebase (w0' := w4) (B' := []) (Ext.refl w4) (Nat.le_refl _) (by simp)
    have p4 : w.heap.size < g1 := by
      have := hs3'.out; have := hl0'.out; have := hl1'.out
      rcases p3 with h | h <;> omega
    have hsz4 : w2.heap.size < w4.heap.size := by have := hM4.size; have := hs3'.out; omega
    have hall1' := Lib.hid hall1
    have hcn1' := Lib.hid hcn1
    have hnd1' := Lib.hid hnd1
    have hk2' := Lib.hid hk2
    have p1' := Lib.hid p1
    have p2' := Lib.hid p2
    have p4' := Lib.hid p4
    have hsz4' := Lib.hid hsz4
    clear hall1 hcn1 hnd1 hk2 p1 p2 p3 p4 hk1 hy1 hall hM4 hsz4 hE13 hE1 hE2 hE3
    dsimp only
    go_wp2_with fail
    refine iterate_c (X := [w2.heap.size, g1]) (h2'.out.mv (((hE14.mv X).moreL (Z := [w2.heap.size, g1]) (by have := hl0'.out; have := hl1'.out; have := p4'.out; simp; omega)).less (by simp))) (Old.cons hsz4'.out (Old.cons p1'.out (Old.nil _))) ⟨ab, rfl⟩
      (keys_visit2 (X := X) (P := P) h2'.out.nodup h2'.out.bound hk2'.out hsz4'.out (h1'.out.mv (by simpa using (hE14.mv X).moreL (Z := [w2.heap.size, g1]) (by have := hl0'.out; have := hl1'.out; have := p4'.out; simp; omega))) c5 (by have := hl0'.out; have := hl1'.out; omega) (by have := p4'.out; omega) hnd1'.out (by simpa using hall1'.out) (by simpa using hcn1'.out)) _ ?_ ?_
    rotate_left
    · intro w5 B2 hM5 hf
      exact hf.elim
    intro w5 B2 don2 hM5 hinv hall
    obtain ⟨ks2, hk3, hy2⟩ := hinv
    have hall2 := hy2.all hall (fun k => by
      cases hh : (getEnt k P).isSome
      · exact .inl rfl
      · refine .inr ((hall1'.out k).2 (.inr ?_))
        rw [getEnt_lookK] at hh
        exact Classical.byContradiction fun hne => by rw [lookK_none.2 hne] at hh; cases hh)
    have hE15 : Ext w w5 := hE14.mutated hM5 (by have := hl0'.out; have := hl1'.out; have := p4'.out; simp; omega)
    replace c5 := ((hM5.mv (X := [w2.heap.size, g1]) (fun _ h => h)).cell (by have := hl0'.out; have := hl1'.out; have := p4'.out; simp; omega) c5).1
    have hbd : ks2.length ≤ 3198579280710 := bdn h1'.out.bound h2'.out.bound (by have := hy2.count; have := hcn1'.out; simp at this; omega)
    have hO : ∀ k, k ∈ ks2 ↔ k ∈ P.map (·.1) ∨ k ∈ Q.map (·.1) := fun k => by rw [hall2 k, hall1'.out k]; simp
    obtain ⟨g, cap', d1, d2, d3, d4, d5⟩ := hk3.ex
    have hg5 : w.heap.size < g := by
      have := p4'.out; have := hsz4'.out; have := hl0'.out; have := hl1'.out
      rcases d5 with h | h <;> omega
    have hst : Sorting w w5 w.heap.size g ks2.length cap' w2.heap.size (.iface 362 (.map (some r1))) ks2 1 ks2 :=
      ⟨hE15, c5, d1, d2, hy2.nodup, fun _ => Iff.rfl, rfl, rising_one⟩
    obtain ⟨n, hn⟩ : ∃ n, ks2.length = n := ⟨_, rfl⟩
    rw [hn] at hst hbd
    have hbo5 : w.heap.size < w2.heap.size := by have := hl0'.out; have := hl1'.out; omega
    have c0 : w5.cell? ⟨w2.heap.size, 0, none⟩ = some (.slice (some ⟨g, 0, none⟩) n cap') := cells_of hst.hbo 0
    obtain ⟨bo, ebo⟩ : ∃ b, w2.heap.size = b := ⟨_, rfl⟩
    obtain ⟨b5, eb5⟩ : ∃ b, w.heap.size = b := ⟨_, rfl⟩
    rw [ebo] at hst hbo5 c0 d4
    rw [eb5] at hst hbo5 hg5 c5
    have hst' := Lib.hid hst
    have hO' := Lib.hid hO
    have hg5' := Lib.hid hg5
    have hbo5' := Lib.hid hbo5
    have d4' := Lib.hid d4
    have eb5' := Lib.hid eb5
    clear hst hO hg5 hbo5 d4 eb5 hn d1 d2 d3 d5 hk3 hy2 hall hall2 hM5 hall1' hcn1' hnd1' hk2' p1' p2' p4' hsz4' hE14 hE15 hl0' hl1' hs3' hk0'
    dsimp only
    rw [ebo, eb5'.out]
    clear ebo
    go_wp2_with fail
    go_loopw [13, 14] (fun iv _ wr => ∃ (q : Nat) (L : List ByteArray), iv = .int .i64 q ∧ 1 ≤ q ∧ q ≤ 3198579280711 ∧ Hid (Sorting w wr b5 g n cap' bo (.iface 362 (.map (some r1))) ks2 q L)) (fun iv _ _ => 3198579280712 - (intOf iv).toNat)
    case atStart => exact ⟨1, ks2, rfl, Nat.le_refl _, by decide, hst'⟩
    case round =>
      obtain ⟨q, L, rfl, hq1, hqb, hS1⟩ := hrel
      have c0 := cells_of hS1.out.hbo 0
      simp only [List.getElem?_toArray, List.getElem?_cons_zero] at c0
      by_cases hq : q < n
      · have hqi : (q : Int) < (n : Int) := by omega
        have hlen := hS1.out.len
        have hqL : q < L.length := by omega
        have hL : L = L.take q ++ L[q] :: L.drop (q + 1) := by rw [← List.drop_eq_getElem_cons hqL, List.take_append_drop]
        obtain ⟨ks, hks⟩ : ∃ ks, L.take q = ks := ⟨_, rfl⟩
        obtain ⟨e, he⟩ : ∃ e, L[q] = e := ⟨_, rfl⟩
        obtain ⟨rest, hrest⟩ : ∃ r, L.drop (q + 1) = r := ⟨_, rfl⟩
        rw [hks, he, hrest] at hL
        have hkl : ks.length = q := by rw [← hks]; simp; omega
        have hri := hS1.out.rising
        rw [hks] at hri
        have hri' := Lib.hid hri
        have hnd' := Lib.hid (hL ▸ hS1.out.nodup)
        have hS2 := hS1.out
        rw [hL] at hS2
        have hmem' := Lib.hid (fun k => (hS2.m k))
        have hS2' : Hid (Sorting w wr b5 g n cap' bo (.iface 362 (.map (some r1))) ks2 0 (mvd ks e rest ks.length)) := Lib.hid (by rw [mvd_top]; exact ⟨hS2.ext, hS2.hb5, hS2.hbo, hS2.own, hS2.nodup, hS2.m, hS2.len, trivial⟩)
        have hln : ks.length + 1 + rest.length = n := by have := hS2.len; simp at this; omega
        have hkl' := Lib.hid hkl
        have hln' := Lib.hid hln
        clear hL hks he hrest hqL hri hS2 hS1 hlen hkl hln
        go_wp2_with fail
        go_loopw [14] (fun iv wr2 => ∃ j : Nat, j ≤ ks.length ∧ iv = .int .i64 j ∧ Hid (Sorting w wr2 b5 g n cap' bo (.iface 362 (.map (some r1))) ks2 0 (mvd ks e rest j)) ∧ Hid (∀ x ∈ ks.drop j, slt e x = true)) (fun iv _ => (intOf iv).toNat)
        case atStart => exact ⟨ks.length, Nat.le_refl _, by rw [hkl'.out], hS2', Lib.hid (by simp)⟩
        case round =>
          clear c0 hS2'
          obtain ⟨j, hj, rfl, hS3, hgt⟩ := hrel
          have c0 := cells_of hS3.out.hbo 0
          simp only [List.getElem?_toArray, List.getElem?_cons_zero] at c0
          have hfin : (j = 0 ∨ ∃ m, ∃ h : m < ks.length, j = m + 1 ∧ slt e (ks[m]) = false) → ∀ w2, Ext wr w2 → Hid (Sorting w w2 b5 g n cap' bo (.iface 362 (.map (some r1))) ks2 (q + 1) (mvd ks e rest j)) := fun hlo w2 hE => by
            obtain ⟨m1, m2, m3⟩ := mvd_done hnd'.out hri'.out hgt.out hlo
            have h := hS3.out.ext2 hE
            rw [hkl'.out] at m2
            exact Lib.hid ⟨h.ext, h.hb5, h.hbo, h.own, m1, h.m, h.len, m2⟩
          have hfin' := Lib.hid hfin
          clear hfin
          rcases j with _ | m
          · have hd : decide ((0 : Int) < ((0 : Nat) : Int)) = false := by simp
            go_wp2_with fail
            go_quiet (fail)
            go_wp2_with fail
            have hF := hfin'.out (.inl (by simp)) _ ((Ext.refl wr).drewN nq)
            go_roundw
            case rel => exact ⟨q + 1, _, by simp, by omega, by omega, hF⟩
            case measure => simp [intOf]; omega
          · have hd : decide ((0 : Int) < ((m + 1 : Nat) : Int)) = true := by simp
            have hkm : m < ks.length := hj
            have q1 : wr.cell? ⟨g, m + 1, none⟩ = some (.string e) := hS3.out.at (mvd_at hj)
            have q2 : wr.cell? ⟨g, m, none⟩ = some (.string (ks[m])) := hS3.out.at (mvd_below hkm)
            have hcap : m + 1 < n := by have := hln'.out; omega
            go_wp2_with fail
            go_quiet (fail)
            go_wp2_with fail
            · have hE6 : Ext wr ((wr.drewN nq).drew) := ((Ext.refl wr).drewN nq).drew
              refine wp_region_script [0, 1, 2, 3, 4, 5, 6, 7, 8, 9, 10, 11, 12, 14, 16] [13, 15] (fun w' => w'.cell? ⟨bo, 0, none⟩ = some (.slice (some ⟨g, 0, none⟩) n cap') ∧ w'.cell? ⟨g, m, none⟩ = some (.string (ks[m]))) [(.read, 0), (.pure, 1), (.read, 2), (.pure, 3), (.pure, 4), (.read, 5), (.pure, 6), (.pure, 7), (.pure, 8), (.read, 9), (.read, 10), (.pure, 11), (.pure, 12), (.one, 13), (.pure, 14), (.one, 15), (.pure, 16), (.one, 17)] (by kernel_rfl) (by kernel_rfl) ?_
              have hC : (wr.drewN nq).drew.cell? ⟨bo, 0, none⟩ = some (.slice (some ⟨g, 0, none⟩) n cap') ∧ (wr.drewN nq).drew.cell? ⟨g, m, none⟩ = some (.string (ks[m])) := ⟨hE6.keep c0, hE6.keep q2⟩
              have hwm : IntKind.i64.wrap (m : Int) = m := IntWalk.i64_in _ (by omega)
              have hm0 : (0 : Int) ≤ (m : Int) := by omega
              have hmd : (m : Int) < (n : Int) := by omega
              have hm1 : (0 : Int) ≤ (m : Int) + 1 := by omega
              have hm2 : (m : Int) + 1 < (n : Int) := by omega
              have q1d := hE6.keep q1
              generalize (wr.drewN nq).drew = wd at hE6 hC q1d ⊢
              (apply scr_read'; (· rfl); (· rfl); (· exact hC); (· (intro w' hw'; obtain ⟨y0, y2⟩ := hw'; go_simp; try rfl)); (· (simp [go_sem]; try rfl)))
              (apply scr_pure'; (· rfl); (· rfl); (· (intro w'; go_simp; try rfl)); (· (simp [go_sem]; try rfl)))
              (apply scr_read'; (· rfl); (· rfl); (· exact hC); (· (intro w' hw'; obtain ⟨y0, y2⟩ := hw'; go_simp; try rfl)); (· (simp [go_sem]; try rfl)))
              (apply scr_pure'; (· rfl); (· rfl); (· (intro w'; go_simp; try rfl)); (· (simp [go_sem]; try rfl)))
              (apply scr_pure'; (· rfl); (· rfl); (· (intro w'; go_simp; try rfl)); (· (simp [go_sem]; try rfl)))
              (apply scr_read'; (· rfl); (· rfl); (· exact hC); (· (intro w' hw'; obtain ⟨y0, y2⟩ := hw'; go_simp; try rfl)); (· (simp [go_sem]; try rfl)))
              (apply scr_pure'; (· rfl); (· rfl); (· (intro w'; go_simp; try rfl)); (· (simp [go_sem]; try rfl)))
              (apply scr_pure'; (· rfl); (· rfl); (· (intro w'; go_simp; try rfl)); (· (simp [go_sem]; try rfl)))
              (apply scr_pure'; (· rfl); (· rfl); (· (intro w'; go_simp; try rfl)); (· (simp [go_sem]; try rfl)))
              (apply scr_read'; (· rfl); (· rfl); (· exact hC); (· (intro w' hw'; obtain ⟨y0, y2⟩ := hw'; go_simp; try rfl)); (· (simp [go_sem]; try rfl)))
              (apply scr_read'; (· rfl); (· rfl); (· exact hC); (· (intro w' hw'; obtain ⟨y0, y2⟩ := hw'; go_simp; try rfl)); (· (simp [go_sem]; try rfl)))
              (apply scr_pure'; (· rfl); (· rfl); (· (intro w'; go_simp; try rfl)); (· (simp [go_sem]; try rfl)))
              (apply scr_pure'; (· rfl); (· rfl); (· (intro w'; go_simp; try rfl)); (· (simp [go_sem]; try rfl)))
              refine scr_one rfl rfl (fun K hK => ?_)
              go_simp
              refine hK _ _ (fun _ => hC) ?_
              clear hK
              (apply scr_pure'; (· rfl); (· rfl); (· (intro w'; go_simp; try rfl)); (· (simp [go_sem]; try rfl)))
              have hS6 := hS3.out.ext2 hE6
              refine scr_one rfl rfl (fun K hK => ?_)
              refine wp_store1 _ _ _ rfl Tryz.info9 (p := ⟨g, m + 1, none⟩) (v := .string (ks[m])) rfl rfl rfl (by rw [hE6.keep q1]; rfl) (hS6.own.frozenAt _) ?_
              obtain ⟨ho7, hg7⟩ := hS6.own.stored (m + 1) (.string (ks[m]))
              have hc8 : (World.setCell wd ⟨g, m + 1, none⟩ (.string (ks[m]))).cell? ⟨g, m, none⟩ = some (.string (ks[m])) := by
                have q2' := hE6.keep q2
                exact (World.cell?_setCell_other _ ⟨g, m + 1, none⟩ ⟨g, m, none⟩ _ (by simp)).trans q2'
              refine hK _ _ (fun _ => ⟨grown_keep hg7 hC.1 (fun h => d4'.out h.symm), hc8⟩) ?_
              clear hK
              (apply scr_pure'; (· rfl); (· rfl); (· (intro w'; go_simp; try rfl)); (· (simp [go_sem]; try rfl)))
              refine scr_one rfl rfl (fun K hK => ?_)
              refine wp_store1 _ _ _ rfl Tryz.info9 (p := ⟨g, m, none⟩) (v := .string e) rfl rfl rfl (by rw [hc8]; rfl) (ho7.frozenAt _) ?_
              obtain ⟨ho8, hg8⟩ := ho7.stored m (.string e)
              refine hK _ _ (fun h => by simp at h) ?_
              clear hK
              simp only [scr, Exit.inBlock, Exit.then]
              generalize (World.setCell wd ⟨g, m + 1, none⟩ (.string (ks[m]))).setCell ⟨g, m, none⟩ (.string e) = w8 at ho8 hg8 ⊢
              go_wp2_with fail
              go_roundw
              case rel =>
                rw [mvd_swap ks e rest m hkm] at ho8
                have hp1 := mvd_perm ks e rest (m + 1)
                have hp2 := mvd_perm ks e rest m
                refine ⟨m, by omega, rfl, Lib.hid (hS6.store (grownBy_trans2 hg7 hg8) (Nat.le_of_lt (by have := hg5'.out; have := eb5'.out; omega)) (by have := hg5'.out; omega) (fun h => d4'.out h.symm) ho8 (fun k => (hp2.trans hp1.symm).mem_iff) ((hp2.trans hp1.symm).nodup_iff.2 hS6.nodup) (hp2.trans hp1.symm).length_eq trivial), Lib.hid fun x hx => ?_⟩
                rw [List.drop_eq_getElem_cons hkm] at hx
                rcases List.mem_cons.1 hx with rfl | hx
                · assumption
                · exact hgt.out x hx
              case measure => simp [intOf]
            all_goals (
              have hs : slt e (ks[m]) = false := by assumption
              have hF := hfin'.out (.inr ⟨m, hkm, rfl, hs⟩) _ ((Ext.refl wr).drewN nq)
              go_roundw
              case rel => exact ⟨q + 1, _, by simp, by omega, by omega, hF⟩
              case measure => simp [intOf]; omega)
      · have hS2 := hS1.out
        have hri := hS2.rising
        have hLn := hS2.len
        rw [List.take_of_length_le (by omega)] at hri
        have hmO : ∀ k, k ∈ L ↔ k ∈ P.map (·.1) ∨ k ∈ Q.map (·.1) := fun k => (hS2.m k).trans (hO'.out k)
        have hz := hv'.out L hri hmO
        have hI0 := Lib.hid (hz.keep 0 [] w wr (Nat.le_refl _) hz.start (hS2.ext.mut _) (by simp))
        have hM0 : Mut w X wr := hS2.ext.mut X
        have ho0 := hS2.own
        have c5 := hS2.hb5
        have hgX : g ∉ X := fun h => by have := hX'.out g h; have := hg5'.out; have := eb5'.out; omega
        have hbX : b5 ∉ X := fun h => by have := hX'.out b5 h; have := eb5'.out; omega
        have hz' := Lib.hid hz
        have hri' := Lib.hid hri
        have hmO' := Lib.hid hmO
        have hLn' := Lib.hid hLn
        have hgX' := Lib.hid hgX
        have hbX' := Lib.hid hbX
        have hqi : ¬ (q : Int) < (n : Int) := by omega
        clear hS2 hS1 hz hri hmO hLn hgX hbX
        go_wp2_with fail
        go_loopw [94] (fun iv wr2 => ∃ k : Nat, k ≤ n ∧ iv = .int .i64 k ∧ Mut w X wr2 ∧ wr2.cell? ⟨b5, 0, none⟩ = some (.iface 362 (.map (some r1))) ∧ Own wr2 9 1 (.slice (some ⟨g, 0, none⟩) n cap') n (L.map Value.string) ∧ Hid (Inv L k wr2)) (fun iv _ => n - (intOf iv).toNat)
        case atStart => exact ⟨0, Nat.zero_le _, rfl, hM0, c5, ho0, hI0⟩
        case round =>
          clear c5 hM0 ho0 hI0 c0 hqi
          obtain ⟨k, hk, rfl, hM, c5, ho, hI⟩ := hrel
          have hM' := Lib.hid hM
          have ho' := Lib.hid ho
          clear hM ho
          by_cases hkn : k < n
          · have hki : (k : Int) < (n : Int) := by omega
            have hkL : k < L.length := by rw [hLn'.out]; exact hkn
            have q0 : wr.cell? ⟨g, k, none⟩ = some (.string (L[k])) := by
              have := ho'.out.cell k (by simpa using hkL)
              rw [Nat.zero_add] at this
              rw [this]; simp
            go_wp2_with fail
            refine getUsing_c (X := X) (h1'.out.mv (hM'.out.mv (fun _ h => h))) (hX'.out.le hM'.out.size) ⟨ab, rfl⟩ _ ?_
            intro wa va hEa hva
            have hva' := Lib.hid hva
            replace c5 := hEa.keep c5
            clear hva
            dsimp only
            go_wp2_with fail
            refine getUsing_c (X := X) (h2'.out.mv ((hM'.out.trans (hEa.mut X)).mv (fun _ h => h))) (hX'.out.le (Nat.le_trans hM'.out.size hEa.size)) ⟨ab, rfl⟩ _ ?_
            intro wb vb hEb hvb
            have hMb : Mut w X wb := hM'.out.trans ((hEa.trans hEb).mut X)
            have hMb' := Lib.hid hMb
            have hIb := Lib.hid (hz'.out.keep k [] wr wb hM'.out.size hI.out ((hEa.trans hEb).mut _) (by simp))
            have hob := Lib.hid (ho'.out.ext (hEa.trans hEb))
            have hvb' := Lib.hid hvb
            replace hva' := Lib.hid (hva'.out.mv (hEb.mv X))
            replace c5 := hEb.keep c5
            clear hvb hMb q0
            dsimp only
            go_wp2_with fail
            rw [hz'.out.enter, Oper.upon_enter]
            refine hz'.out.step k hkL wb va vb hMb'.out hIb.out hva'.out hvb'.out _ ?_
            intro wc b hMc hin hsto
            have hMw := Lib.hid (hMb'.out.trans hMc)
            have hoc := Lib.hid (Own.keep hob.out (w' := wc) (fun j hj => by cases hj; exact hMc.block g (hob.out.lt rfl) hgX'.out))
            replace c5 := ((hMc.mv (X := X) (fun _ h => h)).cell hbX'.out c5).1
            have hin' := Lib.hid hin
            have hsto' := Lib.hid hsto
            have hsh1 := hva'.out.shape
            have hsh2 := hvb'.out.shape
            clear hin hsto hMc hob hIb hMb' hva' hvb'
            dsimp only
            cases b
            · have hs := Lib.hid (hsto'.out rfl)
              rcases hsh1 with rfl | ⟨pa, rfl⟩ <;> rcases hsh2 with rfl | ⟨pb, rfl⟩ <;> (
                go_wp2_with fail
                try (refine free_c _ ?_; dsimp only; go_wp2_with fail)
                try (refine free_c _ ?_; dsimp only; go_wp2_with fail)
                exact hS'.out L wc hri'.out hmO'.out hMw.out hs.out)
            · have hi := Lib.hid (hin'.out rfl)
              rcases hsh1 with rfl | ⟨pa, rfl⟩ <;> rcases hsh2 with rfl | ⟨pb, rfl⟩ <;> (
                go_wp2_with fail
                try (refine free_c _ ?_; dsimp only; go_wp2_with fail)
                try (refine free_c _ ?_; dsimp only; go_wp2_with fail)
                go_roundw
                case rel => exact ⟨k + 1, hkn, by simp, hMw.out, c5, hoc.out, hi⟩
                case measure => simp [intOf]; omega)
          · have hki : ¬ (k : Int) < (n : Int) := by omega
            have hkn' : k = L.length := by rw [hLn'.out]; omega
            have hkn2 := Lib.hid hkn'
            clear hkn'
            go_wp2_with fail
            exact hR'.out L wr hri'.out hmO'.out hM'.out (hkn2.out ▸ hI.out)
end Go.Proofs.YtihapgangilncaaGreat

namespace Go.Proofs.YtihapgangilncaaGreat
open Go.RowKit
set_option linter.unusedSimpArgs false

set_option maxRecDepth 100000 in
theorem zipUsing_c {w : World} {X : List Nat} {r1 r2 : Nat} {al : Value} {P Q : EntsOfT T} {F : FuncId} {cap : Array Value} {Inv : List ByteArray → Nat → World → Prop} {Stop : List ByteArray → World → Prop} (h1 : IsTm w X r1 P) (h2 : IsTm w X r2 Q) (hX : Old X w) (hal : IsAl al)
    (hv : ∀ O, Rising O → (∀ k, k ∈ O ↔ k ∈ P.map (·.1) ∨ k ∈ Q.map (·.1)) → ZipV w X P Q O F cap (Inv O) (Stop O))
    (R : Ending → World → Prop) (hR : ∀ O w', Rising O → (∀ k, k ∈ O ↔ k ∈ P.map (·.1) ∨ k ∈ Q.map (·.1)) → Mut w X w' → Inv O O.length w' → R (.returned (.bool true)) w')
    (hS : ∀ O w', Rising O → (∀ k, k ∈ O ↔ k ∈ P.map (·.1) ∨ k ∈ Q.map (·.1)) → Mut w X w' → Stop O w' → R (.returned (.bool false)) w') :
    Calls Tryz.prog 281 #[.map (some r1), al, .iface 362 (.map (some r2)), .int .i64 1, .func (.func F) #[] cap] w R := by
  obtain ⟨ab, rfl⟩ := hal
  have h1' := Lib.hid h1
  have h2' := Lib.hid h2
  have hX' := Lib.hid hX
  have hv' := Lib.hid hv
  have hR' := Lib.hid hR
  have hS' := Lib.hid hS
  clear h1 h2 hX hv hR hS
  go_enter Tryz.func281, Tryz.ntmps281
  go_wp2_with fail
  go_enter Tryz.func283, Tryz.ntmps283
  go_wp2_with fail
  refine lexZip_c h1'.out h2'.out hX'.out ⟨ab, rfl⟩ hv'.out _ ?_ ?_
  · intro O w' a1 a2 a3 a4
    have hh := Lib.hid (hR'.out O w' a1 a2 a3 a4)
    clear a1 a2 a3 a4
    dsimp only
    go_wp2_with fail
    exact hh.out
  · intro O w' a1 a2 a3 a4
    have hh := Lib.hid (hS'.out O w' a1 a2 a3 a4)
    clear a1 a2 a3 a4
    dsimp only
    go_wp2_with fail
    exact hh.out

set_option maxRecDepth 100000 in
theorem mapZip_c {w : World} {X : List Nat} {r1 r2 : Nat} {al : Value} {P Q : EntsOfT T} {F : FuncId} {cap : Array Value} {Inv : List ByteArray → Nat → World → Prop} {Stop : List ByteArray → World → Prop} (h1 : IsTm w X r1 P) (h2 : IsTm w X r2 Q) (hX : Old X w) (hal : IsAl al)
    (hv : ∀ w1, Ext w w1 → ∀ O, Rising O → (∀ k, k ∈ O ↔ k ∈ P.map (·.1) ∨ k ∈ Q.map (·.1)) → ZipV w1 X P Q O F cap (Inv O) (Stop O))
    (R : Ending → World → Prop) (hR : ∀ O w', Rising O → (∀ k, k ∈ O ↔ k ∈ P.map (·.1) ∨ k ∈ Q.map (·.1)) → Mut w X w' → Inv O O.length w' → R (.returned (.bool true)) w')
    (hS : ∀ O w', Rising O → (∀ k, k ∈ O ↔ k ∈ P.map (·.1) ∨ k ∈ Q.map (·.1)) → Mut w X w' → Stop O w' → R (.returned (.bool false)) w') :
    Calls Tryz.prog 208 #[al, .iface 362 (.map (some r1)), .iface 362 (.map (some r2)), .int .i64 1, .func (.func F) #[] cap] w R := by
  obtain ⟨ab, rfl⟩ := hal
  have h1' := Lib.hid h1
  have h2' := Lib.hid h2
  have hX' := Lib.hid hX
  have hv' := Lib.hid hv
  have hR' := Lib.hid hR
  have hS' := Lib.hid hS
  clear h1 h2 hX hv hR hS
  go_enter Tryz.func208, Tryz.ntmps208
  go_wp2_with fail
  refine abs1 (G := fun wr => Calls _ _ _ wr _) ?_
  intro w1 hE1 hb1 hs1
  clear hb1 hs1
  refine zipUsing_c (h1'.out.mv (hE1.mv X)) (h2'.out.mv (hE1.mv X)) (hX'.out.le hE1.size) ⟨ab, rfl⟩ (hv'.out w1 hE1) _ ?_ ?_
  · intro O w' a1 a2 a3 a4
    have hh := Lib.hid (hR'.out O w' a1 a2 ((hE1.mut X).trans a3) a4)
    clear a1 a2 a3 a4
    dsimp only
    go_wp2_with fail
    exact hh.out
  · intro O w' a1 a2 a3 a4
    have hh := Lib.hid (hS'.out O w' a1 a2 ((hE1.mut X).trans a3) a4)
    clear a1 a2 a3 a4
    dsimp only
    go_wp2_with fail
    exact hh.out

/-- what the function that compares two maps finds at one key -/
def cmpO (j n1 n2 : Nat) (o p : Option T) : Int := if j = n1 then -1 else if j = n2 then 1 else match o, p with
  | none, _ => 1
  | some _, none => -1
  | some x, some y => cmpT x y

set_option maxRecDepth 100000 in
set_option maxHeartbeats 2000000 in
theorem cmpFn_c {w : World} {X : List Nat} {bi bl bc br ba j n1 n2 : Nat} {al va vb : Value} {k : ByteArray} {o p : Option T} {ρ : Int} (hρ : cmpO j n1 n2 o p = ρ) (hal : IsAl al) (hbi : w.heap[bi]? = some (.cells #[.int .i64 j] 3 (0, 0))) (hbc : w.heap[bc]? = some (.cells #[.int .i64 0] 3 (0, 0)))
    (cl : w.cell? ⟨bl, 0, none⟩ = some (.int .i64 n1)) (cr : w.cell? ⟨br, 0, none⟩ = some (.int .i64 n2)) (ca : w.cell? ⟨ba, 0, none⟩ = some al) (hic : bi ≠ bc) (hlc : bl ≠ bc) (hrc : br ≠ bc) (hj : (j : Int) + 1 ≤ 9223372036854775807)
    (ho : OptVal w X va o) (hp : OptVal w X vb p) (ih : ∀ y, p = some y → CmC y)
    (K : Ending → World → Prop) (hK : ∀ w2, Mut w [bc, bi] w2 → w2.heap[bi]? = some (.cells #[.int .i64 ((j + 1 : Nat) : Int)] 3 (0, 0)) → w2.heap[bc]? = some (.cells #[.int .i64 ρ] 3 (0, 0)) → K (.returned (.bool (decide (ρ = 0)))) w2) :
    Calls Tryz.prog 209 #[.string k, va, vb, .pointer (some ⟨bi, 0, none⟩), .pointer (some ⟨bl, 0, none⟩), .pointer (some ⟨bc, 0, none⟩), .pointer (some ⟨br, 0, none⟩), .pointer (some ⟨ba, 0, none⟩)] w K := by
  have ci : w.cell? ⟨bi, 0, none⟩ = some (.int .i64 j) := cells_of hbi 0
  have hbi' := Lib.hid hbi
  have hbc' := Lib.hid hbc
  have hK' := Lib.hid hK
  have ho' := Lib.hid ho
  have hp' := Lib.hid hp
  have ih' := Lib.hid ih
  have hρ' := Lib.hid hρ
  clear hbi hbc hK ho hp ih hρ
  by_cases e1 : j = n1
  · have hd : ((j : Int) == (n1 : Int)) = true := by simp [e1]
    have hρ2 : ρ = -1 := by rw [← hρ'.out]; simp [cmpO, e1]
    subst hρ2
    clear e1
    go_enter Tryz.func209, Tryz.ntmps209
    go_wp2_with (first
      | (refine wpL_storeC rfl 3 _ _ rfl Tryz.info3 (v := .int .i64 (-1)) (new := #[.int .i64 (-1)]) rfl rfl rfl hbc'.out (by simp) rfl ?_; intro w3 h3 g3; replace ci := grown_keep g3 ci hic; have hbi3 := Lib.hid ((g3.block bi (Array.getElem?_eq_some_iff.1 hbi'.out).1 (fun e => hic (by cases e; rfl))).trans hbi'.out); have h3' := Lib.hid h3; clear h3)
      | (refine wpL_storeC rfl 3 _ _ rfl Tryz.info3 (v := .int .i64 ((j : Int) + 1)) (new := #[.int .i64 ((j : Int) + 1)]) rfl rfl rfl hbi3.out (by simp) rfl ?_; intro w4 h4 g4; have cc4 : w4.cell? ⟨bc, 0, none⟩ = some (.int .i64 (-1)) := grown_keep g4 (cells_of h3'.out 0) (Ne.symm hic)))
    exact hK'.out w4 ((grown_mut g3 (by simp)).trans (grown_mut g4 (by simp))) h4 ((g4.block bc (Array.getElem?_eq_some_iff.1 h3'.out).1 (fun e => hic (by cases e; rfl))).trans h3'.out)
  have hd : ((j : Int) == (n1 : Int)) = false := by simp; omega
  by_cases e2 : j = n2
  · have hd2 : ((j : Int) == (n2 : Int)) = true := by simp [e2]
    have hρ2 : ρ = 1 := by rw [← hρ'.out]; simp only [cmpO]; rw [if_neg e1, if_pos e2]
    subst hρ2
    clear e1 e2
    go_enter Tryz.func209, Tryz.ntmps209
    go_wp2_with (first
      | (refine wpL_storeC rfl 3 _ _ rfl Tryz.info3 (v := .int .i64 (1)) (new := #[.int .i64 (1)]) rfl rfl rfl hbc'.out (by simp) rfl ?_; intro w3 h3 g3; replace ci := grown_keep g3 ci hic; have hbi3 := Lib.hid ((g3.block bi (Array.getElem?_eq_some_iff.1 hbi'.out).1 (fun e => hic (by cases e; rfl))).trans hbi'.out); have h3' := Lib.hid h3; clear h3)
      | (refine wpL_storeC rfl 3 _ _ rfl Tryz.info3 (v := .int .i64 ((j : Int) + 1)) (new := #[.int .i64 ((j : Int) + 1)]) rfl rfl rfl hbi3.out (by simp) rfl ?_; intro w4 h4 g4; have cc4 : w4.cell? ⟨bc, 0, none⟩ = some (.int .i64 (1)) := grown_keep g4 (cells_of h3'.out 0) (Ne.symm hic)))
    exact hK'.out w4 ((grown_mut g3 (by simp)).trans (grown_mut g4 (by simp))) h4 ((g4.block bc (Array.getElem?_eq_some_iff.1 h3'.out).1 (fun e => hic (by cases e; rfl))).trans h3'.out)
  have hd2 : ((j : Int) == (n2 : Int)) = false := by simp; omega
  cases o with
  | none =>
    have hva : va = .nilIface := ho'.out
    subst hva
    have hρ2 : ρ = 1 := by rw [← hρ'.out]; simp only [cmpO]; rw [if_neg e1, if_neg e2]
    subst hρ2
    clear e1 e2
    go_enter Tryz.func209, Tryz.ntmps209
    go_wp2_with (first
      | (refine wpL_storeC rfl 3 _ _ rfl Tryz.info3 (v := .int .i64 (1)) (new := #[.int .i64 (1)]) rfl rfl rfl hbc'.out (by simp) rfl ?_; intro w3 h3 g3; replace ci := grown_keep g3 ci hic; have hbi3 := Lib.hid ((g3.block bi (Array.getElem?_eq_some_iff.1 hbi'.out).1 (fun e => hic (by cases e; rfl))).trans hbi'.out); have h3' := Lib.hid h3; clear h3)
      | (refine wpL_storeC rfl 3 _ _ rfl Tryz.info3 (v := .int .i64 ((j : Int) + 1)) (new := #[.int .i64 ((j : Int) + 1)]) rfl rfl rfl hbi3.out (by simp) rfl ?_; intro w4 h4 g4; have cc4 : w4.cell? ⟨bc, 0, none⟩ = some (.int .i64 (1)) := grown_keep g4 (cells_of h3'.out 0) (Ne.symm hic)))
    exact hK'.out w4 ((grown_mut g3 (by simp)).trans (grown_mut g4 (by simp))) h4 ((g4.block bc (Array.getElem?_eq_some_iff.1 h3'.out).1 (fun e => hic (by cases e; rfl))).trans h3'.out)
  | some x =>
    obtain ⟨pa, xa, rfl, -⟩ := IsVal.ex ho'.out
    cases p with
    | none =>
      have hvb : vb = .nilIface := hp'.out
      subst hvb
      have hρ2 : ρ = -1 := by rw [← hρ'.out]; simp only [cmpO]; rw [if_neg e1, if_neg e2]
      subst hρ2
      clear e1 e2
      go_enter Tryz.func209, Tryz.ntmps209
      go_wp2_with (first
        | (refine wpL_storeC rfl 3 _ _ rfl Tryz.info3 (v := .int .i64 (-1)) (new := #[.int .i64 (-1)]) rfl rfl rfl hbc'.out (by simp) rfl ?_; intro w3 h3 g3; replace ci := grown_keep g3 ci hic; have hbi3 := Lib.hid ((g3.block bi (Array.getElem?_eq_some_iff.1 hbi'.out).1 (fun e => hic (by cases e; rfl))).trans hbi'.out); have h3' := Lib.hid h3; clear h3)
        | (refine wpL_storeC rfl 3 _ _ rfl Tryz.info3 (v := .int .i64 ((j : Int) + 1)) (new := #[.int .i64 ((j : Int) + 1)]) rfl rfl rfl hbi3.out (by simp) rfl ?_; intro w4 h4 g4; have cc4 : w4.cell? ⟨bc, 0, none⟩ = some (.int .i64 (-1)) := grown_keep g4 (cells_of h3'.out 0) (Ne.symm hic)))
      exact hK'.out w4 ((grown_mut g3 (by simp)).trans (grown_mut g4 (by simp))) h4 ((g4.block bc (Array.getElem?_eq_some_iff.1 h3'.out).1 (fun e => hic (by cases e; rfl))).trans h3'.out)
    | some y =>
      obtain ⟨pb, xb, rfl, -⟩ := IsVal.ex hp'.out
      have hρ2 : ρ = cmpT x y := by rw [← hρ'.out]; simp only [cmpO]; rw [if_neg e1, if_neg e2]
      subst hρ2
      clear e1 e2
      go_enter Tryz.func209, Tryz.ntmps209
      go_wp2_with fail
      refine (ih'.out y rfl) w X X x _ _ _ ho'.out hp'.out hal _ ?_
      intro w2 hE2
      replace ci := hE2.keep ci
      have hbi2 := Lib.hid ((hE2.below.block _ (Array.getElem?_eq_some_iff.1 hbi'.out).1).trans hbi'.out)
      have hbc2 := Lib.hid ((hE2.below.block _ (Array.getElem?_eq_some_iff.1 hbc'.out).1).trans hbc'.out)
      obtain ⟨v, hv⟩ : ∃ v, cmpT x y = v := ⟨_, rfl⟩
      rw [hv] at hK' ⊢
      clear hv hρ'
      dsimp only
      go_wp2_with (first
        | (refine wpL_storeC rfl 3 _ _ rfl Tryz.info3 (v := .int .i64 (v)) (new := #[.int .i64 (v)]) rfl rfl rfl hbc2.out (by simp) rfl ?_; intro w3 h3 g3; replace ci := grown_keep g3 ci hic; have hbi3 := Lib.hid ((g3.block bi (Array.getElem?_eq_some_iff.1 hbi2.out).1 (fun e => hic (by cases e; rfl))).trans hbi2.out); have h3' := Lib.hid h3; clear h3)
        | (refine wpL_storeC rfl 3 _ _ rfl Tryz.info3 (v := .int .i64 ((j : Int) + 1)) (new := #[.int .i64 ((j : Int) + 1)]) rfl rfl rfl hbi3.out (by simp) rfl ?_; intro w4 h4 g4; have cc4 : w4.cell? ⟨bc, 0, none⟩ = some (.int .i64 (v)) := grown_keep g4 (cells_of h3'.out 0) (Ne.symm hic)))
      exact hK'.out w4 ((hE2.mut _).trans ((grown_mut g3 (by simp)).trans (grown_mut g4 (by simp)))) h4 ((g4.block bc (Array.getElem?_eq_some_iff.1 h3'.out).1 (fun e => hic (by cases e; rfl))).trans h3'.out)

theorem sort_len {α : Type} {P : EntsOfT α} (h : (P.map (·.1)).Nodup) : (insAll [] P).length = P.length := by
  have hr : Rising ((insAll [] P).map (·.1)) := insAll_rising P trivial
  have hm : ∀ k, k ∈ (insAll [] P).map (·.1) ↔ k ∈ P.map (·.1) := fun k => by rw [sort_keys, putAll_self h]
  apply Nat.le_antisymm
  · simpa using nodup_le (G := P.map (·.1)) hr.nodup (fun k hk => (hm k).1 hk)
  · simpa using nodup_le (G := (insAll [] P).map (·.1)) h (fun k hk => (hm k).2 hk)
theorem sort_get {α : Type} {P : EntsOfT α} (h : (P.map (·.1)).Nodup) (k : ByteArray) : lookK k (insAll [] P) = getEnt k P := by
  rw [lookK_insAll, putAll_self h, getEnt_lookK]

set_option maxRecDepth 100000 in
theorem callFunc_cmp (args : Array Value) (w : World) : (callFunc 209 args).run Tryz.prog w = .ok (.enter 209 args) w := rfl

theorem cmp_visit {w : World} {bi bl bc br ba : Nat} {al : Value} {P Q : EntsOfT T} {O : List ByteArray} (hO : Rising O) (hm : ∀ k, k ∈ O ↔ k ∈ P.map (·.1) ∨ k ∈ Q.map (·.1)) (hP : (P.map (·.1)).Nodup) (hQ : (Q.map (·.1)).Nodup) (hb : P.length * 88 ≤ 140737488351232)
    (hal : IsAl al) (hbi : w.heap[bi]? = some (.cells #[.int .i64 0] 3 (0, 0))) (hbc : w.heap[bc]? = some (.cells #[.int .i64 0] 3 (0, 0)))
    (cl : w.cell? ⟨bl, 0, none⟩ = some (.int .i64 P.length)) (cr : w.cell? ⟨br, 0, none⟩ = some (.int .i64 Q.length)) (ca : w.cell? ⟨ba, 0, none⟩ = some al)
    (hic : bi ≠ bc) (hl : bl ∉ [bc, bi]) (hr : br ∉ [bc, bi]) (ha : ba ∉ [bc, bi]) (ih : ∀ i (h : i < Q.length), CmC (Q[i]).2) :
    ZipV w [bc, bi] P Q O 209 #[.pointer (some ⟨bi, 0, none⟩), .pointer (some ⟨bl, 0, none⟩), .pointer (some ⟨bc, 0, none⟩), .pointer (some ⟨br, 0, none⟩), .pointer (some ⟨ba, 0, none⟩)]
      (fun j w1 => w1.heap[bi]? = some (.cells #[.int .i64 j] 3 (0, 0)) ∧ w1.heap[bc]? = some (.cells #[.int .i64 0] 3 (0, 0)) ∧ ZInv cmpT O (insAll [] P) (insAll [] Q) j)
      (fun w1 => w1.heap[bc]? = some (.cells #[.int .i64 (cmpE cmpT (insAll [] P) (insAll [] Q))] 3 (0, 0))) where
  start := ⟨by simpa using hbi, hbc, ZInv.zero⟩
  keep := fun j B w1 w2 hs ⟨h1, h2, h3⟩ hM hB => by
    have e1 : bi < w.heap.size := (Array.getElem?_eq_some_iff.1 hbi).1
    have e2 : bc < w.heap.size := (Array.getElem?_eq_some_iff.1 hbc).1
    exact ⟨(hM.block bi (by omega) (fun h => by have := hB _ h; omega)).trans h1, (hM.block bc (by omega) (fun h => by have := hB _ h; omega)).trans h2, h3⟩
  step := fun j hj w1 va vb hM ⟨h1, h2, h3⟩ hva hvb K hK => by
    have z := zok_maps hO hm hP hQ
    have hmv := hM.mv (X := [bc, bi]) (fun _ h => h)
    have hjP : j ≤ P.length := by have := h3.lP; rw [sort_len hP] at this; exact this
    simp only [List.mem_cons, List.not_mem_nil, or_false, not_or] at hl hr ha
    refine cmpFn_c (o := getEnt O[j] P) (p := getEnt O[j] Q) (n1 := P.length) (n2 := Q.length) rfl hal h1 h2 (hmv.cell (by simp [hl]) cl).1 (hmv.cell (by simp [hr]) cr).1 (hmv.cell (by simp [ha]) ca).1 hic hl.1 hr.1 (by omega) hva hvb ?_ K ?_
    · intro y hy
      rw [getEnt_lookK] at hy
      obtain ⟨i, hi, e⟩ := List.getElem_of_mem (lookK_mem hy)
      have := ih i hi
      rw [e] at this
      exact this
    · intro w2 hM2 hbi2 hbc2
      refine hK w2 _ hM2 (fun hb => ?_) (fun hb => ?_)
      · have h0 : cmpO j P.length Q.length (getEnt O[j] P) (getEnt O[j] Q) = 0 := of_decide_eq_true hb
        rw [h0] at hbc2
        refine ⟨hbi2, hbc2, ?_⟩
        rcases h3.step z hj with ⟨e, -⟩ | ⟨e1, e, -⟩ | ⟨e1, e2, hh⟩
        · rw [sort_len hP] at e; simp [cmpO, e] at h0
        · rw [sort_len hP] at e1; rw [sort_len hQ] at e
          simp only [cmpO] at h0; rw [if_neg (by omega), if_pos e] at h0; cases h0
        · rw [sort_len hP] at e1; rw [sort_len hQ] at e2
          simp only [cmpO] at h0; rw [if_neg (by omega), if_neg (by omega)] at h0
          rw [sort_get hP, sort_get hQ] at hh
          rcases hh with ⟨g1, -⟩ | ⟨g1, g2, -⟩ | ⟨x, y, g1, g2, -, g3⟩
          · rw [g1] at h0; cases h0
          · cases hg : getEnt O[j] P with
            | none => exact absurd hg g1
            | some x => rw [hg, g2] at h0; cases h0
          · rw [g1, g2] at h0; exact g3 h0
      · have h0 : ¬ cmpO j P.length Q.length (getEnt O[j] P) (getEnt O[j] Q) = 0 := of_decide_eq_false hb
        have : cmpE cmpT (insAll [] P) (insAll [] Q) = cmpO j P.length Q.length (getEnt O[j] P) (getEnt O[j] Q) := by
          rcases h3.step z hj with ⟨e, g⟩ | ⟨e1, e, g⟩ | ⟨e1, e2, hh⟩
          · rw [g]; rw [sort_len hP] at e; simp [cmpO, e]
          · rw [g]; rw [sort_len hP] at e1; rw [sort_len hQ] at e
            simp only [cmpO]; rw [if_neg (by omega), if_pos e]
          · rw [sort_len hP] at e1; rw [sort_len hQ] at e2
            simp only [cmpO] at h0 ⊢; rw [if_neg (by omega), if_neg (by omega)] at h0 ⊢
            rw [sort_get hP, sort_get hQ] at hh
            rcases hh with ⟨g1, g⟩ | ⟨g1, g2, g⟩ | ⟨x, y, g1, g2, g3, -⟩
            · rw [g, g1]
            · cases hg : getEnt O[j] P with
              | none => exact absurd hg g1
              | some x => rw [g, g2]
            · rw [g1, g2] at h0 ⊢; exact g3 h0
        rw [this]
        exact hbc2
  enter := callFunc_cmp

set_option maxRecDepth 100000 in
set_option maxHeartbeats 4000000 in
set_option pp.maxSteps 1000000 in
set_option pp.deepTerms true in
theorem mapCompare_c {w : World} {r1 r2 : Nat} {al : Value} {P Q : EntsOfT T} (ih : ∀ i (h : i < Q.length), CmC (Q[i]).2) (hal : IsAl al) (h1 : IsTm w [] r1 P) (h2 : IsTm w [] r2 Q)
    (R : Ending → World → Prop) (hR : Ends R w (.int .i64 (cmpE cmpT (insAll [] P) (insAll [] Q)))) :
    Calls Tryz.prog 199 #[al, .iface 362 (.map (some r1)), .iface 362 (.map (some r2))] w R := by
  have hmf : ∀ (fn : Fn) (first cap : Array Value) (w : World), (Instr.makeFunc fn first cap).run Tryz.prog w = .ok (.func fn first cap) w := fun _ _ _ _ => rfl
  obtain ⟨ab, rfl⟩ := hal
  obtain ⟨us1, hu1, hl1⟩ := h1.len
  obtain ⟨us2, hu2, hl2⟩ := h2.len
  obtain ⟨n1, hn1⟩ : ∃ n, us1.length = n := ⟨_, rfl⟩
  obtain ⟨n2, hn2⟩ : ∃ n, us2.length = n := ⟨_, rfl⟩
  have e1 : P.length = n1 := by rw [← hl1, hn1]
  have e2 : Q.length = n2 := by rw [← hl2, hn2]
  have h1' := Lib.hid h1
  have h2' := Lib.hid h2
  have ih' := Lib.hid ih
  have hR' := Lib.hid hR
  have hn1' := Lib.hid hn1
  have hn2' := Lib.hid hn2
  have hu1' := Lib.hid hu1
  have hu2' := Lib.hid hu2
  have e1' := Lib.hid e1
  have e2' := Lib.hid e2
  clear h1 h2 ih hR hn1 hn2 hu1 hu2 hl1 hl2 e1 e2
  go_enter Tryz.func199, Tryz.ntmps199
  go_wp2_with (first
    | (refine wpL_init1 rfl 3 _ _ rfl Tryz.info3 (v := .int .i64 0) (c' := #[.int .i64 0]) rfl (by simp) rfl rfl (by simp) rfl ?_; refine abs2 (G := fun wr => wpList _ _ _ _ _ wr) ?_; intro w1 hE1 hb1 hb2 hs1))
  have hs1' := Lib.hid hs1
  clear hs1
  refine abs2 (G := fun wr => Calls _ _ _ wr _) ?_
  intro w2 hE2 hb3 hb4 hs2
  have hs2' := Lib.hid hs2
  clear hs2
  have hE12 := hE1.trans hE2
  replace hb1 := (hE2.below.block _ (Array.getElem?_eq_some_iff.1 hb1).1).trans hb1
  replace hb2 := (hE2.below.block _ (Array.getElem?_eq_some_iff.1 hb2).1).trans hb2
  have z1 : w1.heap.size = w.heap.size + 2 := hs1'.out
  rw [z1] at hb3 hb4
  obtain ⟨ba, eba⟩ : ∃ b, w.heap.size = b := ⟨_, rfl⟩
  obtain ⟨bc, ebc⟩ : ∃ b, ba + 1 = b := ⟨_, rfl⟩
  obtain ⟨bl, ebl⟩ : ∃ b, ba + 2 = b := ⟨_, rfl⟩
  obtain ⟨br, ebr⟩ : ∃ b, bl + 1 = b := ⟨_, rfl⟩
  rw [eba, ebc] at hb2
  rw [eba] at hb1
  rw [eba, ebl] at hb3
  rw [eba, ebl, ebr] at hb4
  rw [eba, ebc, ebl, ebr]
  have hn : ba ≠ bc ∧ ba ≠ bl ∧ ba ≠ br ∧ bc ≠ bl ∧ bc ≠ br ∧ bl ≠ br := by omega
  have hge : w.heap.size ≤ ba ∧ w.heap.size ≤ bc ∧ w.heap.size ≤ bl ∧ w.heap.size ≤ br := by omega
  have hn' := Lib.hid hn
  have hge' := Lib.hid hge
  clear z1 hn hge eba ebc ebl ebr hs1' hs2' hE1 hE2
  refine mLength_c (hu1'.out.ext hE12) _ ?_
  rw [hn1'.out]
  dsimp only
  go_wp2_with (first
    | (refine wpL_storeC rfl 3 _ _ rfl Tryz.info3 (v := .int .i64 n1) (new := #[.int .i64 n1]) rfl rfl rfl hb3 (by simp) rfl ?_; intro w3 h3 g3))
  have hE3 : Ext w w3 := hE12.grown g3 (fun k hk => by cases hk; exact hge'.out.2.2.1)
  replace hb1 := (g3.block ba (Array.getElem?_eq_some_iff.1 hb1).1 (fun e => hn'.out.2.1 (by cases e; rfl))).trans hb1
  replace hb2 := (g3.block bc (Array.getElem?_eq_some_iff.1 hb2).1 (fun e => hn'.out.2.2.2.1 (by cases e; rfl))).trans hb2
  replace hb4 := (g3.block br (Array.getElem?_eq_some_iff.1 hb4).1 (fun e => hn'.out.2.2.2.2.2 (by cases e; rfl))).trans hb4
  clear hb3 g3 hE12
  refine mLength_c (hu2'.out.ext hE3) _ ?_
  rw [hn2'.out]
  dsimp only
  go_upto_region 7 with (first
    | (refine wpL_storeC rfl 3 _ _ rfl Tryz.info3 (v := .int .i64 n2) (new := #[.int .i64 n2]) rfl rfl rfl hb4 (by simp) rfl ?_; intro w4 h4 g4))
  have hE4 : Ext w w4 := hE3.grown g4 (fun k hk => by cases hk; exact hge'.out.2.2.2)
  replace hb1 := (g4.block ba (Array.getElem?_eq_some_iff.1 hb1).1 (fun e => hn'.out.2.2.1 (by cases e; rfl))).trans hb1
  replace hb2 := (g4.block bc (Array.getElem?_eq_some_iff.1 hb2).1 (fun e => hn'.out.2.2.2.2.1 (by cases e; rfl))).trans hb2
  replace h3 := (g4.block bl (Array.getElem?_eq_some_iff.1 h3).1 (fun e => hn'.out.2.2.2.2.2 (by cases e; rfl))).trans h3
  clear hb4 g4 hE3
  have cl : w4.cell? ⟨bl, 0, none⟩ = some (.int .i64 n1) := cells_of h3 0
  have cr : w4.cell? ⟨br, 0, none⟩ = some (.int .i64 n2) := cells_of h4 0
  have ca : w4.cell? ⟨ba, 0, none⟩ = some (.iface 258 (.pointer (some ⟨ab, 0, none⟩))) := cells_of hb1 0
  have hlt' := Lib.hid (show bl < w4.heap.size ∧ br < w4.heap.size ∧ ba < w4.heap.size from ⟨(Array.getElem?_eq_some_iff.1 h3).1, (Array.getElem?_eq_some_iff.1 h4).1, (Array.getElem?_eq_some_iff.1 hb1).1⟩)
  clear hb1 h3 h4
  have hz1 : ((n1 : Int) == 0) = decide (n1 = 0) := by rw [Bool.eq_iff_iff]; simp
  have hz2 : ((n2 : Int) == 0) = decide (n2 = 0) := by rw [Bool.eq_iff_iff]; simp
  simp only [go_sem]
  go_cut [24] from 19 (fun b wc => b = .bool (decide (n1 = 0 ∧ n2 = 0)) ∧ w4 = wc)
  case first =>
    by_cases hn0 : n1 = 0
    · go_wp2_with fail
      go_meet
      case rel => exact ⟨by simp [hn0], rfl⟩
    · go_wp2_with fail
      go_meet
      case rel => exact ⟨by simp [hn0], rfl⟩
  obtain ⟨rfl, ew⟩ := hcut
  subst ew
  clear hz1 hz2
  by_cases hz : n1 = 0 ∧ n2 = 0
  · have hP : P = [] := List.eq_nil_of_length_eq_zero (e1'.out.trans hz.1)
    have hQ : Q = [] := List.eq_nil_of_length_eq_zero (e2'.out.trans hz.2)
    have hc : cmpE cmpT (insAll [] P) (insAll [] Q) = 0 := by rw [hP, hQ]; rfl
    have hc' := Lib.hid hc
    clear hc hP hQ
    go_wp2_with fail
    exact hR'.out.int hc'.out _ hE4
  · go_wp2_with (first
      | (refine wpL_init1 rfl 3 _ _ rfl Tryz.info3 (v := .int .i64 0) (c' := #[.int .i64 0]) rfl (by simp) rfl rfl (by simp) rfl ?_; refine abs1 (G := fun wr => wpList _ _ _ _ _ wr) ?_; intro w5 hE5 hb5 hs5; replace ca := hE5.keep ca))
    have hb25 := (hE5.below.block _ (Array.getElem?_eq_some_iff.1 hb2).1).trans hb2
    replace cl := hE5.keep cl
    replace cr := hE5.keep cr
    rw [← e1'.out] at cl
    rw [← e2'.out] at cr
    have hE45 := hE4.trans hE5
    have hs4 := hE4.size
    have hbc4 : bc < w4.heap.size := (Array.getElem?_eq_some_iff.1 hb2).1
    have hbl4 : bl < w4.heap.size ∧ br < w4.heap.size ∧ ba < w4.heap.size := hlt'.out
    have hmv : Mv w [] w5 [bc, w4.heap.size] := by
      have := (hE45.mv []).moreL (Z := [bc, w4.heap.size]) (by have := hge'.out; simp; omega)
      simpa using this
    have hold : Old [bc, w4.heap.size] w5 := Old.cons (by omega) (Old.cons (by omega) (Old.nil _))
    have hE45' := Lib.hid hE45
    have hmv' := Lib.hid hmv
    have hold' := Lib.hid hold
    have hb25' := Lib.hid hb25
    have hb5' := Lib.hid hb5
    have hbc4' := Lib.hid hbc4
    have hbl4' := Lib.hid hbl4
    have hs4' := Lib.hid hs4
    have hz' := Lib.hid hz
    clear hb2 hE5 hs5 hE4 hE45 hmv hold hb25 hb5 hbc4 hbl4 hs4 hz hlt'
    refine mapZip_c (X := [bc, w4.heap.size]) (P := P) (Q := Q) (h1'.out.mv hmv'.out) (h2'.out.mv hmv'.out) hold'.out ⟨ab, rfl⟩
      (fun w6 hE6 O hO hm => cmp_visit hO hm h1'.out.nodup h2'.out.nodup h1'.out.bound ⟨ab, rfl⟩ ((hE6.below.block _ (Array.getElem?_eq_some_iff.1 hb5'.out).1).trans hb5'.out) ((hE6.below.block _ (Array.getElem?_eq_some_iff.1 hb25'.out).1).trans hb25'.out)
        (hE6.keep cl) (hE6.keep cr) (hE6.keep ca) (by have := hbc4'.out; omega) (by have := hn'.out; have := hbl4'.out; simp; omega) (by have := hn'.out; have := hbl4'.out; simp; omega) (by have := hn'.out; have := hbl4'.out; simp; omega) ih'.out) _ ?_ ?_
    · intro O w' a1 a2 a3 ⟨a4, a5, a6⟩
      have hc := Lib.hid (a6.last (zok_maps a1 a2 h1'.out.nodup h2'.out.nodup) (Nat.le_refl _))
      have hE := hE45'.out.mutated a3 (by have := hge'.out; have := hs4'.out; simp; omega)
      have cc : w'.cell? ⟨bc, 0, none⟩ = some (.int .i64 0) := cells_of a5 0
      clear a1 a2 a3 a4 a5 a6
      dsimp only
      go_wp2_with fail
      exact hR'.out.int hc.out _ hE
    · intro O w' a1 a2 a3 a4
      have hE := hE45'.out.mutated a3 (by have := hge'.out; have := hs4'.out; simp; omega)
      obtain ⟨v, hv⟩ : ∃ v, cmpE cmpT (insAll [] P) (insAll [] Q) = v := ⟨_, rfl⟩
      rw [hv] at a4
      have cc : w'.cell? ⟨bc, 0, none⟩ = some (.int .i64 v) := cells_of a4 0
      have hv' := Lib.hid hv
      clear a1 a2 a3 a4 hv
      dsimp only
      go_wp2_with fail
      exact hR'.out.int hv'.out _ hE
end Go.Proofs.YtihapgangilncaaGreat
