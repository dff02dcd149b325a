/- strings.Compare and value.ListCompareUsing. (printed by gen_cmpm.py) -/
import Derived.Test.YtamcgcncghabhaaCmpF
namespace Go.Proofs.Ytamcgcncghabhaa
open Go.RowKit
set_option linter.unusedSimpArgs false

def CmC (b : T) : Prop := ∀ (w : World) (X Y : List Nat) (a : T) (va vb al : Value), IsVal w X va a → IsVal w Y vb b → IsAl al → ∀ R : Ending → World → Prop, Ends R w (.int .i64 (cmpT a b)) →
  Calls Try.prog 72 #[al, va, vb] w R

theorem cmpB_compare : ∀ a b : List UInt8, Lib.compareBytes a b = cmpB a b
  | [], [] => rfl
  | [], _ :: _ => rfl
  | _ :: _, [] => rfl
  | a :: xs, b :: bs => by
    simp only [Lib.compareBytes, cmpB, cmpB_compare xs bs, cmpI]
    by_cases h : a = b
    · subst h; simp [UInt8.lt_irrefl]
    · simp only [if_neg h, UInt8.lt_iff_toNat_lt, Int.ofNat_lt]
      have : a.toNat ≠ b.toNat := fun e => h (UInt8.toNat_inj.1 e)
      by_cases h1 : a.toNat < b.toNat
      · simp [h1]
      · have h2 : b.toNat < a.toNat := by omega
        simp [h1, h2]

def strRen : Go.Shelf.Ren := ⟨fun n => match n with | 106 => 88 | 213 => 98 | 265 => 99 | _ => 0, fun n => match n with | 3 => 3 | 9 => 9 | _ => 0, fun n => n⟩
set_option maxRecDepth 100000 in
theorem strLays : Lays.n106 Try.prog strRen where
  mixed := by kernel_rfl
  f106 := by kernel_rfl
  f213 := by kernel_rfl
  f265 := by kernel_rfl
  t3 := by kernel_rfl
  a3 := fun _ => by kernel_rfl
  z3 := fun _ => by kernel_rfl
  v3 := fun _ => by kernel_rfl
  t9 := by kernel_rfl
  a9 := fun _ => by kernel_rfl
  z9 := fun _ => by kernel_rfl
  v9 := fun _ => by kernel_rfl
theorem stringsCompare_c {w : World} {a b : ByteArray} (R : Ending → World → Prop) (hR : R (.returned (.int .i64 (cmpS a b))) w) : Calls Try.prog 88 #[.string a, .string b] w R := by
  refine Calls.mono (Any.strings_Compare strLays a b w) ?_
  rintro e w' ⟨rfl, rfl⟩
  rw [cmpB_compare]
  exact hR

set_option maxRecDepth 100000 in
set_option maxHeartbeats 4000000 in
set_option pp.maxSteps 1000000 in
set_option pp.deepTerms true in
theorem listCompare_c {w : World} {s1 s2 al : Value} {ms ls : List T} (ih : ∀ i (h : i < ls.length), CmC ls[i]) (h1 : IsTs w [] s1 ms) (h2 : IsTs w [] s2 ls) (hal : IsAl al)
    (R : Ending → World → Prop) (hR : Ends R w (.int .i64 (cmpTs ms ls))) :
    Calls Try.prog 93 #[al, .iface 177 s1, .iface 177 s2] w R := by
  obtain ⟨ab, rfl⟩ := hal
  obtain ⟨b1, f1, k1, rfl, l1, -⟩ := id h1.ex
  obtain ⟨b2, f2, k2, rfl, l2, -⟩ := id h2.ex
  have h1' := Lib.hid h1
  have h2' := Lib.hid h2
  have hR' := Lib.hid hR
  have ih' := Lib.hid ih
  clear hR h1 h2 ih l1 l2
  go_enter_defers Try.func93, Try.ntmps93
  go_wp2_with fail
  refine rangeUsing_c h1'.out (Old.nil _) _ ?_
  intro w1 v1 B1 hE1 hr1 hB1
  have hr1' := Lib.hid hr1
  have hB1' := Lib.hid hB1
  clear hr1 hB1
  dsimp only
  go_wp2_with fail
  refine rangeUsing_c (X := B1) (h2'.out.mv (by simpa using (hE1.mv []).moreL hB1'.out)) hr1'.out.old _ ?_
  intro w2 v2 B2 hE2 hr2 hB2
  have hr1b : IsRange w2 B2 v1 ms 0 B1 := hr1'.out.mv (by simpa using (hE2.mv []).moreL hB2)
  have hr2' := Lib.hid hr2
  have hr1b' := Lib.hid hr1b
  have hB2' := Lib.hid hB2
  have hE := hE1.trans hE2
  clear hr2 hB2 hr1b hr1'
  dsimp only
  have r1 := hr1b'.out
  have r2 := hr2'.out
  cases r1 with
  | empty e1 e2 =>
    cases r2 with
    | empty e3 e4 =>
      have hd : cmpTs [] [] = 0 := rfl
      go_wp2_with fail
      go_loopw [11] (fun i wr => i = undef ∧ Ext w wr) (fun _ _ => 0)
      case atStart => exact ⟨rfl, hE⟩
      case round =>
        obtain ⟨rfl, hEr⟩ := hrel
        go_wp2_with fail
        refine emptyNext_c _ ?_
        dsimp only
        go_wp2_with fail
        refine emptyNext_c _ ?_
        dsimp only
        go_wp2_with fail
        refine leaves_free (by simp [results, Try.results93, go_sem]; try rfl) (hR'.out.int (hd) _ hEr) _ (by simp [freeD])
    | @list rc ic _ sv2 x2 _ q1 q2 hne2 qx1 qx2 q3 =>
      have q1' := Lib.hid q1
      have q2' := Lib.hid q2
      have q3' := Lib.hid q3
      clear q1 q2 q3
      go_wp2_with fail
      go_loopw [11] (fun i wr => i = undef ∧ wr = w2) (fun _ _ => 0)
      case atStart => exact ⟨rfl, rfl⟩
      case round =>
        obtain ⟨rfl, rfl⟩ := hrel
        go_wp2_with fail
        refine emptyNext_c _ ?_
        dsimp only
        go_wp2_with fail
        refine rangeNext_c q1'.out q2'.out hne2 qx1 qx2 q3'.out (Nat.zero_le _) _ ?_
        intro w3 hM hr3
        clear hr3
        have hE3 := hE.mutated hM (fun k hk => Nat.le_trans hE1.size (hB2'.out k hk))
        cases ls with
        | nil =>
          have hd : cmpTs [] [] = 0 := rfl
          rw [show decide (0 < ([] : List T).length) = false from rfl]
          dsimp only
          go_wp2_with fail
          refine leaves_free (by simp [results, Try.results93, go_sem]; try rfl) (hR'.out.int (hd) _ hE3) _ (by simp [freeD])
        | cons y ys =>
          have hd : cmpTs [] (y :: ys) = -1 := rfl
          rw [show decide (0 < (y :: ys).length) = true from by simp]
          dsimp only
          go_wp2_with fail
          refine leaves_free (by simp [results, Try.results93, go_sem]; try rfl) (hR'.out.int (hd) _ hE3) _ (by simp [freeD])
  | @list rb ib _ sv x _ p1 p2 hne px1 px2 p3 =>
    cases r2 with
    | empty e1 e2 =>
      have p1' := Lib.hid p1
      have p2' := Lib.hid p2
      have p3' := Lib.hid p3
      clear p1 p2 p3
      go_wp2_with fail
      go_loopw [11] (fun i wr => i = undef ∧ wr = w2) (fun _ _ => 0)
      case atStart => exact ⟨rfl, rfl⟩
      case round =>
        obtain ⟨rfl, rfl⟩ := hrel
        go_wp2_with fail
        refine rangeNext_c p1'.out p2'.out hne px1 px2 p3'.out (Nat.zero_le _) _ ?_
        intro w3 hM hr3
        clear hr3
        have hE3 := hE.mutated hM (fun k hk => Nat.le_trans (hB1'.out k hk) (Nat.le_refl _))
        cases ms with
        | nil =>
          have hd : cmpTs [] [] = 0 := rfl
          rw [show decide (0 < ([] : List T).length) = false from rfl]
          dsimp only
          go_wp2_with fail
          refine emptyNext_c _ ?_
          dsimp only
          go_wp2_with fail
          refine leaves_free (by simp [results, Try.results93, go_sem]; try rfl) (hR'.out.int (hd) _ hE3) _ (by simp [freeD])
        | cons y ys =>
          have hd : cmpTs (y :: ys) [] = 1 := rfl
          rw [show decide (0 < (y :: ys).length) = true from by simp]
          dsimp only
          go_wp2_with fail
          refine emptyNext_c _ ?_
          dsimp only
          go_wp2_with fail
          refine leaves_free (by simp [results, Try.results93, go_sem]; try rfl) (hR'.out.int (hd) _ hE3) _ (by simp [freeD])
    | @list rc ic _ sv2 x2 _ q1 q2 hne2 qx1 qx2 q3 =>
      have hs1 : IsRange w2 [rc, ic] (.iface 196 (.pointer (some ⟨rb, 0, none⟩))) ms 0 [rb, ib] := .list p1 p2 hne px1 px2 p3
      have hs2 : IsRange w2 [rb, ib] (.iface 196 (.pointer (some ⟨rc, 0, none⟩))) ls 0 [rc, ic] := .list q1 q2 hne2 qx1 qx2 q3
      have hs1' := Lib.hid hs1
      have hs2' := Lib.hid hs2
      clear hs1 hs2 p1 p2 p3 q1 q2 q3 hr2' hr1b'
      go_wp2_with fail
      go_loopw [11] (fun i wr => ∃ k, k ≤ ms.length ∧ k ≤ ls.length ∧ stepsOf i = k ∧ Ext w wr ∧ Hid (IsRange wr [rc, ic] (.iface 196 (.pointer (some ⟨rb, 0, none⟩))) ms k [rb, ib]) ∧ Hid (IsRange wr [rb, ib] (.iface 196 (.pointer (some ⟨rc, 0, none⟩))) ls k [rc, ic]) ∧
        Hid (cmpTs ms ls = cmpTs (ms.drop k) (ls.drop k))) (fun i _ => ms.length - stepsOf i)
      case atStart => exact ⟨0, Nat.zero_le _, Nat.zero_le _, rfl, hE, hs1', hs2', Lib.hid (by simp)⟩
      case round =>
        obtain ⟨k, hk, hk2, hst, hEr, g1, g2, g3⟩ := hrel
        have hst' := Lib.hid hst
        clear hst
        rename World => wr
        have hb1 : ∀ b ∈ [rb, ib], w.heap.size ≤ b := hB1'.out
        have hb2 : ∀ b ∈ [rc, ic], w.heap.size ≤ b := fun b hb => Nat.le_trans hE1.size (hB2'.out b hb)
        have hb1' := Lib.hid hb1
        have hb2' := Lib.hid hb2
        clear hb1 hb2
        have e1 := g1.out
        cases e1 with
        | @list _ _ _ tv1 y1 _ P1 P2 _ PX1 PX2 P3 =>
        have P1' := Lib.hid P1
        have P2' := Lib.hid P2
        have P3' := Lib.hid P3
        clear P1 P2 P3
        go_wp2_with fail
        refine rangeNext_c P1'.out P2'.out hne PX1 PX2 P3'.out hk _ ?_
        intro wa hMa hra
        have hEa := hEr.mutated hMa hb1'.out
        have hra' := Lib.hid hra
        clear hra P1' P2' P3'
        have f1 := g2.out.mv (hMa.mv (X := [rb, ib]) (fun _ h => h))
        cases f1 with
        | @list _ _ _ tv2 y2 _ Q1 Q2 _ QX1 QX2 Q3 =>
        have Q1' := Lib.hid Q1
        have Q2' := Lib.hid Q2
        have Q3' := Lib.hid Q3
        clear Q1 Q2 Q3
        by_cases hlt : k < ms.length
        · rw [decide_eq_true hlt]
          dsimp only
          go_wp2_with fail
          refine rangeNext_c Q1'.out Q2'.out hne2 QX1 QX2 Q3'.out hk2 _ ?_
          intro wb hMb hrb
          have hEb := hEa.mutated hMb hb2'.out
          have hrb' := Lib.hid hrb
          clear hrb Q1' Q2' Q3'
          by_cases hlt2 : k < ls.length
          · rw [decide_eq_true hlt2]
            have f2 := hra'.out.mv (hMb.mv (X := [rc, ic]) (fun _ h => h))
            cases f2 with
            | @list _ _ _ tv3 y3 _ S1 S2 _ SX1 SX2 S3 =>
            have S1' := Lib.hid S1
            have S2' := Lib.hid S2
            have S3' := Lib.hid S3
            clear S1 S2 S3
            dsimp only
            go_wp2_with fail
            refine rangeItem_c S1'.out S2'.out hne SX1 SX2 S3'.out hlt _ ?_
            intro wc y hMc hrc hyc hyT
            have hEc := hEb.mutated hMc hb1'.out
            have hrc' := Lib.hid hrc
            have hyT' := Lib.hid hyT
            clear hrc S1' S2' S3' hyT hra'
            have f3 := hrb'.out.mv (hMc.mv (X := [rb, ib]) (fun _ h => h))
            cases f3 with
            | @list _ _ _ tv4 y4 _ U1 U2 _ UX1 UX2 U3 =>
            have U1' := Lib.hid U1
            have U2' := Lib.hid U2
            have U3' := Lib.hid U3
            clear U1 U2 U3
            dsimp only
            go_wp2_with fail
            refine rangeItem_c U1'.out U2'.out hne2 UX1 UX2 U3'.out hlt2 _ ?_
            intro wd z hMd hrd hzd hzT
            have hEd := hEc.mutated hMd hb2'.out
            have hrd' := Lib.hid hrd
            have hva : IsVal wd [] (.iface 111 (.pointer (some ⟨ib, 0, none⟩))) ms[k] :=
              ⟨ib, y, rfl, (hMd.block _ (Array.getElem?_eq_some_iff.1 hyc).1 SX2).trans hyc, by simp, hyT'.out.mv ((hMd.mv (X := rb :: ib :: [rc, ic]) (by simp)).less (Z := []) (by simp))⟩
            have hvb : IsVal wd [] (.iface 111 (.pointer (some ⟨ic, 0, none⟩))) ls[k] :=
              ⟨ic, z, rfl, hzd, by simp, hzT.mv ((Mv.refl wd _).less (Z := []) (by simp))⟩
            have hva' := Lib.hid hva
            have hvb' := Lib.hid hvb
            have hrc2 := Lib.hid (hrc'.out.mv (hMd.mv (X := [rc, ic]) (fun _ h => h)))
            have hat := Lib.hid (cmpTs_at g3.out hlt hlt2)
            clear hrd U1' U2' U3' hva hvb hrb' hrc' hzT hyT' hyc hzd hMa hMb hMc hMd hEa hEb hEc
            dsimp only
            go_wp2_with fail
            refine ih'.out k hlt2 wd [] [] ms[k] _ _ _ hva'.out hvb'.out ⟨ab, rfl⟩ _ ?_
            intro we hEe
            by_cases hq : cmpT ms[k] ls[k] = 0
            · have hq' := Lib.hid hq
              have hz : (cmpT ms[k] ls[k] != 0) = false := by simpa using hq
              clear hq
              dsimp only
              go_wp2_with fail
              go_roundw
              case rel =>
                refine ⟨k + 1, hlt, hlt2, by simp [stepsOf], hEd.trans hEe, Lib.hid (hrc2.out.mv (hEe.mv _)), Lib.hid (hrd'.out.mv (hEe.mv _)), Lib.hid ?_⟩
                rw [hat.out, if_neg (by simp [hq'.out])]
              case measure => rw [hst'.out]; simp [stepsOf]; omega
            · have hz : (cmpT ms[k] ls[k] != 0) = true := by simpa using hq
              have hd : cmpTs ms ls = cmpT ms[k] ls[k] := by rw [hat.out, if_pos hq]
              have hd' := Lib.hid hd
              clear hq hd
              dsimp only
              go_wp2_with fail
              refine leaves_free (by simp [results, Try.results93, go_sem]; try rfl) (hR'.out.int (hd'.out) _ (hEd.trans hEe)) _ (by simp [freeD])
          · rw [decide_eq_false hlt2]
            have hd' := Lib.hid (cmpTs_long g3.out hlt hlt2)
            dsimp only
            go_wp2_with fail
            refine leaves_free (by simp [results, Try.results93, go_sem]; try rfl) (hR'.out.int (hd'.out) _ hEb) _ (by simp [freeD])
        · rw [decide_eq_false hlt]
          dsimp only
          go_wp2_with fail
          refine rangeNext_c Q1'.out Q2'.out hne2 QX1 QX2 Q3'.out hk2 _ ?_
          intro wb hMb hrb
          have hEb := hEa.mutated hMb hb2'.out
          clear hrb Q1' Q2' Q3'
          by_cases hlt2 : k < ls.length
          · rw [decide_eq_true hlt2]
            have hd' := Lib.hid (cmpTs_short g3.out hlt hlt2)
            dsimp only
            go_wp2_with fail
            refine leaves_free (by simp [results, Try.results93, go_sem]; try rfl) (hR'.out.int (hd'.out) _ hEb) _ (by simp [freeD])
          · rw [decide_eq_false hlt2]
            have hd' := Lib.hid (cmpTs_same g3.out hlt hlt2)
            dsimp only
            go_wp2_with fail
            refine leaves_free (by simp [results, Try.results93, go_sem]; try rfl) (hR'.out.int (hd'.out) _ hEb) _ (by simp [freeD])
end Go.Proofs.Ytamcgcncghabhaa
