/- value.ListEqualsUsing. mapUnstructuredString.IterateUsing with any function. mapUnstructuredString.EqualsUsing. -/
import Derived.Test.YtihapgangilncaaGreatKGEqA
namespace Go.Proofs.YtihapgangilncaaGreat
open Go.RowKit

def EqC (b : T) : Prop := ∀ (w : World) (X Y : List Nat) (a : T) (va vb al : Value), IsVal w X va a → IsVal w Y vb b → IsAl al → ∀ R : Ending → World → Prop, Ends R w (.bool (eqT a b)) →
  Calls Tryz.prog 203 #[al, va, vb] w R

theorem IsRange.mv {a b : World} {X Y : List Nat} {v : Value} {ts : List T} {n : Nat} {B : List Nat} (h : IsRange a X v ts n B) (hm : Mv a X b Y) : IsRange b Y v ts n B := by
  cases h with
  | empty b n => exact .empty _ _
  | @list rb ib _ v x _ h1 h2 hne hx1 hx2 h3 =>
    have q1 := hm.block rb (Array.getElem?_eq_some_iff.1 h1).1 hx1
    have q2 := hm.block ib (Array.getElem?_eq_some_iff.1 h2).1 hx2
    refine .list (q1.1.trans h1) (q2.1.trans h2) hne q1.2 q2.2 (h3.mv ⟨hm.size, fun k hk hn => ?_⟩)
    simp only [List.mem_cons, not_or] at hn ⊢
    exact ⟨(hm.block k hk hn.2.2).1, hn.1, hn.2.1, (hm.block k hk hn.2.2).2⟩

theorem IsRange.old {w : World} {X : List Nat} {v : Value} {ts : List T} {n : Nat} {B : List Nat} (h : IsRange w X v ts n B) : Old B w := by
  cases h with
  | empty b n => exact Old.nil _
  | @list rb ib _ v x _ h1 h2 hne hx1 hx2 h3 => exact Old.cons (Array.getElem?_eq_some_iff.1 h1).1 (Old.cons (Array.getElem?_eq_some_iff.1 h2).1 (Old.nil _))

theorem load_lu {b off : Nat} {x : Value} {w : World} (h : w.cell? ⟨b, off, none⟩ = some x) : (loadVar 361 ⟨b, off, none⟩).run Tryz.prog w = .ok x w := by
  have ha : (isAgg 361).run Tryz.prog w = .ok false w := by kernel_rfl
  simp [loadVar, ha, loadCells, loadCellsFrom, load, Sem.run, h, Addr.add]
@[go_sem] theorem meth_luLength (n b off : Nat) (x : Value) (w : World) (h : w.cell? ⟨b, off, none⟩ = some x) : (method (n + 1) 386 (.pointer (some ⟨b, off, none⟩)) "Length").run Tryz.prog w = .ok (265, x) w := run_method_val n (by kernel_rfl) Tryz.underlying386 (load_lu h)
@[go_sem] theorem meth_luRangeUsing (n b off : Nat) (x : Value) (w : World) (h : w.cell? ⟨b, off, none⟩ = some x) : (method (n + 1) 386 (.pointer (some ⟨b, off, none⟩)) "RangeUsing").run Tryz.prog w = .ok (267, x) w := run_method_val n (by kernel_rfl) Tryz.underlying386 (load_lu h)

theorem lLength_c {w : World} {o : Option Addr} {n c : Nat} (R : Ending → World → Prop) (hR : R (.returned (.int .i64 n)) w) : Calls Tryz.prog 265 #[.slice o n c] w R := by
  have hR' := Lib.hid hR
  clear hR
  go_enter Tryz.func265, Tryz.ntmps265
  go_wp2_with fail
  exact hR'.out

def stepsOf : Value → Nat
  | .int _ n => n.toNat + 1
  | _ => 0

theorem eqTs_iff : ∀ {m l : List T}, m.length = l.length → (eqTs m l = true ↔ ∀ i (h : i < m.length) (h2 : i < l.length), eqT m[i] l[i] = true)
  | [], [], _ => by simp [eqTs]
  | [], _ :: _, h => by simp at h
  | _ :: _, [], h => by simp at h
  | x :: m, y :: l, h => by
    simp only [eqTs, Bool.and_eq_true, eqTs_iff (m := m) (l := l) (by simpa using h)]
    constructor
    · rintro ⟨h1, h2⟩ i hi hi2
      cases i with
      | zero => exact h1
      | succ i => exact h2 i (by simpa using hi) (by simpa using hi2)
    · intro h
      exact ⟨h 0 (by simp) (by simp), fun i hi hi2 => h (i + 1) (by simpa using hi) (by simpa using hi2)⟩

set_option maxRecDepth 100000 in
set_option maxHeartbeats 4000000 in
set_option pp.maxSteps 1000000 in
set_option pp.deepTerms true in
theorem listEquals_c {w : World} {s1 s2 al : Value} {bs : Nat} {ms ls : List T} (ih : ∀ i (h : i < ls.length), EqC ls[i]) (hb : w.heap[bs]? = some (.cells #[s1] 361 (0, 0))) (h1 : IsTs w [] s1 ms) (h2 : IsTs w [] s2 ls) (hal : IsAl al)
    (R : Ending → World → Prop) (hR : Ends R w (.bool (decide (ms.length = ls.length) && eqTs ms ls))) :
    Calls Tryz.prog 268 #[al, .iface 386 (.pointer (some ⟨bs, 0, none⟩)), .iface 361 s2] w R := by
  obtain ⟨ab, rfl⟩ := hal
  obtain ⟨b1, f1, k1, rfl, l1, -⟩ := id h1.ex
  obtain ⟨b2, f2, k2, rfl, l2, -⟩ := id h2.ex
  have c0 : w.cell? ⟨bs, 0, none⟩ = some (.slice (some ⟨b1, f1, none⟩) ms.length k1) := cells_of hb 0
  have h1' := Lib.hid h1
  have h2' := Lib.hid h2
  have hR' := Lib.hid hR
  have ih' := Lib.hid ih
  clear hR h1 h2 hb ih
  by_cases hlen : ms.length = ls.length
  · have h1 := h1'.out
    rw [hlen] at h1 c0
    replace h1' := Lib.hid h1
    have hlen' := Lib.hid hlen
    clear h1 hlen l1
    go_enter_defers Tryz.func268, Tryz.ntmps268
    go_wp2_with fail
    refine lLength_c _ ?_
    dsimp only
    go_wp2_with fail
    refine lLength_c _ ?_
    dsimp only
    go_wp2_with fail
    refine rangeUsing_c h1'.out (Old.nil _) _ ?_
    intro w1 v1 B1 hE1 hr1 hB1
    have hr1' := Lib.hid hr1
    have hB1' := Lib.hid hB1
    clear hr1 hB1 c0
    dsimp only
    go_wp2_with fail
    refine rangeUsing_c (X := B1) (h2'.out.mv (by simpa using (hE1.mv []).moreL hB1'.out)) hr1'.out.old _ ?_
    intro w2 v2 B2 hE2 hr2 hB2
    have hr1b : IsRange w2 B2 v1 ms 0 B1 := hr1'.out.mv (by simpa using (hE2.mv []).moreL hB2)
    have hr2' := Lib.hid hr2
    have hr1b' := Lib.hid hr1b
    have hB2' := Lib.hid hB2
    have hE := hE1.trans hE2
    clear hr2 hB2 hr1b hr1'
    dsimp only
    have r1 := hr1b'.out
    cases r1 with
    | empty e1 e2 =>
      have hd : (decide (([] : List T).length = ls.length) && eqTs [] ls) = true := by have := hlen'.out; simp only [List.length_nil] at this ⊢; rw [← this]; simp [eqTs]
      have hd' := Lib.hid hd
      clear hd
      go_wp2_with fail
      go_loopw [9] (fun i wr => i = undef ∧ Ext w wr) (fun _ _ => 0)
      case atStart => exact ⟨rfl, hE⟩
      case round =>
        obtain ⟨rfl, hEr⟩ := hrel
        go_wp2_with fail
        refine emptyNext_c _ ?_
        dsimp only
        go_wp2_with fail
        refine leaves_free (by simp [results, Tryz.results268, go_sem]; try rfl) (hR'.out.bool hd'.out _ hEr) _ (by simp [freeD])
    | @list rb ib _ sv x _ p1 p2 hne px1 px2 p3 =>
      have r2 := hr2'.out
      cases r2 with
      | empty e1 e2 =>
        have hd : (decide (ms.length = ([] : List T).length) && eqTs ms []) = true := by have := hlen'.out; rw [this]; simp [eqTs]
        have hd' := Lib.hid hd
        have hz : ms.length = 0 := hlen'.out
        have hz0 := Lib.hid hz
        have p1' := Lib.hid p1
        have p2' := Lib.hid p2
        have p3' := Lib.hid p3
        clear hd hz p1 p2 p3
        go_wp2_with fail
        go_loopw [9] (fun i wr => i = undef ∧ wr = w2) (fun _ _ => 0)
        case atStart => exact ⟨rfl, rfl⟩
        case round =>
          obtain ⟨rfl, rfl⟩ := hrel
          go_wp2_with fail
          refine rangeNext_c p1'.out p2'.out hne px1 px2 p3'.out (Nat.zero_le _) _ ?_
          intro w3 hM hr3
          clear hr3
          rw [hz0.out]
          have hE3 := hE.mutated hM (fun k hk => Nat.le_trans (hB1'.out k hk) (Nat.le_refl _))
          dsimp only
          go_wp2_with fail
          refine leaves_free (by simp [results, Tryz.results268, go_sem]; try rfl) (hR'.out.bool hd'.out _ hE3) _ (by simp [freeD])
      | @list rc ic _ sv2 x2 _ q1 q2 hne2 qx1 qx2 q3 =>
        have hs1 : IsRange w2 [rc, ic] (.iface 382 (.pointer (some ⟨rb, 0, none⟩))) ms 0 [rb, ib] := .list p1 p2 hne px1 px2 p3
        have hs2 : IsRange w2 [rb, ib] (.iface 382 (.pointer (some ⟨rc, 0, none⟩))) ls 0 [rc, ic] := .list q1 q2 hne2 qx1 qx2 q3
        have hs1' := Lib.hid hs1
        have hs2' := Lib.hid hs2
        clear hs1 hs2 p1 p2 p3 q1 q2 q3 hr2' hr1b'
        go_wp2_with fail
        go_loopw [9] (fun i wr => ∃ k, k ≤ ms.length ∧ stepsOf i = k ∧ Ext w wr ∧ Hid (IsRange wr [rc, ic] (.iface 382 (.pointer (some ⟨rb, 0, none⟩))) ms k [rb, ib]) ∧ Hid (IsRange wr [rb, ib] (.iface 382 (.pointer (some ⟨rc, 0, none⟩))) ls k [rc, ic]) ∧
          Hid (∀ j (h : j < ms.length) (h2 : j < ls.length), j < k → eqT ms[j] ls[j] = true)) (fun i _ => ms.length - stepsOf i)
        case atStart => exact ⟨0, Nat.zero_le _, rfl, hE, hs1', hs2', Lib.hid (fun j _ _ h => by omega)⟩
        case round =>
          obtain ⟨k, hk, hst, hEr, g1, g2, g3⟩ := hrel
          have hst' := Lib.hid hst
          clear hst
          rename World => wr
          have hb1 : ∀ b ∈ [rb, ib], w.heap.size ≤ b := hB1'.out
          have hb2 : ∀ b ∈ [rc, ic], w.heap.size ≤ b := fun b hb => Nat.le_trans hE1.size (hB2'.out b hb)
          have hb1' := Lib.hid hb1
          have hb2' := Lib.hid hb2
          clear hb1 hb2
          have e1 := g1.out
          cases e1 with
          | @list _ _ _ tv1 y1 _ P1 P2 _ PX1 PX2 P3 =>
          have P1' := Lib.hid P1
          have P2' := Lib.hid P2
          have P3' := Lib.hid P3
          clear P1 P2 P3
          go_wp2_with fail
          refine rangeNext_c P1'.out P2'.out hne PX1 PX2 P3'.out hk _ ?_
          intro wa hMa hra
          have hEa := hEr.mutated hMa hb1'.out
          have hra' := Lib.hid hra
          clear hra P1' P2' P3'
          by_cases hlt : k < ms.length
          · rw [decide_eq_true hlt]
            have hlt2 : k < ls.length := by rw [← hlen'.out]; exact hlt
            have f1 := g2.out.mv (hMa.mv (X := [rb, ib]) (fun _ h => h))
            cases f1 with
            | @list _ _ _ tv2 y2 _ Q1 Q2 _ QX1 QX2 Q3 =>
            have Q1' := Lib.hid Q1
            have Q2' := Lib.hid Q2
            have Q3' := Lib.hid Q3
            clear Q1 Q2 Q3
            dsimp only
            go_wp2_with fail
            refine rangeNext_c Q1'.out Q2'.out hne2 QX1 QX2 Q3'.out (Nat.le_of_lt hlt2) _ ?_
            intro wb hMb hrb
            have hEb := hEa.mutated hMb hb2'.out
            have hrb' := Lib.hid hrb
            clear hrb Q1' Q2' Q3'
            rw [decide_eq_true hlt2]
            have f2 := hra'.out.mv (hMb.mv (X := [rc, ic]) (fun _ h => h))
            cases f2 with
            | @list _ _ _ tv3 y3 _ S1 S2 _ SX1 SX2 S3 =>
            have S1' := Lib.hid S1
            have S2' := Lib.hid S2
            have S3' := Lib.hid S3
            clear S1 S2 S3
            dsimp only
            go_wp2_with fail
            refine rangeItem_c S1'.out S2'.out hne SX1 SX2 S3'.out hlt _ ?_
            intro wc y hMc hrc hyc hyT
            have hEc := hEb.mutated hMc hb1'.out
            have hrc' := Lib.hid hrc
            have hyT' := Lib.hid hyT
            clear hrc S1' S2' S3' hyT hra'
            have f3 := hrb'.out.mv (hMc.mv (X := [rb, ib]) (fun _ h => h))
            cases f3 with
            | @list _ _ _ tv4 y4 _ U1 U2 _ UX1 UX2 U3 =>
            have U1' := Lib.hid U1
            have U2' := Lib.hid U2
            have U3' := Lib.hid U3
            clear U1 U2 U3
            dsimp only
            go_wp2_with fail
            refine rangeItem_c U1'.out U2'.out hne2 UX1 UX2 U3'.out hlt2 _ ?_
            intro wd z hMd hrd hzd hzT
            have hEd := hEc.mutated hMd hb2'.out
            have hrd' := Lib.hid hrd
            have hva : IsVal wd [] (.iface 261 (.pointer (some ⟨ib, 0, none⟩))) ms[k] :=
              ⟨ib, y, rfl, (hMd.block _ (Array.getElem?_eq_some_iff.1 hyc).1 SX2).trans hyc, by simp, hyT'.out.mv ((hMd.mv (X := rb :: ib :: [rc, ic]) (by simp)).less (Z := []) (by simp))⟩
            have hvb : IsVal wd [] (.iface 261 (.pointer (some ⟨ic, 0, none⟩))) ls[k] :=
              ⟨ic, z, rfl, hzd, by simp, hzT.mv ((Mv.refl wd _).less (Z := []) (by simp))⟩
            have hva' := Lib.hid hva
            have hvb' := Lib.hid hvb
            have hrc2 := Lib.hid (hrc'.out.mv (hMd.mv (X := [rc, ic]) (fun _ h => h)))
            clear hrd U1' U2' U3' hva hvb hrb' hrc' hzT hyT' hyc hzd hMa hMb hMc hMd hEa hEb hEc
            dsimp only
            go_wp2_with fail
            refine ih'.out k hlt2 wd [] [] ms[k] _ _ _ hva'.out hvb'.out ⟨ab, rfl⟩ _ ?_
            intro we hEe
            cases hq : eqT ms[k] ls[k]
            · have hd : (decide (ms.length = ls.length) && eqTs ms ls) = false := by
                rw [Bool.and_eq_false_iff]
                refine .inr (Bool.eq_false_iff.2 fun h => ?_)
                rw [(eqTs_iff hlen'.out).1 h k hlt hlt2] at hq
                cases hq
              have hd' := Lib.hid hd
              have hq' := Lib.hid hq
              clear hd hq
              dsimp only
              go_wp2_with fail
              refine leaves_free (by simp [results, Tryz.results268, go_sem]; try rfl) (hR'.out.bool hd'.out _ (hEd.trans hEe)) _ (by simp [freeD])
            · have hq' := Lib.hid hq
              clear hq
              dsimp only
              go_wp2_with fail
              go_roundw
              case rel =>
                refine ⟨k + 1, hlt, by simp [stepsOf], hEd.trans hEe, Lib.hid (hrc2.out.mv (hEe.mv _)), Lib.hid (hrd'.out.mv (hEe.mv _)), Lib.hid fun j h h2 hj => ?_⟩
                by_cases ej : j = k
                · subst ej; exact hq'.out
                · exact g3.out j h h2 (by omega)
              case measure => rw [hst'.out]; simp [stepsOf]; omega
          · rw [decide_eq_false hlt]
            have ek : k = ms.length := by omega
            have hd : (decide (ms.length = ls.length) && eqTs ms ls) = true := by
              rw [Bool.and_eq_true]
              exact ⟨decide_eq_true hlen'.out, (eqTs_iff hlen'.out).2 fun i h h2 => g3.out i h h2 (by omega)⟩
            have hd' := Lib.hid hd
            clear hd ek
            dsimp only
            go_wp2_with fail
            refine leaves_free (by simp [results, Tryz.results268, go_sem]; try rfl) (hR'.out.bool hd'.out _ hEa) _ (by simp [freeD])
  · go_enter_defers Tryz.func268, Tryz.ntmps268
    go_wp2_with fail
    refine lLength_c _ ?_
    dsimp only
    go_wp2_with fail
    refine lLength_c _ ?_
    dsimp only
    go_wp2_with fail
    refine leaves_free (by simp [results, Tryz.results268, go_sem]; try rfl) (hR'.out.bool (by simp [hlen]) _ (Ext.refl _)) _ (by simp)
end Go.Proofs.YtihapgangilncaaGreat
namespace Go.Proofs.YtihapgangilncaaGreat
open Go.RowKit

/-- the state of a walk over a map: what holds once the entries at the places of don have been visited; B are blocks of the walk's own -/
structure Visit (w : World) (X : List Nat) (ts : EntsOfT T) (F : FuncId) (cap : Array Value) (Inv : List Nat → List Nat → World → Prop) (Stop : List Nat → World → Prop) : Prop where
  start : ∀ B w1, Ext w w1 → (∀ b ∈ B, w.heap.size ≤ b) → Inv B [] w1
  keep : ∀ B don w1 w2, (∀ b ∈ B, w.heap.size ≤ b) → Inv B don w1 → Mut w1 B w2 → Inv B don w2
  step : ∀ B don i (hi : i < ts.length) w1 val, i ∉ don → (∀ b ∈ B, w.heap.size ≤ b) → Old B w1 → Mut w X w1 → Inv B don w1 → IsVal w1 X val (ts[i]).2 → ∀ K : Ending → World → Prop,
    (∀ w2 b, Mut w X w2 → w1.heap.size ≤ w2.heap.size → (∀ k ∈ B, w2.heap[k]? = w1.heap[k]?) → (b = true → Inv B (don ++ [i]) w2) → (b = false → Stop B w2) → K (.returned (.bool b)) w2) → Calls Tryz.prog F (#[.string (ts[i]).1, val] ++ cap) w1 K
  enter : ∀ (args : Array Value) (w : World), (callFunc F args).run Tryz.prog w = .ok (.enter F args) w

def seenOf (w : World) (it : Nat) : Nat := match w.heap[it]? with
  | some (.mapIter _ _ seen _) => seen.size
  | _ => 0
theorem IterAt.seen {w : World} {it r : Nat} {es : Ents} {don : List Nat} (h : IterAt w it r es don) : seenOf w it = don.length := by
  obtain ⟨mes, clock, seen, _, _, h2, h3, _⟩ := h.ex
  have := congrArg List.length h3
  simp [seenOf, h2] at this ⊢
  exact this
theorem Mut.newer {a b c : World} {X : List Nat} {g : Nat} (h : Mut a X b) (hg : b.grownBy c (some g)) (hn : a.heap.size ≤ g) : Mut a X c :=
  ⟨hg.os.trans h.os, hg.tape.trans h.tape, hg.output.trans h.output, Nat.le_trans h.size hg.size, fun k hk hx => (hg.block k (Nat.lt_of_lt_of_le hk h.size) (fun e => by cases e; omega)).trans (h.block k hk hx)⟩
theorem nodup_bound (n : Nat) (l : List Nat) (h : l.Nodup) (hb : ∀ i ∈ l, i < n) : l.length ≤ n := by
  have := nodup_le (G := List.range n) h (fun k hk => List.mem_range.2 (hb k hk))
  simpa using this

set_option maxRecDepth 100000 in
set_option maxHeartbeats 4000000 in
set_option pp.maxSteps 1000000 in
set_option pp.deepTerms true in
theorem iterate_c {w : World} {X : List Nat} {r : Nat} {al : Value} {ts : EntsOfT T} {F : FuncId} {cap : Array Value} {Inv : List Nat → List Nat → World → Prop} {Stop : List Nat → World → Prop} (hm : IsTm w X r ts) (hX : Old X w) (hal : IsAl al) (hv : Visit w X ts F cap Inv Stop)
    (R : Ending → World → Prop) (hR : ∀ w' B don, Mut w X w' → Inv B don w' → (∀ i, i < ts.length → i ∈ don) → R (.returned (.bool true)) w') (hS : ∀ w' B, Mut w X w' → Stop B w' → R (.returned (.bool false)) w') :
    Calls Tryz.prog 277 #[.map (some r), al, .func (.func F) #[] cap] w R := by
  obtain ⟨ab, rfl⟩ := hal
  obtain ⟨⟨es, hm1, hm2⟩, hrX, hb, hk⟩ := id hm
  have hlen := hm2.length
  have hm' := Lib.hid hm
  have hv' := Lib.hid hv
  have hR' := Lib.hid hR
  have hS' := Lib.hid hS
  have hX' := Lib.hid hX
  have hm2' := Lib.hid hm2
  have hl := run_len_ents (P := Tryz.prog) Tryz.underlying362 3 hm1
  clear hm hv hR hS hX hm2
  by_cases hz : es.length = 0
  · have hz' : ((es.length : Int) == 0) = true := by simpa using hz
    have hzz := Lib.hid hz
    have hlen' := Lib.hid hlen
    clear hz hlen
    go_enter_defers Tryz.func277, Tryz.ntmps277
    go_wp2_with fail
    refine leaves_free (by simp [results, Tryz.results277, go_sem]; try rfl) (hR'.out w [] [] ((Ext.refl w).mut X) (hv'.out.start [] w (Ext.refl w) (by simp)) (fun i hi => by have := hlen'.out; have := hzz.out; omega)) _ (by simp)
  · have hz' : ((es.length : Int) == 0) = false := by rw [beq_eq_false_iff_ne]; omega
    have hlen' := Lib.hid hlen
    clear hz hlen
    go_enter_defers Tryz.func277, Tryz.ntmps277
    go_wp2_with fail
    refine allocValue_c _ ?_
    intro w1 hE1 hb1
    dsimp only
    have hm3 : IsMap w1 r es := hm1.ext hE1
    obtain ⟨ob, hrun, hit⟩ := run_range_ents (P := Tryz.prog) Tryz.underlying362 hm3
    have hsz1 : w.heap.size < w1.heap.size := (Array.getElem?_eq_some_iff.1 hb1).1
    have hE2 : Ext w (w1.alloc ob) := hE1.push ob
    have hb2 : (w1.alloc ob).heap[w.heap.size]? = some (.cells #[.nilIface] 292 (0, 0)) := ((Ext.alloc w1 ob).below.block _ hsz1).trans hb1
    have hB : ∀ b ∈ [w.heap.size, w1.heap.size], w.heap.size ≤ b := by simp; omega
    have hst := hv'.out.start [w.heap.size, w1.heap.size] _ hE2 hB
    have hB' := Lib.hid hB
    have hst' := Lib.hid hst
    clear hl hm1 hm3 hst hB hb1
    go_wp2_with fail
    go_loopw [8] (fun _ wr => ∃ (don : List Nat) (x : Value), Mut w X wr ∧ w1.heap.size < wr.heap.size ∧ wr.heap[w.heap.size]? = some (.cells #[x] 292 (0, 0)) ∧ IterAt wr w1.heap.size r es don ∧ (∀ i ∈ don, i < es.length) ∧ Hid (Inv [w.heap.size, w1.heap.size] don wr))
      (fun _ wr => es.length - seenOf wr w1.heap.size)
    case atStart => exact ⟨[], _, hE2.mut X, by simp, hb2, hit, by simp, hst'⟩
    case round =>
      obtain ⟨don, x, hMu, hsz, hbv, hI, hdl, hinv⟩ := hrel
      rename World => wr
      clear hit hb2 hE2 hrun
      go_wp2_with (refine wpL_next rfl _ rfl rfl hI ?_ ?_)
      · intro i hi hni w2 hI2 hg2 hs2
        have hent := run_entry_ents (P := Tryz.prog) hi hI2
        have hi' : i < ts.length := by rw [← hlen'.out]; exact hi
        obtain ⟨hkey, hval⟩ := hm2'.out.get i hi hi'
        have hone := hval.one
        have hbv2 : w2.heap[w.heap.size]? = some (.cells #[x] 292 (0, 0)) := (hg2.block _ (by omega) (fun e => by have := Option.some.inj e; omega)).trans hbv
        have hM2 := hMu.newer hg2 (by omega)
        have hval' := Lib.hid hval
        have hkey' := Lib.hid hkey
        have hinv' := Lib.hid (hv'.out.keep _ _ _ _ hB'.out hinv.out (grown_mut hg2 (B := [w.heap.size, w1.heap.size]) (by simp)))
        have hmea := hI.seen
        have hmea' := Lib.hid hmea
        clear hval hkey hI hbv hinv hmea hs2
        go_wp2_with fail
        refine reuse_c hbv2 hone _ ?_
        intro w3 hbv3 hg3
        have hM3 := hM2.newer hg3 (Nat.le_refl _)
        have hinv3 := Lib.hid (hv'.out.keep _ _ _ _ hB'.out hinv'.out (grown_mut hg3 (B := [w.heap.size, w1.heap.size]) (by simp)))
        have hI3 : IterAt w3 w1.heap.size r es (don ++ [i]) := hI2.keep (hg3.block _ hI2.lt.1 (fun e => by have := Option.some.inj e; omega)) (hg3.block _ hI2.lt.2.1 (fun e => by have := Option.some.inj e; have := (hm'.out.ex.choose_spec.1).lt; omega))
        have hv3 : IsVal w3 X (.iface 261 (.pointer (some ⟨w.heap.size, 0, none⟩))) (ts[i]).2 := ⟨_, _, rfl, hbv3, fun h => Nat.lt_irrefl _ (hX'.out _ h), hval'.out.mv (hM3.mv (fun _ h => h))⟩
        have hsz3 : w1.heap.size < w3.heap.size := by have := hg2.size; have := hg3.size; omega
        have hv3' := Lib.hid hv3
        clear hv3 hM2 hbv2 hinv' hg2 hg3 hI2 hent hval'
        dsimp only
        go_wp2_with fail
        rw [hv'.out.enter, Oper.upon_enter]
        rw [show (#[Value.string (es[i]).1, .iface 261 (.pointer (some ⟨w.heap.size, 0, none⟩))] : Array Value) = #[.string (ts[i]).1, .iface 261 (.pointer (some ⟨w.heap.size, 0, none⟩))] from by rw [hkey'.out]]
        refine hv'.out.step [w.heap.size, w1.heap.size] don i hi' w3 _ hni hB'.out (Old.cons (by omega) (Old.cons hsz3 (Old.nil _))) hM3 hinv3.out hv3'.out _ ?_
        intro w4 b hM4 hsz4 hBk hin hsto
        dsimp only
        have hbv4 : w4.heap[w.heap.size]? = some (.cells #[(es[i]).2] 292 (0, 0)) := (hBk _ (by simp)).trans hbv3
        have hI4 : IterAt w4 w1.heap.size r es (don ++ [i]) := hI3.keep (hBk _ (by simp)) ((hM4.block r (hm'.out.ex.choose_spec.1).lt hrX).trans (hM3.block r (hm'.out.ex.choose_spec.1).lt hrX).symm)
        have hin' := Lib.hid hin
        have hsto' := Lib.hid hsto
        clear hM3 hI3 hbv3 hinv3 hv3' hBk hin hsto
        cases b
        · have hs := hsto'.out rfl
          have hs' := Lib.hid hs
          clear hs
          go_wp2_with fail
          refine leaves_free (by simp [results, Tryz.results277, go_sem]; try rfl) (hS'.out w4 _ hM4 hs'.out) _ (by simp [freeD])
        · go_wp2_with fail
          go_roundw
          case rel =>
            refine ⟨don ++ [i], _, hM4, Nat.lt_of_lt_of_le hsz3 hsz4, hbv4, hI4, fun j hj => ?_, Lib.hid (hin'.out rfl)⟩
            rcases List.mem_append.1 hj with hj | hj
            · exact hdl j hj
            · rw [List.mem_singleton] at hj; rw [hj]; exact hi
          case measure =>
            rw [hI4.seen, hmea'.out, List.length_append, List.length_singleton]
            have := nodup_bound es.length _ hI4.nodup (fun j hj => by
              rcases List.mem_append.1 hj with hj | hj
              · exact hdl j hj
              · rw [List.mem_singleton] at hj; rw [hj]; exact hi)
            simp only [List.length_append, List.length_singleton] at this
            omega
      · intro hall
        have hall' := Lib.hid hall
        clear hall
        go_wp2_with fail
        refine leaves_free (by simp [results, Tryz.results277, go_sem]; try rfl) (hR'.out wr _ don hMu hinv.out (fun i hi => hall'.out i (by rw [hlen'.out]; exact hi))) _ (by simp [freeD])
end Go.Proofs.YtihapgangilncaaGreat
namespace Go.Proofs.YtihapgangilncaaGreat
open Go.RowKit

def inMap (es : EntsOfT T) (p : ByteArray × T) : Bool := match getEnt p.1 es with
  | some x => eqT x p.2
  | none => false

theorem eqTm_iff {es : EntsOfT T} : ∀ {ks : List ByteArray} {l : List T}, eqTm es ks l = true ↔ ∀ i (h : i < (ks.zip l).length), inMap es (ks.zip l)[i] = true
  | [], l => by cases l <;> simp [eqTm]
  | k :: ks, [] => by simp [eqTm]
  | k :: ks, y :: l => by
    have ih := @eqTm_iff es ks l
    have e : eqTm es (k :: ks) (y :: l) = (inMap es (k, y) && eqTm es ks l) := by simp [eqTm, inMap]; rfl
    rw [e, Bool.and_eq_true, ih]
    constructor
    · rintro ⟨h1, h2⟩ i hi
      cases i with
      | zero => exact h1
      | succ i => exact h2 i (by simpa using hi)
    · intro h
      exact ⟨h 0 (by simp), fun i hi => h (i + 1) (by simpa using hi)⟩

set_option maxRecDepth 100000 in
theorem zero_any : ∀ w, (zeroValue 20).run Tryz.prog w = .ok .nilIface w := fun _ => by kernel_rfl

set_option maxRecDepth 100000 in
theorem callFunc_eq1 (args : Array Value) (w : World) : (callFunc 282 args).run Tryz.prog w = .ok (.enter 282 args) w := rfl

set_option maxRecDepth 100000 in
set_option maxHeartbeats 4000000 in
set_option pp.maxSteps 1000000 in
set_option pp.deepTerms true in
theorem eqFn_c {w : World} {r1 bm ba bv vvb : Nat} {al val x0 : Value} {es : EntsOfT T} {k : ByteArray} {t : T} (ih : EqC t) (hal : IsAl al) (h1 : IsTm w [vvb] r1 es) (hval : IsVal w [vvb] val t)
    (c0 : w.cell? ⟨bm, 0, none⟩ = some (.map (some r1))) (c1 : w.cell? ⟨ba, 0, none⟩ = some al) (c2 : w.cell? ⟨bv, 0, none⟩ = some (.pointer (some ⟨vvb, 0, none⟩))) (c3 : w.heap[vvb]? = some (.cells #[x0] 292 (0, 0)))
    (hn0 : ba ≠ vvb) (hn1 : bv ≠ vvb) (K : Ending → World → Prop) (hK : ∀ w2, Mut w [vvb] w2 → (∃ x, w2.heap[vvb]? = some (.cells #[x] 292 (0, 0))) → K (.returned (.bool (inMap es (k, t)))) w2) :
    Calls Tryz.prog 282 #[.string k, val, .pointer (some ⟨bm, 0, none⟩), .pointer (some ⟨ba, 0, none⟩), .pointer (some ⟨bv, 0, none⟩)] w K := by
  obtain ⟨⟨us, hm1, hm2⟩, hrX, hb, hks⟩ := id h1
  have hlk := fun w' (h : IsMap w' r1 us) => run_lookup_ents_ok (P := Tryz.prog) (w := w') Tryz.underlying362 Tryz.underlying9 h k .nilIface (zero_any w')
  have hlw := hlk w hm1
  have hK' := Lib.hid hK
  have hval' := Lib.hid hval
  have h1' := Lib.hid h1
  have ih' := Lib.hid ih
  clear hK hval h1 ih hlk
  rcases hm2.find k with ⟨g1, g2⟩ | ⟨x, u, g1, g2, g3⟩
  · have hin : inMap es (k, t) = false := by simp [inMap, g2]
    rw [g1] at hlw
    have hin' := Lib.hid hin
    clear hin g1 g2 hm2
    go_enter Tryz.func282, Tryz.ntmps282
    go_wp2_with fail
    have := hK'.out w ((Ext.refl w).mut _) ⟨_, c3⟩
    rw [hin'.out] at this
    exact this
  · have hin : inMap es (k, t) = eqT u t := by simp [inMap, g2]
    have hone := g3.one
    rw [g1] at hlw
    have hin' := Lib.hid hin
    have g3' := Lib.hid g3
    clear hin g1 g2 hm2 g3
    go_enter Tryz.func282, Tryz.ntmps282
    go_wp2_with fail
    refine wp_region_script [0, 1, 2, 4, 6] [3] (fun w' => w'.cell? ⟨ba, 0, none⟩ = some al ∧ w'.cell? ⟨bv, 0, none⟩ = some (.pointer (some ⟨vvb, 0, none⟩))) [(.read, 0), (.read, 1), (.pure, 2), (.pure, 4), (.one, 3), (.one, 5), (.pure, 6)] (by kernel_rfl) (by kernel_rfl) ?_
    have hC : w.drew.cell? ⟨ba, 0, none⟩ = some al ∧ w.drew.cell? ⟨bv, 0, none⟩ = some (.pointer (some ⟨vvb, 0, none⟩)) := ⟨c1, c2⟩
    (apply scr_read'; (· rfl); (· rfl); (· exact hC); (· (intro w' hw'; obtain ⟨q1, q2⟩ := hw'; go_simp; try rfl)); (· (simp [go_sem]; try rfl)))
    (apply scr_read'; (· rfl); (· rfl); (· exact hC); (· (intro w' hw'; obtain ⟨q1, q2⟩ := hw'; go_simp; try rfl)); (· (simp [go_sem]; try rfl)))
    (apply scr_pure'; (· rfl); (· rfl); (· (intro w'; go_simp; try rfl)); (· (simp [go_sem]; try rfl)))
    (apply scr_pure'; (· rfl); (· rfl); (· (intro w'; go_simp; try rfl)); (· (simp [go_sem]; try rfl)))
    refine scr_one rfl rfl (fun K2 hK2 => ?_)
    go_simp
    refine reuse_c (w := w.drew) (x := x0) c3 hone _ ?_
    intro w3 hh3 hg3
    have hM3 : Mut w [vvb] w3 := ((Ext.refl w).drew.mut _).trans (grown_mut hg3 (by simp))
    refine hK2 _ _ (fun _ => ⟨grown_keep hg3 hC.1 hn0, grown_keep hg3 hC.2 hn1⟩) ?_
    clear hK2
    refine scr_one rfl rfl (fun K2 hK2 => ?_)
    go_simp
    refine ih'.out w3 [] [vvb] u _ _ _ ⟨vvb, x, rfl, hh3, by simp, g3'.out.mv ((hM3.mv (X := [vvb]) (fun _ h => h)).less (by simp))⟩ (hval'.out.mv (hM3.mv (fun _ h => h))) hal _ ?_
    intro w4 hE4
    refine hK2 _ _ (fun h => by simp at h) ?_
    clear hK2
    (apply scr_pure'; (· rfl); (· rfl); (· (intro w'; go_simp; try rfl)); (· (simp [go_sem]; try rfl)))
    refine scr_end ?_
    simp only [Exit.then]
    go_wp2_with fail
    have := hK'.out w4 (hM3.trans (hE4.mut _)) ⟨_, (hE4.below.block _ (Array.getElem?_eq_some_iff.1 hh3).1).trans hh3⟩
    rw [hin'.out] at this
    exact this

theorem eq_visit {w : World} {r1 bm ba bv vvb : Nat} {al x0 : Value} {es ts : EntsOfT T} (ih : ∀ i (h : i < ts.length), EqC (ts[i]).2) (hal : IsAl al) (h1 : IsTm w [vvb] r1 es)
    (c0 : w.cell? ⟨bm, 0, none⟩ = some (.map (some r1))) (c1 : w.cell? ⟨ba, 0, none⟩ = some al) (c2 : w.cell? ⟨bv, 0, none⟩ = some (.pointer (some ⟨vvb, 0, none⟩))) (c3 : w.heap[vvb]? = some (.cells #[x0] 292 (0, 0)))
    (hn : bm ≠ vvb) (hn0 : ba ≠ vvb) (hn1 : bv ≠ vvb) :
    Visit w [vvb] ts 282 #[.pointer (some ⟨bm, 0, none⟩), .pointer (some ⟨ba, 0, none⟩), .pointer (some ⟨bv, 0, none⟩)]
      (fun _ don w1 => (∀ i ∈ don, ∀ h : i < ts.length, inMap es ts[i] = true) ∧ ∃ x, w1.heap[vvb]? = some (.cells #[x] 292 (0, 0))) (fun _ _ => ∃ i, ∃ h : i < ts.length, inMap es ts[i] = false) where
  start := fun B w1 hE _ => ⟨(fun i hi => by cases hi), x0, (hE.below.block _ (Array.getElem?_eq_some_iff.1 c3).1).trans c3⟩
  keep := fun B don w1 w2 hB ⟨h1, x, h2⟩ hM => ⟨h1, x, (hM.block _ (Array.getElem?_eq_some_iff.1 h2).1 (fun h => by have := hB _ h; have := (Array.getElem?_eq_some_iff.1 c3).1; omega)).trans h2⟩
  step := fun B don i hi w1 val hni hB hoB hM ⟨g1, x, g2⟩ hval K hK => by
    have hmv : Mv w [vvb] w1 [vvb] := hM.mv (fun _ h => h)
    refine eqFn_c (ih i hi) hal (h1.mv hmv) hval (hmv.cell (by simpa using hn) c0).1 (hmv.cell (by simpa using hn0) c1).1 (hmv.cell (by simpa using hn1) c2).1 g2 hn0 hn1 K fun w2 hM2 hx => ?_
    refine hK w2 _ (hM.trans hM2) hM2.size (fun k hk => hM2.block k (hoB k hk) (fun h => by have := hB k hk; rw [List.mem_singleton] at h; subst h; have := (Array.getElem?_eq_some_iff.1 c3).1; omega)) (fun hb => ⟨fun j hj h => ?_, hx⟩) (fun hb => ⟨i, hi, hb⟩)
    rw [List.mem_append, List.mem_singleton] at hj
    rcases hj with hj | rfl
    · exact g1 j hj h
    · exact hb
  enter := callFunc_eq1

theorem mLength_c {w : World} {r : Nat} {es : Ents} (hm : IsMap w r es) (R : Ending → World → Prop) (hR : R (.returned (.int .i64 es.length)) w) : Calls Tryz.prog 278 #[.map (some r)] w R := by
  have hl := run_len_ents (P := Tryz.prog) Tryz.underlying362 3 hm
  have hR' := Lib.hid hR
  clear hR
  go_enter Tryz.func278, Tryz.ntmps278
  go_wp2_with fail
  exact hR'.out
@[go_sem] theorem meth_mIterateUsing (n r : Nat) (w : World) : (method (n + 1) 362 (.map (some r)) "IterateUsing").run Tryz.prog w = .ok (277, .map (some r)) w := by kernel_rfl
theorem IsTm.len {w : World} {X : List Nat} {r : Nat} {ts : EntsOfT T} (h : IsTm w X r ts) : ∃ es, IsMap w r es ∧ es.length = ts.length := by
  obtain ⟨⟨es, h1, h2⟩, _⟩ := h
  exact ⟨es, h1, h2.length⟩
set_option maxRecDepth 100000 in
set_option maxHeartbeats 4000000 in
set_option pp.maxSteps 1000000 in
set_option pp.deepTerms true in
theorem mapEquals_c {w : World} {r1 r2 : Nat} {al : Value} {es : EntsOfT T} {keys : List ByteArray} {l : List T} (ih : ∀ i (h : i < (keys.zip l).length), EqC (keys.zip l)[i].2) (hal : IsAl al) (h1 : IsTm w [] r1 es) (h2 : IsTm w [] r2 (keys.zip l))
    (R : Ending → World → Prop) (hR : Ends R w (.bool (decide (es.length = (keys.zip l).length) && eqTm es keys l))) :
    Calls Tryz.prog 272 #[.map (some r1), al, .iface 362 (.map (some r2))] w R := by
  have hmf : ∀ (fn : Fn) (first cap : Array Value) (w : World), (Instr.makeFunc fn first cap).run Tryz.prog w = .ok (.func fn first cap) w := fun _ _ _ _ => rfl
  obtain ⟨us1, hu1, hl1⟩ := h1.len
  obtain ⟨us2, hu2, hl2⟩ := h2.len
  obtain ⟨n1, hn1⟩ : ∃ n, us1.length = n := ⟨_, rfl⟩
  obtain ⟨n2, hn2⟩ : ∃ n, us2.length = n := ⟨_, rfl⟩
  obtain ⟨ab, rfl⟩ := hal
  have h1' := Lib.hid h1
  have h2' := Lib.hid h2
  have hR' := Lib.hid hR
  have ih' := Lib.hid ih
  have hn1' := Lib.hid hn1
  have hn2' := Lib.hid hn2
  have hl1' := Lib.hid hl1
  have hl2' := Lib.hid hl2
  have hu1' := Lib.hid hu1
  have hu2' := Lib.hid hu2
  clear hR h1 h2 ih hn1 hn2 hl1 hl2 hu1 hu2
  have e12 : es.length = n1 := by rw [← hn1'.out, hl1'.out]
  have e22 : (keys.zip l).length = n2 := by rw [← hn2'.out, hl2'.out]
  rw [e12, e22] at hR'
  have e12' := Lib.hid e12
  have e22' := Lib.hid e22
  clear e12 e22
  by_cases hlen : n1 = n2
  · subst hlen
    by_cases hz : n1 = 0
    · subst hz
      have hd : (decide (0 = 0) && eqTm es keys l) = true := by
        rw [decide_eq_true rfl, Bool.true_and]
        exact eqTm_iff.2 fun i hi => by have := e22'.out; omega
      have hd' := Lib.hid hd
      clear hd
      go_enter_defers Tryz.func272, Tryz.ntmps272
      go_wp2_with fail
      refine abs2 (G := fun wr => Calls _ _ _ wr _) ?_
      intro w1 hE1 hb1 hb2 hs1
      have hs1' := Lib.hid hs1
      clear hs1
      refine mLength_c (hu1'.out.ext hE1) _ ?_
      rw [hn1'.out]
      have c0 := cells_of hb1 0
      have c1 := cells_of hb2 0
      simp only [List.getElem?_toArray, List.getElem?_cons_zero] at c0 c1
      dsimp only
      go_wp2_with fail
      refine mLength_c (hu2'.out.ext hE1) _ ?_
      rw [hn2'.out]
      dsimp only
      go_wp2_with fail
      refine leaves_free (by simp [results, Tryz.results272, go_sem]; try rfl) (hR'.out.bool hd'.out _ hE1) _ (by simp)
    · have hz' : ((n1 : Int) == 0) = false := by rw [beq_eq_false_iff_ne]; omega
      have hz0 := Lib.hid hz
      clear hz
      go_enter_defers Tryz.func272, Tryz.ntmps272
      go_wp2_with fail
      refine abs2 (G := fun wr => Calls _ _ _ wr _) ?_
      intro w1 hE1 hb1 hb2 hs1
      have hs1' := Lib.hid hs1
      clear hs1
      refine mLength_c (hu1'.out.ext hE1) _ ?_
      rw [hn1'.out]
      have c0 := cells_of hb1 0
      have c1 := cells_of hb2 0
      simp only [List.getElem?_toArray, List.getElem?_cons_zero] at c0 c1
      dsimp only
      go_wp2_with fail
      refine mLength_c (hu2'.out.ext hE1) _ ?_
      rw [hn2'.out]
      dsimp only
      go_wp2_with fail
      refine allocValue_c _ ?_
      intro w2 hE2 hb3
      have hE12 := hE1.trans hE2
      replace c0 := hE2.keep c0; replace c1 := hE2.keep c1
      dsimp only
      go_wp2_with fail
      refine abs1 (G := fun wr => Code.wp _ _ _ _ wr) ?_
      intro w3 hE3 hb4 hs3
      have hE13 := hE12.trans hE3
      replace c0 := hE3.keep c0; replace c1 := hE3.keep c1
      have c2 := cells_of hb4 0
      simp only [List.getElem?_toArray, List.getElem?_cons_zero] at c2
      have hb3' := (hE3.below.block _ (Array.getElem?_eq_some_iff.1 hb3).1).trans hb3
      have hl2 := hE2.size
      have hl1 := hs1'.out
      have hl3 := (Array.getElem?_eq_some_iff.1 hb3).1
      have hl1' := Lib.hid hl1
      clear hs3 hb4 hb3 hb1 hb2 hE2 hE3 hl1
      have hC : Ext w3 w3.drew := (Ext.refl _).drew
      refine wp_region_script [0, 1, 2, 3] [] (fun w' => Ext w3 w') [(.read, 0), (.pure, 1), (.read, 2), (.pure, 3), (.one, 4)] (by kernel_rfl) (by kernel_rfl) ?_
      (apply scr_read'; (· rfl); (· rfl); (· first | exact hC | exact (Ext.refl _).drew); (· (intro w' hw'; have c1_ := hw'.keep c1; go_simp; try rfl)); (· (simp [go_sem]; try rfl)))
      (apply scr_pure'; (· rfl); (· rfl); (· (intro w'; go_simp; try rfl)); (· (simp [go_sem]; try rfl)))
      (apply scr_read'; (· rfl); (· rfl); (· first | exact hC | exact (Ext.refl _).drew); (· (intro w' hw'; have c2_ := hw'.keep c2; go_simp; try rfl)); (· (simp [go_sem]; try rfl)))
      (apply scr_pure'; (· rfl); (· rfl); (· (intro w'; go_simp; try rfl)); (· (simp [go_sem]; try rfl)))
      refine scr_one rfl rfl (fun K2 hK2 => ?_)
      go_simp
      refine hK2 _ _ (fun h => by simp at h) ?_
      clear hK2
      refine scr_end ?_
      simp only [Exit.then]
      replace c0 := hC.keep c0; replace c1 := hC.keep c1; replace c2 := hC.keep c2
      have hE4 := hE13.trans hC
      have hb5 := (hC.below.block _ (Array.getElem?_eq_some_iff.1 hb3').1).trans hb3'
      clear hE1 hE12 hE13 hb3' hC
      go_wp2_with fail
      refine iterate_c (X := [w1.heap.size]) (h2'.out.mv ((hE4.mv []).more (by have := hl1'.out; omega))) (Old.cons (Array.getElem?_eq_some_iff.1 hb5).1 (Old.nil _)) ⟨ab, rfl⟩
        (eq_visit (x0 := .nilIface) ih'.out ⟨ab, rfl⟩ (h1'.out.mv ((hE4.mv []).more (by have := hl1'.out; omega))) c0 c1 c2 hb5 (by have := hl1'.out; omega) (by have := hl1'.out; omega) (by omega)) _ ?_ ?_
      · intro w5 B don hM hinv hall
        have hd : (decide (n1 = n1) && eqTm es keys l) = true := by
          rw [decide_eq_true rfl, Bool.true_and]
          exact eqTm_iff.2 fun i hi => hinv.1 i (hall i hi) hi
        have hE5 : Ext w w5 := hE4.mutated hM (by have := hl1'.out; simp; omega)
        have hd' := Lib.hid hd
        clear hd hinv hall
        dsimp only
        go_wp2_with fail
        refine leaves_free (by simp [results, Tryz.results272, go_sem]; try rfl) (hR'.out.bool hd'.out _ hE5) _ (by simp [freeD])
      · intro w5 B hM hs
        have hd : (decide (n1 = n1) && eqTm es keys l) = false := by
          rw [decide_eq_true rfl, Bool.true_and, Bool.eq_false_iff]
          intro h
          obtain ⟨i, hi, hf⟩ := hs
          rw [eqTm_iff.1 h i hi] at hf
          cases hf
        have hE5 : Ext w w5 := hE4.mutated hM (by have := hl1'.out; simp; omega)
        have hd' := Lib.hid hd
        clear hd hs
        dsimp only
        go_wp2_with fail
        refine leaves_free (by simp [results, Tryz.results272, go_sem]; try rfl) (hR'.out.bool hd'.out _ hE5) _ (by simp [freeD])
  · go_enter_defers Tryz.func272, Tryz.ntmps272
    go_wp2_with fail
    refine abs2 (G := fun wr => Calls _ _ _ wr _) ?_
    intro w1 hE1 hb1 hb2 hs1
    have hs1' := Lib.hid hs1
    clear hs1
    refine mLength_c (hu1'.out.ext hE1) _ ?_
    rw [hn1'.out]
    have c0 := cells_of hb1 0
    have c1 := cells_of hb2 0
    simp only [List.getElem?_toArray, List.getElem?_cons_zero] at c0 c1
    dsimp only
    go_wp2_with fail
    refine mLength_c (hu2'.out.ext hE1) _ ?_
    rw [hn2'.out]
    dsimp only
    go_wp2_with fail
    refine leaves_free (by simp [results, Tryz.results272, go_sem]; try rfl) (hR'.out.bool (by simp [hlen]) _ hE1) _ (by simp)

set_option maxRecDepth 100000 in
set_option maxHeartbeats 4000000 in
theorem listEqualsM_c {w : World} {s1 s2 al : Value} {ms ls : List T} (ih : ∀ i (h : i < ls.length), EqC ls[i]) (h1 : IsTs w [] s1 ms) (h2 : IsTs w [] s2 ls) (hal : IsAl al)
    (R : Ending → World → Prop) (hR : Ends R w (.bool (decide (ms.length = ls.length) && eqTs ms ls))) :
    Calls Tryz.prog 264 #[s1, al, .iface 361 s2] w R := by
  have hone : s1.oneCell' = true := by obtain ⟨b, o, c, rfl, _⟩ := h1.ex; rfl
  obtain ⟨b1, f1, k1, rfl, -⟩ := id h1.ex
  have h1' := Lib.hid h1
  have h2' := Lib.hid h2
  have hR' := Lib.hid hR
  have ih' := Lib.hid ih
  clear hR h1 h2 ih
  go_enter Tryz.func264, Tryz.ntmps264
  go_wp2_with fail
  refine abs1 (G := fun wr => Calls _ _ _ wr _) ?_
  intro w1 hE1 hb1 hs1
  refine listEquals_c ih'.out hb1 (h1'.out.mv (hE1.mv _)) (h2'.out.mv (hE1.mv _)) hal _ ?_
  intro w2 hE2
  dsimp only
  go_wp2_with fail
  exact hR'.out _ (hE1.trans hE2)
@[go_sem] theorem meth_lEqualsUsing (n c m : Nat) (o : Option Addr) (w : World) : (method (n + 1) 361 (.slice o m c) "EqualsUsing").run Tryz.prog w = .ok (264, .slice o m c) w := by kernel_rfl
@[go_sem] theorem meth_mEqualsUsing (n r : Nat) (w : World) : (method (n + 1) 362 (.map (some r)) "EqualsUsing").run Tryz.prog w = .ok (272, .map (some r)) w := by kernel_rfl
end Go.Proofs.YtihapgangilncaaGreat
