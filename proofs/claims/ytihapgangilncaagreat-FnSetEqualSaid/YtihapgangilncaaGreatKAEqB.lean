/- value.EqualsUsing, what it computes over trees; the As.. methods; the deferred Free. value.ListEqualsUsing. -/
import Derived.Test.YtihapgangilncaaGreatKALists
import Derived.Test.YtihapgangilncaaGreatKAPar
import Derived.Defers
namespace Go.Proofs.YtihapgangilncaaGreat
open Go.RowKit

def feq (x y : Nat) : Bool := FloatKind.f64.format.order x y == some .eq
def toF (n : Int) : Nat := floatOfInt .f64 n

mutual
def eqT : T → T → Bool
  | a, .null => a.isNull
  | a, .bool b => match a with | .bool c => c == b | _ => false
  | a, .int n => match a with | .int m => m == n | .float f => feq f (toF n) | _ => false
  | a, .float f => match a with | .float g => feq g f | .int m => feq (toF m) f | _ => false
  | a, .str s => match a with | .str t => t == s | _ => false
  | a, .list l => match a with | .list m => decide (m.length = l.length) && eqTs m l | _ => false
  | a, .map ks l => match a with | .map js m => decide ((js.zip m).length = (ks.zip l).length) && eqTm (js.zip m) ks l | _ => false
def eqTs : List T → List T → Bool
  | x :: m, y :: l => eqT x y && eqTs m l
  | _, _ => true
def eqTm : EntsOfT T → List ByteArray → List T → Bool
  | es, k :: ks, y :: l => (match getEnt k es with | some x => eqT x y | none => false) && eqTm es ks l
  | _, _, _ => true
end

set_option maxRecDepth 100000 in
set_option maxHeartbeats 1000000 in
theorem asInt_c {w0 w : World} {X : List Nat} {x : Value} {n : Int} (hx : IsT w0 X x (.int n)) (R : Ending → World → Prop) (hR : Ends R w (.int .i64 n)) :
    Calls Tryz.prog 245 #[.agg #[x]] w R := by
  have hR' := Lib.hid hR
  clear hR
  cases hx
  go_enter Tryz.func245, Tryz.ntmps245
  go_wp2_with fail
  exact hR'.out _ (.alloc _ _)
set_option maxRecDepth 100000 in
set_option maxHeartbeats 1000000 in
theorem asFloat_c {w0 w : World} {X : List Nat} {x : Value} {n : Nat} (hx : IsT w0 X x (.float n)) (R : Ending → World → Prop) (hR : Ends R w (.float .f64 n)) :
    Calls Tryz.prog 244 #[.agg #[x]] w R := by
  have hR' := Lib.hid hR
  clear hR
  cases hx
  go_enter Tryz.func244, Tryz.ntmps244
  go_wp2_with fail
  exact hR'.out _ (.alloc _ _)
set_option maxRecDepth 100000 in
set_option maxHeartbeats 1000000 in
theorem asString_c {w0 w : World} {X : List Nat} {x : Value} {n : ByteArray} (hx : IsT w0 X x (.str n)) (R : Ending → World → Prop) (hR : Ends R w (.string n)) :
    Calls Tryz.prog 250 #[.agg #[x]] w R := by
  have hR' := Lib.hid hR
  clear hR
  cases hx
  go_enter Tryz.func250, Tryz.ntmps250
  go_wp2_with fail
  exact hR'.out _ (.alloc _ _)
set_option maxRecDepth 100000 in
set_option maxHeartbeats 1000000 in
theorem asBool_c {w0 w : World} {X : List Nat} {x : Value} {n : Bool} (hx : IsT w0 X x (.bool n)) (R : Ending → World → Prop) (hR : Ends R w (.bool n)) :
    Calls Tryz.prog 243 #[.agg #[x]] w R := by
  have hR' := Lib.hid hR
  clear hR
  cases hx
  go_enter Tryz.func243, Tryz.ntmps243
  go_wp2_with fail
  exact hR'.out _ (.alloc _ _)

/-- v (of type value.Map) is a map of the trees ts -/
structure IsMp (w : World) (X : List Nat) (v : Value) (ts : EntsOfT T) : Prop where
  ex : ∃ r, v = .iface 362 (.map (some r)) ∧ IsTm w X r ts
theorem IsMp.mv {a b : World} {X Y : List Nat} {v : Value} {ts : EntsOfT T} (h : IsMp a X v ts) (hm : Mv a X b Y) : IsMp b Y v ts := by
  obtain ⟨s, e, h1⟩ := h.ex
  exact ⟨s, e, h1.mv hm⟩

set_option maxRecDepth 100000 in
set_option maxHeartbeats 1000000 in
theorem asMapUsing_c {w w0 : World} {X : List Nat} {x al : Value} {keys : List ByteArray} {l : List T} (hx : IsT w0 X x (.map keys l)) (hm : Mv w0 X w X) (R : Ending → World → Prop) (hR : ∀ w' v, Ext w w' → IsMp w' X v (keys.zip l) → R (.returned v) w') :
    Calls Tryz.prog 249 #[.agg #[x], al] w R := by
  obtain ⟨s, rfl, hs, -⟩ := hx.inv_map
  have hs' := Lib.hid hs
  have hR' := Lib.hid hR
  clear hR hs hx
  go_enter Tryz.func249, Tryz.ntmps249
  go_wp2_with fail
  exact hR'.out _ _ (.alloc _ _) ⟨_, rfl, hs'.out.mv (hm.ext (.alloc _ _))⟩

/-- an allocator -/
def IsAl (v : Value) : Prop := ∃ b, v = .iface 258 (.pointer (some ⟨b, 0, none⟩))

theorem free_d (p x : Value) (u : FrameMode) (w : World) : CallsD Tryz.prog 241 #[p, x] u w fun e u' w' => u' = u ∧ (e = .returned (.tuple #[]) ∧ w' = w) := by
  go_enter_d Tryz.func241, Tryz.ntmps241
  go_wp2_with fail
  exact bodyPost_end (by simp [results, Tryz.results241, go_sem]) rfl ⟨rfl, rfl⟩

@[go_sem] theorem meth_free (n b off : Nat) (w : World) : (method (n + 1) 258 (.pointer (some ⟨b, off, none⟩)) "Free").run Tryz.prog w = .ok (241, .pointer (some ⟨b, off, none⟩)) w := run_method_ptr n (by kernel_rfl) Tryz.underlying258
@[go_sem] theorem meth_allocV (n b off : Nat) (w : World) : (method (n + 1) 258 (.pointer (some ⟨b, off, none⟩)) "pub-coparcener/pub/structuredmerge/value.allocValueUnstructured").run Tryz.prog w = .ok (167, .pointer (some ⟨b, off, none⟩)) w := run_method_ptr n (by kernel_rfl) Tryz.underlying258

theorem allocValue_c {w : World} {p : Value} (R : Ending → World → Prop) (hR : ∀ w', Ext w w' → w'.heap[w.heap.size]? = some (.cells #[.nilIface] 292 (0, 0)) → R (.returned (.pointer (some ⟨w.heap.size, 0, none⟩))) w') :
    Calls Tryz.prog 167 #[p] w R := by
  have hR' := Lib.hid hR
  clear hR
  go_enter Tryz.func167, Tryz.ntmps167
  go_wp2_with fail
  exact hR'.out _ (Ext.alloc _ _) (by show (w.heap.push _)[_]? = _; rw [push_get, if_pos rfl])

def freeD (b : Nat) (x : Value) : Deferred := { target := .fn (.method "Free") #[], args := #[.iface 258 (.pointer (some ⟨b, 0, none⟩)), x] }
theorem run_freeD (b : Nat) (x : Value) (w : World) : (invoke (.fn (.method "Free") #[]) #[.iface 258 (.pointer (some ⟨b, 0, none⟩)), x]).run Tryz.prog w = .ok (.enter 241 #[.pointer (some ⟨b, 0, none⟩), x]) w := by
  simp [go_sem, invoke]
/-- behind a function's body: what it deferred were calls of Free, which do nothing -/
theorem leaves_free {fn : Func} {tmps : Array Value} {R : Ending → World → Prop} {w : World} {v : Value} (hr : (results fn tmps).run Tryz.prog w = .ok v w) (hR : R (.returned v) w) :
    ∀ (ds : List Deferred), (∀ d ∈ ds, ∃ b x, d = freeD b x) → Leaves Tryz.prog fn tmps R ds .returning w
  | [], _ => ⟨v, hr, hR⟩
  | d :: ds, h => by
    obtain ⟨b, x, rfl⟩ := h d (by simp)
    refine leaves_cons (f := 241) (args := #[.pointer (some ⟨b, 0, none⟩), x]) (by simp) (run_freeD b x w) ?_
    refine (free_d _ x .returning w).mono ?_
    rintro e u' w'' ⟨rfl, rfl, rfl⟩
    exact leaves_free hr hR ds (fun d hd => h d (by simp [hd]))

end Go.Proofs.YtihapgangilncaaGreat
namespace Go.Proofs.YtihapgangilncaaGreat
open Go.RowKit

def EqC (b : T) : Prop := ∀ (w : World) (X Y : List Nat) (a : T) (va vb al : Value), IsVal w X va a → IsVal w Y vb b → IsAl al → ∀ R : Ending → World → Prop, Ends R w (.bool (eqT a b)) →
  Calls Tryz.prog 203 #[al, va, vb] w R

theorem IsRange.mv {a b : World} {X Y : List Nat} {v : Value} {ts : List T} {n : Nat} {B : List Nat} (h : IsRange a X v ts n B) (hm : Mv a X b Y) : IsRange b Y v ts n B := by
  cases h with
  | empty b n => exact .empty _ _
  | @list rb ib _ v x _ h1 h2 hne hx1 hx2 h3 =>
    have q1 := hm.block rb (Array.getElem?_eq_some_iff.1 h1).1 hx1
    have q2 := hm.block ib (Array.getElem?_eq_some_iff.1 h2).1 hx2
    refine .list (q1.1.trans h1) (q2.1.trans h2) hne q1.2 q2.2 (h3.mv ⟨hm.size, fun k hk hn => ?_⟩)
    simp only [List.mem_cons, not_or] at hn ⊢
    exact ⟨(hm.block k hk hn.2.2).1, hn.1, hn.2.1, (hm.block k hk hn.2.2).2⟩

theorem IsRange.old {w : World} {X : List Nat} {v : Value} {ts : List T} {n : Nat} {B : List Nat} (h : IsRange w X v ts n B) : Old B w := by
  cases h with
  | empty b n => exact Old.nil _
  | @list rb ib _ v x _ h1 h2 hne hx1 hx2 h3 => exact Old.cons (Array.getElem?_eq_some_iff.1 h1).1 (Old.cons (Array.getElem?_eq_some_iff.1 h2).1 (Old.nil _))

theorem load_lu {b off : Nat} {x : Value} {w : World} (h : w.cell? ⟨b, off, none⟩ = some x) : (loadVar 361 ⟨b, off, none⟩).run Tryz.prog w = .ok x w := by
  have ha : (isAgg 361).run Tryz.prog w = .ok false w := by kernel_rfl
  simp [loadVar, ha, loadCells, loadCellsFrom, load, Sem.run, h, Addr.add]
@[go_sem] theorem meth_luLength (n b off : Nat) (x : Value) (w : World) (h : w.cell? ⟨b, off, none⟩ = some x) : (method (n + 1) 386 (.pointer (some ⟨b, off, none⟩)) "Length").run Tryz.prog w = .ok (265, x) w := run_method_val n (by kernel_rfl) Tryz.underlying386 (load_lu h)
@[go_sem] theorem meth_luRangeUsing (n b off : Nat) (x : Value) (w : World) (h : w.cell? ⟨b, off, none⟩ = some x) : (method (n + 1) 386 (.pointer (some ⟨b, off, none⟩)) "RangeUsing").run Tryz.prog w = .ok (267, x) w := run_method_val n (by kernel_rfl) Tryz.underlying386 (load_lu h)

theorem lLength_c {w : World} {o : Option Addr} {n c : Nat} (R : Ending → World → Prop) (hR : R (.returned (.int .i64 n)) w) : Calls Tryz.prog 265 #[.slice o n c] w R := by
  have hR' := Lib.hid hR
  clear hR
  go_enter Tryz.func265, Tryz.ntmps265
  go_wp2_with fail
  exact hR'.out

def stepsOf : Value → Nat
  | .int _ n => n.toNat + 1
  | _ => 0

theorem eqTs_iff : ∀ {m l : List T}, m.length = l.length → (eqTs m l = true ↔ ∀ i (h : i < m.length) (h2 : i < l.length), eqT m[i] l[i] = true)
  | [], [], _ => by simp [eqTs]
  | [], _ :: _, h => by simp at h
  | _ :: _, [], h => by simp at h
  | x :: m, y :: l, h => by
    simp only [eqTs, Bool.and_eq_true, eqTs_iff (m := m) (l := l) (by simpa using h)]
    constructor
    · rintro ⟨h1, h2⟩ i hi hi2
      cases i with
      | zero => exact h1
      | succ i => exact h2 i (by simpa using hi) (by simpa using hi2)
    · intro h
      exact ⟨h 0 (by simp) (by simp), fun i hi hi2 => h (i + 1) (by simpa using hi) (by simpa using hi2)⟩

set_option maxRecDepth 100000 in
set_option maxHeartbeats 4000000 in
set_option pp.maxSteps 1000000 in
set_option pp.deepTerms true in
theorem listEquals_c {w : World} {s1 s2 al : Value} {bs : Nat} {ms ls : List T} (ih : ∀ i (h : i < ls.length), EqC ls[i]) (hb : w.heap[bs]? = some (.cells #[s1] 361 (0, 0))) (h1 : IsTs w [] s1 ms) (h2 : IsTs w [] s2 ls) (hal : IsAl al)
    (R : Ending → World → Prop) (hR : Ends R w (.bool (decide (ms.length = ls.length) && eqTs ms ls))) :
    Calls Tryz.prog 268 #[al, .iface 386 (.pointer (some ⟨bs, 0, none⟩)), .iface 361 s2] w R := by
  obtain ⟨ab, rfl⟩ := hal
  obtain ⟨b1, f1, k1, rfl, l1, -⟩ := id h1.ex
  obtain ⟨b2, f2, k2, rfl, l2, -⟩ := id h2.ex
  have c0 : w.cell? ⟨bs, 0, none⟩ = some (.slice (some ⟨b1, f1, none⟩) ms.length k1) := cells_of hb 0
  have h1' := Lib.hid h1
  have h2' := Lib.hid h2
  have hR' := Lib.hid hR
  have ih' := Lib.hid ih
  clear hR h1 h2 hb ih
  by_cases hlen : ms.length = ls.length
  · have h1 := h1'.out
    rw [hlen] at h1 c0
    replace h1' := Lib.hid h1
    have hlen' := Lib.hid hlen
    clear h1 hlen l1
    go_enter_defers Tryz.func268, Tryz.ntmps268
    go_wp2_with fail
    refine lLength_c _ ?_
    dsimp only
    go_wp2_with fail
    refine lLength_c _ ?_
    dsimp only
    go_wp2_with fail
    refine rangeUsing_c h1'.out (Old.nil _) _ ?_
    intro w1 v1 B1 hE1 hr1 hB1
    have hr1' := Lib.hid hr1
    have hB1' := Lib.hid hB1
    clear hr1 hB1 c0
    dsimp only
    go_wp2_with fail
    refine rangeUsing_c (X := B1) (h2'.out.mv (by simpa using (hE1.mv []).moreL hB1'.out)) hr1'.out.old _ ?_
    intro w2 v2 B2 hE2 hr2 hB2
    have hr1b : IsRange w2 B2 v1 ms 0 B1 := hr1'.out.mv (by simpa using (hE2.mv []).moreL hB2)
    have hr2' := Lib.hid hr2
    have hr1b' := Lib.hid hr1b
    have hB2' := Lib.hid hB2
    have hE := hE1.trans hE2
    clear hr2 hB2 hr1b hr1'
    dsimp only
    have r1 := hr1b'.out
    cases r1 with
    | empty e1 e2 =>
      have hd : (decide (([] : List T).length = ls.length) && eqTs [] ls) = true := by have := hlen'.out; simp only [List.length_nil] at this ⊢; rw [← this]; simp [eqTs]
      have hd' := Lib.hid hd
      clear hd
      go_wp2_with fail
      go_loopw [9] (fun i wr => i = undef ∧ Ext w wr) (fun _ _ => 0)
      case atStart => exact ⟨rfl, hE⟩
      case round =>
        obtain ⟨rfl, hEr⟩ := hrel
        go_wp2_with fail
        refine emptyNext_c _ ?_
        dsimp only
        go_wp2_with fail
        refine leaves_free (by simp [results, Tryz.results268, go_sem]; try rfl) (hR'.out.bool hd'.out _ hEr) _ (by simp [freeD])
    | @list rb ib _ sv x _ p1 p2 hne px1 px2 p3 =>
      have r2 := hr2'.out
      cases r2 with
      | empty e1 e2 =>
        have hd : (decide (ms.length = ([] : List T).length) && eqTs ms []) = true := by have := hlen'.out; rw [this]; simp [eqTs]
        have hd' := Lib.hid hd
        have hz : ms.length = 0 := hlen'.out
        have hz0 := Lib.hid hz
        have p1' := Lib.hid p1
        have p2' := Lib.hid p2
        have p3' := Lib.hid p3
        clear hd hz p1 p2 p3
        go_wp2_with fail
        go_loopw [9] (fun i wr => i = undef ∧ wr = w2) (fun _ _ => 0)
        case atStart => exact ⟨rfl, rfl⟩
        case round =>
          obtain ⟨rfl, rfl⟩ := hrel
          go_wp2_with fail
          refine rangeNext_c p1'.out p2'.out hne px1 px2 p3'.out (Nat.zero_le _) _ ?_
          intro w3 hM hr3
          clear hr3
          rw [hz0.out]
          have hE3 := hE.mutated hM (fun k hk => Nat.le_trans (hB1'.out k hk) (Nat.le_refl _))
          dsimp only
          go_wp2_with fail
          refine leaves_free (by simp [results, Tryz.results268, go_sem]; try rfl) (hR'.out.bool hd'.out _ hE3) _ (by simp [freeD])
      | @list rc ic _ sv2 x2 _ q1 q2 hne2 qx1 qx2 q3 =>
        have hs1 : IsRange w2 [rc, ic] (.iface 382 (.pointer (some ⟨rb, 0, none⟩))) ms 0 [rb, ib] := .list p1 p2 hne px1 px2 p3
        have hs2 : IsRange w2 [rb, ib] (.iface 382 (.pointer (some ⟨rc, 0, none⟩))) ls 0 [rc, ic] := .list q1 q2 hne2 qx1 qx2 q3
        have hs1' := Lib.hid hs1
        have hs2' := Lib.hid hs2
        clear hs1 hs2 p1 p2 p3 q1 q2 q3 hr2' hr1b'
        go_wp2_with fail
        go_loopw [9] (fun i wr => ∃ k, k ≤ ms.length ∧ stepsOf i = k ∧ Ext w wr ∧ Hid (IsRange wr [rc, ic] (.iface 382 (.pointer (some ⟨rb, 0, none⟩))) ms k [rb, ib]) ∧ Hid (IsRange wr [rb, ib] (.iface 382 (.pointer (some ⟨rc, 0, none⟩))) ls k [rc, ic]) ∧
          Hid (∀ j (h : j < ms.length) (h2 : j < ls.length), j < k → eqT ms[j] ls[j] = true)) (fun i _ => ms.length - stepsOf i)
        case atStart => exact ⟨0, Nat.zero_le _, rfl, hE, hs1', hs2', Lib.hid (fun j _ _ h => by omega)⟩
        case round =>
          obtain ⟨k, hk, hst, hEr, g1, g2, g3⟩ := hrel
          have hst' := Lib.hid hst
          clear hst
          rename World => wr
          have hb1 : ∀ b ∈ [rb, ib], w.heap.size ≤ b := hB1'.out
          have hb2 : ∀ b ∈ [rc, ic], w.heap.size ≤ b := fun b hb => Nat.le_trans hE1.size (hB2'.out b hb)
          have hb1' := Lib.hid hb1
          have hb2' := Lib.hid hb2
          clear hb1 hb2
          have e1 := g1.out
          cases e1 with
          | @list _ _ _ tv1 y1 _ P1 P2 _ PX1 PX2 P3 =>
          have P1' := Lib.hid P1
          have P2' := Lib.hid P2
          have P3' := Lib.hid P3
          clear P1 P2 P3
          go_wp2_with fail
          refine rangeNext_c P1'.out P2'.out hne PX1 PX2 P3'.out hk _ ?_
          intro wa hMa hra
          have hEa := hEr.mutated hMa hb1'.out
          have hra' := Lib.hid hra
          clear hra P1' P2' P3'
          by_cases hlt : k < ms.length
          · rw [decide_eq_true hlt]
            have hlt2 : k < ls.length := by rw [← hlen'.out]; exact hlt
            have f1 := g2.out.mv (hMa.mv (X := [rb, ib]) (fun _ h => h))
            cases f1 with
            | @list _ _ _ tv2 y2 _ Q1 Q2 _ QX1 QX2 Q3 =>
            have Q1' := Lib.hid Q1
            have Q2' := Lib.hid Q2
            have Q3' := Lib.hid Q3
            clear Q1 Q2 Q3
            dsimp only
            go_wp2_with fail
            refine rangeNext_c Q1'.out Q2'.out hne2 QX1 QX2 Q3'.out (Nat.le_of_lt hlt2) _ ?_
            intro wb hMb hrb
            have hEb := hEa.mutated hMb hb2'.out
            have hrb' := Lib.hid hrb
            clear hrb Q1' Q2' Q3'
            rw [decide_eq_true hlt2]
            have f2 := hra'.out.mv (hMb.mv (X := [rc, ic]) (fun _ h => h))
            cases f2 with
            | @list _ _ _ tv3 y3 _ S1 S2 _ SX1 SX2 S3 =>
            have S1' := Lib.hid S1
            have S2' := Lib.hid S2
            have S3' := Lib.hid S3
            clear S1 S2 S3
            dsimp only
            go_wp2_with fail
            refine rangeItem_c S1'.out S2'.out hne SX1 SX2 S3'.out hlt _ ?_
            intro wc y hMc hrc hyc hyT
            have hEc := hEb.mutated hMc hb1'.out
            have hrc' := Lib.hid hrc
            have hyT' := Lib.hid hyT
            clear hrc S1' S2' S3' hyT hra'
            have f3 := hrb'.out.mv (hMc.mv (X := [rb, ib]) (fun _ h => h))
            cases f3 with
            | @list _ _ _ tv4 y4 _ U1 U2 _ UX1 UX2 U3 =>
            have U1' := Lib.hid U1
            have U2' := Lib.hid U2
            have U3' := Lib.hid U3
            clear U1 U2 U3
            dsimp only
            go_wp2_with fail
            refine rangeItem_c U1'.out U2'.out hne2 UX1 UX2 U3'.out hlt2 _ ?_
            intro wd z hMd hrd hzd hzT
            have hEd := hEc.mutated hMd hb2'.out
            have hrd' := Lib.hid hrd
            have hva : IsVal wd [] (.iface 261 (.pointer (some ⟨ib, 0, none⟩))) ms[k] :=
              ⟨ib, y, rfl, (hMd.block _ (Array.getElem?_eq_some_iff.1 hyc).1 SX2).trans hyc, by simp, hyT'.out.mv ((hMd.mv (X := rb :: ib :: [rc, ic]) (by simp)).less (Z := []) (by simp))⟩
            have hvb : IsVal wd [] (.iface 261 (.pointer (some ⟨ic, 0, none⟩))) ls[k] :=
              ⟨ic, z, rfl, hzd, by simp, hzT.mv ((Mv.refl wd _).less (Z := []) (by simp))⟩
            have hva' := Lib.hid hva
            have hvb' := Lib.hid hvb
            have hrc2 := Lib.hid (hrc'.out.mv (hMd.mv (X := [rc, ic]) (fun _ h => h)))
            clear hrd U1' U2' U3' hva hvb hrb' hrc' hzT hyT' hyc hzd hMa hMb hMc hMd hEa hEb hEc
            dsimp only
            go_wp2_with fail
            refine ih'.out k hlt2 wd [] [] ms[k] _ _ _ hva'.out hvb'.out ⟨ab, rfl⟩ _ ?_
            intro we hEe
            cases hq : eqT ms[k] ls[k]
            · have hd : (decide (ms.length = ls.length) && eqTs ms ls) = false := by
                rw [Bool.and_eq_false_iff]
                refine .inr (Bool.eq_false_iff.2 fun h => ?_)
                rw [(eqTs_iff hlen'.out).1 h k hlt hlt2] at hq
                cases hq
              have hd' := Lib.hid hd
              have hq' := Lib.hid hq
              clear hd hq
              dsimp only
              go_wp2_with fail
              refine leaves_free (by simp [results, Tryz.results268, go_sem]; try rfl) (hR'.out.bool hd'.out _ (hEd.trans hEe)) _ (by simp [freeD])
            · have hq' := Lib.hid hq
              clear hq
              dsimp only
              go_wp2_with fail
              go_roundw
              case rel =>
                refine ⟨k + 1, hlt, by simp [stepsOf], hEd.trans hEe, Lib.hid (hrc2.out.mv (hEe.mv _)), Lib.hid (hrd'.out.mv (hEe.mv _)), Lib.hid fun j h h2 hj => ?_⟩
                by_cases ej : j = k
                · subst ej; exact hq'.out
                · exact g3.out j h h2 (by omega)
              case measure => rw [hst'.out]; simp [stepsOf]; omega
          · rw [decide_eq_false hlt]
            have ek : k = ms.length := by omega
            have hd : (decide (ms.length = ls.length) && eqTs ms ls) = true := by
              rw [Bool.and_eq_true]
              exact ⟨decide_eq_true hlen'.out, (eqTs_iff hlen'.out).2 fun i h h2 => g3.out i h h2 (by omega)⟩
            have hd' := Lib.hid hd
            clear hd ek
            dsimp only
            go_wp2_with fail
            refine leaves_free (by simp [results, Tryz.results268, go_sem]; try rfl) (hR'.out.bool hd'.out _ hEa) _ (by simp [freeD])
  · go_enter_defers Tryz.func268, Tryz.ntmps268
    go_wp2_with fail
    refine lLength_c _ ?_
    dsimp only
    go_wp2_with fail
    refine lLength_c _ ?_
    dsimp only
    go_wp2_with fail
    refine leaves_free (by simp [results, Tryz.results268, go_sem]; try rfl) (hR'.out.bool (by simp [hlen]) _ (Ext.refl _)) _ (by simp)
end Go.Proofs.YtihapgangilncaaGreat
