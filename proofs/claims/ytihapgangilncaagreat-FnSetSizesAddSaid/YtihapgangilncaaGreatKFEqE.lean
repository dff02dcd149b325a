/- value.ListEqualsUsing. mapUnstructuredString.IterateUsing with any function. mapUnstructuredString.EqualsUsing. value.EqualsUsing. (printed by gen_equals.py) -/
import Derived.Test.YtihapgangilncaaGreatKFEqA
namespace Go.Proofs.YtihapgangilncaaGreat
open Go.RowKit

theorem IsRange.mv {a b : World} {X Y : List Nat} {v : Value} {ts : List T} {n : Nat} {B : List Nat} (h : IsRange a X v ts n B) (hm : Mv a X b Y) : IsRange b Y v ts n B := by
  cases h with
  | empty b n => exact .empty _ _
  | @list rb ib _ v x _ h1 h2 hne hx1 hx2 h3 =>
    have q1 := hm.block rb (Array.getElem?_eq_some_iff.1 h1).1 hx1
    have q2 := hm.block ib (Array.getElem?_eq_some_iff.1 h2).1 hx2
    refine .list (q1.1.trans h1) (q2.1.trans h2) hne q1.2 q2.2 (h3.mv ⟨hm.size, fun k hk hn => ?_⟩)
    simp only [List.mem_cons, not_or] at hn ⊢
    exact ⟨(hm.block k hk hn.2.2).1, hn.1, hn.2.1, (hm.block k hk hn.2.2).2⟩

theorem IsRange.old {w : World} {X : List Nat} {v : Value} {ts : List T} {n : Nat} {B : List Nat} (h : IsRange w X v ts n B) : Old B w := by
  cases h with
  | empty b n => exact Old.nil _
  | @list rb ib _ v x _ h1 h2 hne hx1 hx2 h3 => exact Old.cons (Array.getElem?_eq_some_iff.1 h1).1 (Old.cons (Array.getElem?_eq_some_iff.1 h2).1 (Old.nil _))

theorem load_lu {b off : Nat} {x : Value} {w : World} (h : w.cell? ⟨b, off, none⟩ = some x) : (loadVar 361 ⟨b, off, none⟩).run Tryz.prog w = .ok x w := by
  have ha : (isAgg 361).run Tryz.prog w = .ok false w := by kernel_rfl
  simp [loadVar, ha, loadCells, loadCellsFrom, load, Sem.run, h, Addr.add]
@[go_sem] theorem meth_luLength (n b off : Nat) (x : Value) (w : World) (h : w.cell? ⟨b, off, none⟩ = some x) : (method (n + 1) 386 (.pointer (some ⟨b, off, none⟩)) "Length").run Tryz.prog w = .ok (265, x) w := run_method_val n (by kernel_rfl) Tryz.underlying386 (load_lu h)
@[go_sem] theorem meth_luRangeUsing (n b off : Nat) (x : Value) (w : World) (h : w.cell? ⟨b, off, none⟩ = some x) : (method (n + 1) 386 (.pointer (some ⟨b, off, none⟩)) "RangeUsing").run Tryz.prog w = .ok (267, x) w := run_method_val n (by kernel_rfl) Tryz.underlying386 (load_lu h)

def stepsOf : Value → Nat
  | .int _ n => n.toNat + 1
  | _ => 0

end Go.Proofs.YtihapgangilncaaGreat
namespace Go.Proofs.YtihapgangilncaaGreat
open Go.RowKit

/-- the state of a walk over a map: what holds once the entries at the places of don have been visited; B are blocks of the walk's own -/
structure Visit (w : World) (X : List Nat) (ts : EntsOfT T) (F : FuncId) (cap : Array Value) (Inv : List Nat → List Nat → World → Prop) (Stop : List Nat → World → Prop) : Prop where
  start : ∀ B w1, Ext w w1 → (∀ b ∈ B, w.heap.size ≤ b) → Inv B [] w1
  keep : ∀ B don w1 w2, (∀ b ∈ B, w.heap.size ≤ b) → Inv B don w1 → Mut w1 B w2 → Inv B don w2
  step : ∀ B don i (hi : i < ts.length) w1 val, i ∉ don → (∀ b ∈ B, w.heap.size ≤ b) → Old B w1 → Mut w X w1 → Inv B don w1 → IsVal w1 X val (ts[i]).2 → ∀ K : Ending → World → Prop,
    (∀ w2 b, Mut w X w2 → w1.heap.size ≤ w2.heap.size → (∀ k ∈ B, w2.heap[k]? = w1.heap[k]?) → (b = true → Inv B (don ++ [i]) w2) → (b = false → Stop B w2) → K (.returned (.bool b)) w2) → Calls Tryz.prog F (#[.string (ts[i]).1, val] ++ cap) w1 K
  enter : ∀ (args : Array Value) (w : World), (callFunc F args).run Tryz.prog w = .ok (.enter F args) w

def seenOf (w : World) (it : Nat) : Nat := match w.heap[it]? with
  | some (.mapIter _ _ seen _) => seen.size
  | _ => 0
theorem IterAt.seen {w : World} {it r : Nat} {es : Ents} {don : List Nat} (h : IterAt w it r es don) : seenOf w it = don.length := by
  obtain ⟨mes, clock, seen, _, _, h2, h3, _⟩ := h.ex
  have := congrArg List.length h3
  simp [seenOf, h2] at this ⊢
  exact this
theorem Mut.newer {a b c : World} {X : List Nat} {g : Nat} (h : Mut a X b) (hg : b.grownBy c (some g)) (hn : a.heap.size ≤ g) : Mut a X c :=
  ⟨hg.os.trans h.os, hg.tape.trans h.tape, hg.output.trans h.output, Nat.le_trans h.size hg.size, fun k hk hx => (hg.block k (Nat.lt_of_lt_of_le hk h.size) (fun e => by cases e; omega)).trans (h.block k hk hx)⟩
theorem nodup_bound (n : Nat) (l : List Nat) (h : l.Nodup) (hb : ∀ i ∈ l, i < n) : l.length ≤ n := by
  have := nodup_le (G := List.range n) h (fun k hk => List.mem_range.2 (hb k hk))
  simpa using this

set_option maxRecDepth 100000 in
set_option maxHeartbeats 4000000 in
set_option pp.maxSteps 1000000 in
set_option pp.deepTerms true in
theorem iterate_c {w : World} {X : List Nat} {r : Nat} {al : Value} {ts : EntsOfT T} {F : FuncId} {cap : Array Value} {Inv : List Nat → List Nat → World → Prop} {Stop : List Nat → World → Prop} (hm : IsTm w X r ts) (hX : Old X w) (hal : IsAl al) (hv : Visit w X ts F cap Inv Stop)
    (R : Ending → World → Prop) (hR : ∀ w' B don, Mut w X w' → Inv B don w' → (∀ i, i < ts.length → i ∈ don) → R (.returned (.bool true)) w') (hS : ∀ w' B, Mut w X w' → Stop B w' → R (.returned (.bool false)) w') :
    Calls Tryz.prog 277 #[.map (some r), al, .func (.func F) #[] cap] w R := by
  obtain ⟨ab, rfl⟩ := hal
  obtain ⟨⟨es, hm1, hm2⟩, hrX, hb, hk⟩ := id hm
  have hlen := hm2.length
  have hm' := Lib.hid hm
  have hv' := Lib.hid hv
  have hR' := Lib.hid hR
  have hS' := Lib.hid hS
  have hX' := Lib.hid hX
  have hm2' := Lib.hid hm2
  have hl := run_len_ents (P := Tryz.prog) Tryz.underlying362 3 hm1
  clear hm hv hR hS hX hm2
  by_cases hz : es.length = 0
  · have hz' : ((es.length : Int) == 0) = true := by simpa using hz
    have hzz := Lib.hid hz
    have hlen' := Lib.hid hlen
    clear hz hlen
    go_enter_defers Tryz.func277, Tryz.ntmps277
    go_wp2_with fail
    refine leaves_free (by simp [results, Tryz.results277, go_sem]; try rfl) (hR'.out w [] [] ((Ext.refl w).mut X) (hv'.out.start [] w (Ext.refl w) (by simp)) (fun i hi => by have := hlen'.out; have := hzz.out; omega)) _ (by simp)
  · have hz' : ((es.length : Int) == 0) = false := by rw [beq_eq_false_iff_ne]; omega
    have hlen' := Lib.hid hlen
    clear hz hlen
    go_enter_defers Tryz.func277, Tryz.ntmps277
    go_wp2_with fail
    refine allocValue_c _ ?_
    intro w1 hE1 hb1
    dsimp only
    have hm3 : IsMap w1 r es := hm1.ext hE1
    obtain ⟨ob, hrun, hit⟩ := run_range_ents (P := Tryz.prog) Tryz.underlying362 hm3
    have hsz1 : w.heap.size < w1.heap.size := (Array.getElem?_eq_some_iff.1 hb1).1
    have hE2 : Ext w (w1.alloc ob) := hE1.push ob
    have hb2 : (w1.alloc ob).heap[w.heap.size]? = some (.cells #[.nilIface] 292 (0, 0)) := ((Ext.alloc w1 ob).below.block _ hsz1).trans hb1
    have hB : ∀ b ∈ [w.heap.size, w1.heap.size], w.heap.size ≤ b := by simp; omega
    have hst := hv'.out.start [w.heap.size, w1.heap.size] _ hE2 hB
    have hB' := Lib.hid hB
    have hst' := Lib.hid hst
    clear hl hm1 hm3 hst hB hb1
    go_wp2_with fail
    go_loopw [8] (fun _ wr => ∃ (don : List Nat) (x : Value), Mut w X wr ∧ w1.heap.size < wr.heap.size ∧ wr.heap[w.heap.size]? = some (.cells #[x] 292 (0, 0)) ∧ IterAt wr w1.heap.size r es don ∧ (∀ i ∈ don, i < es.length) ∧ Hid (Inv [w.heap.size, w1.heap.size] don wr))
      (fun _ wr => es.length - seenOf wr w1.heap.size)
    case atStart => exact ⟨[], _, hE2.mut X, by simp, hb2, hit, by simp, hst'⟩
    case round =>
      obtain ⟨don, x, hMu, hsz, hbv, hI, hdl, hinv⟩ := hrel
      rename World => wr
      clear hit hb2 hE2 hrun
      go_wp2_with (refine wpL_next rfl _ rfl rfl hI ?_ ?_)
      · intro i hi hni w2 hI2 hg2 hs2
        have hent := run_entry_ents (P := Tryz.prog) hi hI2
        have hi' : i < ts.length := by rw [← hlen'.out]; exact hi
        obtain ⟨hkey, hval⟩ := hm2'.out.get i hi hi'
        have hone := hval.one
        have hbv2 : w2.heap[w.heap.size]? = some (.cells #[x] 292 (0, 0)) := (hg2.block _ (by omega) (fun e => by have := Option.some.inj e; omega)).trans hbv
        have hM2 := hMu.newer hg2 (by omega)
        have hval' := Lib.hid hval
        have hkey' := Lib.hid hkey
        have hinv' := Lib.hid (hv'.out.keep _ _ _ _ hB'.out hinv.out (grown_mut hg2 (B := [w.heap.size, w1.heap.size]) (by simp)))
        have hmea := hI.seen
        have hmea' := Lib.hid hmea
        clear hval hkey hI hbv hinv hmea hs2
        go_wp2_with fail
        refine reuse_c hbv2 hone _ ?_
        intro w3 hbv3 hg3
        have hM3 := hM2.newer hg3 (Nat.le_refl _)
        have hinv3 := Lib.hid (hv'.out.keep _ _ _ _ hB'.out hinv'.out (grown_mut hg3 (B := [w.heap.size, w1.heap.size]) (by simp)))
        have hI3 : IterAt w3 w1.heap.size r es (don ++ [i]) := hI2.keep (hg3.block _ hI2.lt.1 (fun e => by have := Option.some.inj e; omega)) (hg3.block _ hI2.lt.2.1 (fun e => by have := Option.some.inj e; have := (hm'.out.ex.choose_spec.1).lt; omega))
        have hv3 : IsVal w3 X (.iface 261 (.pointer (some ⟨w.heap.size, 0, none⟩))) (ts[i]).2 := ⟨_, _, rfl, hbv3, fun h => Nat.lt_irrefl _ (hX'.out _ h), hval'.out.mv (hM3.mv (fun _ h => h))⟩
        have hsz3 : w1.heap.size < w3.heap.size := by have := hg2.size; have := hg3.size; omega
        have hv3' := Lib.hid hv3
        clear hv3 hM2 hbv2 hinv' hg2 hg3 hI2 hent hval'
        dsimp only
        go_wp2_with fail
        rw [hv'.out.enter, Oper.upon_enter]
        rw [show (#[Value.string (es[i]).1, .iface 261 (.pointer (some ⟨w.heap.size, 0, none⟩))] : Array Value) = #[.string (ts[i]).1, .iface 261 (.pointer (some ⟨w.heap.size, 0, none⟩))] from by rw [hkey'.out]]
        refine hv'.out.step [w.heap.size, w1.heap.size] don i hi' w3 _ hni hB'.out (Old.cons (by omega) (Old.cons hsz3 (Old.nil _))) hM3 hinv3.out hv3'.out _ ?_
        intro w4 b hM4 hsz4 hBk hin hsto
        dsimp only
        have hbv4 : w4.heap[w.heap.size]? = some (.cells #[(es[i]).2] 292 (0, 0)) := (hBk _ (by simp)).trans hbv3
        have hI4 : IterAt w4 w1.heap.size r es (don ++ [i]) := hI3.keep (hBk _ (by simp)) ((hM4.block r (hm'.out.ex.choose_spec.1).lt hrX).trans (hM3.block r (hm'.out.ex.choose_spec.1).lt hrX).symm)
        have hin' := Lib.hid hin
        have hsto' := Lib.hid hsto
        clear hM3 hI3 hbv3 hinv3 hv3' hBk hin hsto
        cases b
        · have hs := hsto'.out rfl
          have hs' := Lib.hid hs
          clear hs
          go_wp2_with fail
          refine leaves_free (by simp [results, Tryz.results277, go_sem]; try rfl) (hS'.out w4 _ hM4 hs'.out) _ (by simp [freeD])
        · go_wp2_with fail
          go_roundw
          case rel =>
            refine ⟨don ++ [i], _, hM4, Nat.lt_of_lt_of_le hsz3 hsz4, hbv4, hI4, fun j hj => ?_, Lib.hid (hin'.out rfl)⟩
            rcases List.mem_append.1 hj with hj | hj
            · exact hdl j hj
            · rw [List.mem_singleton] at hj; rw [hj]; exact hi
          case measure =>
            rw [hI4.seen, hmea'.out, List.length_append, List.length_singleton]
            have := nodup_bound es.length _ hI4.nodup (fun j hj => by
              rcases List.mem_append.1 hj with hj | hj
              · exact hdl j hj
              · rw [List.mem_singleton] at hj; rw [hj]; exact hi)
            simp only [List.length_append, List.length_singleton] at this
            omega
      · intro hall
        have hall' := Lib.hid hall
        clear hall
        go_wp2_with fail
        refine leaves_free (by simp [results, Tryz.results277, go_sem]; try rfl) (hR'.out wr _ don hMu hinv.out (fun i hi => hall'.out i (by rw [hlen'.out]; exact hi))) _ (by simp [freeD])
end Go.Proofs.YtihapgangilncaaGreat
namespace Go.Proofs.YtihapgangilncaaGreat
open Go.RowKit

set_option maxRecDepth 100000 in
theorem zero_any : ∀ w, (zeroValue 20).run Tryz.prog w = .ok .nilIface w := fun _ => by kernel_rfl

theorem mLength_c {w : World} {r : Nat} {es : Ents} (hm : IsMap w r es) (R : Ending → World → Prop) (hR : R (.returned (.int .i64 es.length)) w) : Calls Tryz.prog 278 #[.map (some r)] w R := by
  have hl := run_len_ents (P := Tryz.prog) Tryz.underlying362 3 hm
  have hR' := Lib.hid hR
  clear hR
  go_enter Tryz.func278, Tryz.ntmps278
  go_wp2_with fail
  exact hR'.out
@[go_sem] theorem meth_mIterateUsing (n r : Nat) (w : World) : (method (n + 1) 362 (.map (some r)) "IterateUsing").run Tryz.prog w = .ok (277, .map (some r)) w := by kernel_rfl
theorem IsTm.len {w : World} {X : List Nat} {r : Nat} {ts : EntsOfT T} (h : IsTm w X r ts) : ∃ es, IsMap w r es ∧ es.length = ts.length := by
  obtain ⟨⟨es, h1, h2⟩, _⟩ := h
  exact ⟨es, h1, h2.length⟩
@[go_sem] theorem meth_lEqualsUsing (n c m : Nat) (o : Option Addr) (w : World) : (method (n + 1) 361 (.slice o m c) "EqualsUsing").run Tryz.prog w = .ok (264, .slice o m c) w := by kernel_rfl
@[go_sem] theorem meth_mEqualsUsing (n r : Nat) (w : World) : (method (n + 1) 362 (.map (some r)) "EqualsUsing").run Tryz.prog w = .ok (272, .map (some r)) w := by kernel_rfl
end Go.Proofs.YtihapgangilncaaGreat
namespace Go.Proofs.YtihapgangilncaaGreat
open Go.RowKit
set_option linter.unusedSimpArgs false

theorem T.float_of {t : T} (h : t.isFloat = true) : ∃ f, t = .float f := by cases t <;> simp_all [T.isFloat]
theorem T.int_of {t : T} (h : t.isInt = true) : ∃ f, t = .int f := by cases t <;> simp_all [T.isInt]
theorem T.str_of {t : T} (h : t.isString = true) : ∃ f, t = .str f := by cases t <;> simp_all [T.isString]
theorem T.bool_of {t : T} (h : t.isBool = true) : ∃ f, t = .bool f := by cases t <;> simp_all [T.isBool]
theorem T.list_of {t : T} (h : t.isList = true) : ∃ f, t = .list f := by cases t <;> simp_all [T.isList]
theorem T.map_of {t : T} (h : t.isMap = true) : ∃ k f, t = .map k f := by cases t <;> simp_all [T.isMap]
theorem T.null_of {t : T} (h : t.isNull = true) : t = .null := by cases t <;> simp_all [T.isNull]

end Go.Proofs.YtihapgangilncaaGreat
