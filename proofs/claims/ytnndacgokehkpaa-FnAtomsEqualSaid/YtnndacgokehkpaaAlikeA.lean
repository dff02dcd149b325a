/- laws.sameStrings, atomsAlike, refsAlike, fieldsAlike: what they compute. -/
import Derived.Test.YtnndacgokehkpaaDefined
namespace Go.Proofs.Ytnndacgokehkpaa
open Go.RowKit

def all2b {α : Type} (f : α → α → Bool) : List α → List α → Bool
  | [], [] => true
  | a :: l, b :: m => f a b && all2b f l m
  | _, _ => false
theorem all2b_len {α : Type} {f : α → α → Bool} : ∀ {l m : List α}, all2b f l m = true → l.length = m.length
  | [], [], _ => rfl
  | a :: l, b :: m, h => by simp only [all2b, Bool.and_eq_true] at h; simp [all2b_len h.2]
theorem all2b_neq {α : Type} {f : α → α → Bool} {l m : List α} (h : l.length ≠ m.length) : all2b f l m = false := by
  cases e : all2b f l m
  · rfl
  · exact absurd (all2b_len e) h
theorem all2b_iff {α : Type} {f : α → α → Bool} : ∀ {l m : List α}, l.length = m.length → (all2b f l m = true ↔ ∀ i (h : i < l.length) (h2 : i < m.length), f l[i] m[i] = true)
  | [], [], _ => by simp [all2b]
  | a :: l, b :: m, e => by
    simp only [all2b, Bool.and_eq_true, all2b_iff (by simpa using e : l.length = m.length)]
    constructor
    · rintro ⟨h1, h2⟩ i hi hi2
      cases i with
      | zero => exact h1
      | succ i => exact h2 i (by simpa using hi) (by simpa using hi2)
    · intro h
      exact ⟨h 0 (by simp) (by simp), fun i hi hi2 => h (i + 1) (by simpa using hi) (by simpa using hi2)⟩
theorem all2b_no {α : Type} {f : α → α → Bool} {l m : List α} (i : Nat) (h : i < l.length) (h2 : i < m.length) (hf : f l[i] m[i] = false) : all2b f l m = false := by
  cases e : all2b f l m
  · rfl
  · have := (all2b_iff (all2b_len e)).1 e i h h2
    rw [hf] at this; cases this

def rfAlike (f : A → A → Bool) (r s : RfOf A) : Bool := r.named == s.named && (r.rel == s.rel && (if r.named then r.name == s.name else f r.atom s.atom))
def ltAlike (f : A → A → Bool) (l m : LtOf A) : Bool := l.rel == m.rel && (decide (l.keys = m.keys) && rfAlike f l.elem m.elem)
def dfAlike (sv : V → V → Bool) : List V → List V → Bool
  | v :: _, u :: _ => sv v u
  | _, _ => true
def ftAlike (sv : V → V → Bool) (f : A → A → Bool) (x y : FtOf A) : Bool := x.name == y.name && ((dfOf x.dflt).length == (dfOf y.dflt).length && (rfAlike f x.type y.type && dfAlike sv (dfOf x.dflt) (dfOf y.dflt)))
def mtAlike (sv : V → V → Bool) (f : A → A → Bool) (m n : MtOf A) : Bool := m.rel == n.rel && (m.fields.length == n.fields.length && (rfAlike f m.elem n.elem && all2b (ftAlike sv f) m.fields n.fields))
/-- two types, of each the scalar, the first list and the first map -/
def al5 (sv : V → V → Bool) (f : A → A → Bool) (s t : ByteArray) (l1 l2 : List (LtOf A)) (m1 m2 : List (MtOf A)) : Bool := s == t && (l1.length == l2.length && (m1.length == m2.length && (all2b (ltAlike f) l1 l2 && all2b (mtAlike sv f) m1 m2)))
def aAlike1 (sv : V → V → Bool) (f : A → A → Bool) : A → A → Bool
  | .mk s ls ms, .mk t ks ns => al5 sv f s t (ls.take 1) (ks.take 1) (ms.take 1) (ns.take 1)
/-- laws.atomsAlike on types of at most d levels -/
def aAlike (sv : V → V → Bool) : Nat → A → A → Bool
  | 0 => fun _ _ => true
  | d + 1 => aAlike1 sv (aAlike sv d)

set_option maxRecDepth 100000 in
set_option maxHeartbeats 4000000 in
set_option pp.maxSteps 1000000 in
set_option pp.deepTerms true in
theorem sameStrings_c {w : World} {X Y : List Nat} {va vb : Value} {keys keys2 : List ByteArray} (ha : IsStrs w X va keys) (hb : IsStrs w Y vb keys2) (R : Ending → World → Prop) (hR : Ends R w (.bool (decide (keys = keys2)))) :
    Calls Try.prog 31 #[va, vb] w R := by
  obtain ⟨o, c, kb, koff, rfl, k2, k3, k4, k5⟩ := ha.ex
  obtain ⟨o2, c2, mb, moff, rfl, m2, m3, m4, m5⟩ := hb.ex
  have hR' := Lib.hid hR
  have k4' := Lib.hid k4
  have k5' := Lib.hid k5
  have m4' := Lib.hid m4
  have m5' := Lib.hid m5
  clear ha hb hR k4 k5 m4 m5 m2 k2
  go_enter Try.func31, Try.ntmps31
  by_cases hlen : keys.length = keys2.length
  · have hlI : ((keys.length : Int) == (keys2.length : Int)) = true := by simp [hlen]
    have hkl' := Lib.hid hlen
    rw [← hlen]
    rw [← hlen] at m3
    clear hlI hlen
    go_wp2_with fail
    go_loopw [13] (fun i wr => ∃ k : Nat, k ≤ keys.length ∧ i = .int .i64 k ∧ Ext w wr ∧ Hid (∀ j (h : j < keys.length) (h2 : j < keys2.length), j < k → keys[j] = keys2[j])) (fun i _ => keys.length - (intOf i).toNat)
    case atStart => exact ⟨0, Nat.zero_le _, rfl, Ext.refl _, fun j _ _ hj => by omega⟩
    case round =>
      obtain ⟨k, hk, rfl, hE, hall⟩ := hrel
      by_cases hlt : k < keys.length
      · have hlt2 : k < keys2.length := by have := hkl'.out; omega
        obtain ⟨rfl, -⟩ := k4'.out (by omega)
        obtain ⟨rfl, -⟩ := m4'.out (by omega)
        have q0 := hE.keep (k5'.out k hlt).1
        have q1 := hE.keep (m5'.out k hlt2).1
        have hkm : (k : Int) + 1 ≤ 9223372036854775807 := by omega
        have hk1 : keys.getD k ByteArray.empty = keys[k] := by simp [hlt]
        have hk2 : keys2.getD k ByteArray.empty = keys2[k] := by simp [hlt2]
        rw [hk1] at q0
        rw [hk2] at q1
        clear hk1 hk2
        have hi1 : (k : Int) < (keys.length : Int) := by omega
        by_cases hke : keys[k] = keys2[k]
        · have hkt : (keys[k]).toList = (keys2[k]).toList := by rw [hke]
          rw [hke] at q0
          have hke' := Lib.hid hke
          clear hke hkt
          go_wp2_with fail
          refine wp_region_script (List.range 9) [] (fun w' => w' = wr.drew) [(.read, 0), (.read, 1), (.read, 2), (.read, 3), (.read, 4), (.read, 5), (.read, 6), (.read, 7), (.read, 8)] (by kernel_rfl) (by kernel_rfl) ?_
          iterate 9 (first | (apply scr_r; (· rfl); (· (first | rfl | (simp [Region.wanted, yielded, go_sem]; done) | (simp [Region.wanted, yielded, go_sem, *]; done))); (· (go_simp; try rfl)); (· (simp [go_sem]; try rfl))) | (apply scr_r0; (· rfl); (· (first | rfl | (simp [Region.wanted, yielded, go_sem]; done) | (simp [Region.wanted, yielded, go_sem, *]; done))); (· (simp [go_sem]; try rfl))))
          refine scr_end ?_
          simp only [Exit.then]
          go_wp2_with fail
          go_roundw
          case rel =>
            refine ⟨k + 1, by omega, by go_num, hE.drew, fun j h h2 hj => ?_⟩
            by_cases e : j = k
            · subst e; exact hke'.out
            · exact hall.out j h h2 (by omega)
          case measure => simp [intOf]; omega
        · have hkt : ((keys[k]).toList == (keys2[k]).toList) = false := beq_eq_false_iff_ne.2 fun h => hke (toList_inj h)
          have hke' := Lib.hid hke
          clear hke
          go_wp2_with fail
          refine wp_region_script (List.range 9) [] (fun w' => w' = wr.drew) [(.read, 0), (.read, 1), (.read, 2), (.read, 3), (.read, 4), (.read, 5), (.read, 6), (.read, 7), (.read, 8)] (by kernel_rfl) (by kernel_rfl) ?_
          iterate 9 (first | (apply scr_r; (· rfl); (· (first | rfl | (simp [Region.wanted, yielded, go_sem]; done) | (simp [Region.wanted, yielded, go_sem, *]; done))); (· (go_simp; try rfl)); (· (simp [go_sem]; try rfl))) | (apply scr_r0; (· rfl); (· (first | rfl | (simp [Region.wanted, yielded, go_sem]; done) | (simp [Region.wanted, yielded, go_sem, *]; done))); (· (simp [go_sem]; try rfl))))
          refine scr_end ?_
          simp only [Exit.then]
          go_wp2_with fail
          refine hR'.out.bool ?_ _ hE.drew
          have : ¬ keys = keys2 := fun h => hke'.out (by subst h; rfl)
          simp [this]
      · have hkeys : keys = keys2 := List.ext_getElem hkl'.out (fun j h h2 => hall.out j h h2 (by omega))
        have hkeys' := Lib.hid hkeys
        clear hkeys hall
        go_wp2_with fail
        refine hR'.out.bool ?_ _ hE
        simp [hkeys'.out]
  · have hlI : ((keys.length : Int) == (keys2.length : Int)) = false := by simp; omega
    have hlen' := Lib.hid hlen
    clear hlen
    go_wp2_with fail
    refine hR'.out.bool ?_ _ (Ext.refl _)
    have : ¬ keys = keys2 := fun h => hlen'.out (by rw [h])
    simp [this]

set_option maxRecDepth 100000 in
theorem wp_call_val {o : Oper} {a : Act} {w : World} {next : Act → World → Prop} {Q : Exit → Act → World → Prop} {dst : Option Tmp} {f : FuncId} {t : Tmp} {xs : Array Operand} {ats : Array TypeId} {ty : TypeId} {pos : String} {after : Array Edge} {guard : Option (Nat × Bool)}
    (ho : o = { dst, op := .call { callee := .value (.tmp t), args := xs, argTypes := ats }, type := ty, pos, after, guard }) (h : a.eval (.tmp t) = .func (.func f) #[] #[])
    (he : ∀ (args : Array Value) (w : World), (callFunc f args).run Try.prog w = .ok (.enter f args) w) (hc : Calls Try.prog f (#[] ++ xs.map a.eval ++ #[]) w fun
      | .returned v, w'' => next (a.put o.dst v) w''
      | .panicked chain, w'' => Q (.panic chain) a w''
      | .outgrown, _ => LetsOut Q) : Oper.wp Try.prog o a w next Q := by
  subst ho
  have e : execOp a.eval { dst, op := .call { callee := .value (.tmp t), args := xs, argTypes := ats }, type := ty, pos, after, guard } = callFunc f (#[] ++ xs.map a.eval ++ #[]) := by
    simp only [execOp, resolve, h]
    rfl
  unfold Oper.wp
  rw [e]
  rw [he, Oper.upon_enter]
  refine hc.mono ?_
  rintro (_ | _ | _) w'' h <;> exact h

/-- what a function value does with two values -/
structure SameFn (sf : Nat) (sv : V → V → Bool) : Prop where
  enter : ∀ (args : Array Value) (w : World), (callFunc sf args).run Try.prog w = .ok (.enter sf args) w
  call : ∀ (w : World) (cs ds : List Value) (v u : V), IsV w [] cs v → IsV w [] ds u → ∀ R : Ending → World → Prop, Ends R w (.bool (sv v u)) → Calls Try.prog sf #[.agg cs.toArray, .agg ds.toArray] w R

def AtomsC (sf : Nat) (sv : V → V → Bool) (d : Nat) : Prop := ∀ (w : World) (cs ds : List Value) (a b : A), (kA d).is w [] cs a → (kA d).is w [] ds b → ∀ R : Ending → World → Prop, Ends R w (.bool (aAlike sv d a b)) →
  Calls Try.prog 13 #[.agg cs.toArray, .agg ds.toArray, .func (.func sf) #[] #[]] w R

theorem bytes_beq {s t : ByteArray} (h : s ≠ t) : (s.toList == t.toList) = false := beq_eq_false_iff_ne.2 fun e => h (toList_inj e)

set_option maxRecDepth 100000 in
set_option maxHeartbeats 4000000 in
set_option pp.maxSteps 1000000 in
set_option pp.deepTerms true in
theorem refsAlike_c {sf d : Nat} {sv : V → V → Bool} (ih : AtomsC sf sv d) {w : World} {r s : RfOf A} {t2 t3 t4 u2 u3 u4 : Value} (hr : (kA d).is w [] [t2, t3, t4] r.atom) (hs : (kA d).is w [] [u2, u3, u4] s.atom) (R : Ending → World → Prop) (hR : Ends R w (.bool (rfAlike (aAlike sv d) r s))) :
    Calls Try.prog 32 #[.agg #[.bool r.named, .string r.name, t2, t3, t4, .string r.rel], .agg #[.bool s.named, .string s.name, u2, u3, u4, .string s.rel], .func (.func sf) #[] #[]] w R := by
  obtain ⟨n1, m1, a1, l1⟩ := r
  obtain ⟨n2, m2, a2, l2⟩ := s
  dsimp only at hr hs ⊢
  have hr' := Lib.hid hr
  have hs' := Lib.hid hs
  have hR' := Lib.hid hR
  have ih' := Lib.hid ih
  clear hr hs hR ih
  by_cases hn : n1 = n2
  · subst hn
    by_cases hl : l1 = l2
    · subst hl
      cases n1
      · go_enter Try.func32, Try.ntmps32
        go_wp2_with fail
        refine ih'.out _ [t2, t3, t4] [u2, u3, u4] a1 a2 ((kA d).mv hr'.out (((Ext.alloc _ _).trans (Ext.alloc _ _)).mv _)) ((kA d).mv hs'.out (((Ext.alloc _ _).trans (Ext.alloc _ _)).mv _)) _ ?_
        intro w1 hE1
        dsimp only
        go_wp2_with fail
        refine hR'.out.bool ?_ _ (((Ext.alloc _ _).trans (Ext.alloc _ _)).trans hE1)
        simp [rfAlike]
      · by_cases hm : m1 = m2
        · subst hm
          have hR2 := hR'.out.bool (show _ = true by simp [rfAlike])
          go_enter Try.func32, Try.ntmps32
          go_wp2_with fail
          exact hR2 _ ((Ext.alloc _ _).trans (Ext.alloc _ _))
        · have hb := bytes_beq hm
          have hR2 := Lib.hid (hR'.out.bool (show _ = false by simp [rfAlike, hm]))
          clear hm hR'
          go_enter Try.func32, Try.ntmps32
          go_wp2_with fail
          exact hR2.out _ ((Ext.alloc _ _).trans (Ext.alloc _ _))
    · have hb := bytes_beq hl
      have hR2 := Lib.hid (hR'.out.bool (show _ = false by simp [rfAlike, hl]))
      clear hl hR'
      go_enter Try.func32, Try.ntmps32
      go_wp2_with fail
      exact hR2.out _ ((Ext.alloc _ _).trans (Ext.alloc _ _))
  · have hb : (n1 == n2) = false := by simpa using hn
    have hR2 := Lib.hid (hR'.out.bool (show _ = false by simp [rfAlike, hn]))
    clear hn hR'
    go_enter Try.func32, Try.ntmps32
    go_wp2_with fail
    exact hR2.out _ ((Ext.alloc _ _).trans (Ext.alloc _ _))

set_option maxRecDepth 100000 in
set_option maxHeartbeats 8000000 in
set_option pp.maxSteps 1000000 in
set_option pp.deepTerms true in
theorem fieldsAlike_c {sf d : Nat} {sv : V → V → Bool} (hf : SameFn sf sv) (ih : AtomsC sf sv d) {w : World} {cs ds : List Value} {x y : FtOf A} (hx : (kFt (kA d)).is w [] cs x) (hy : (kFt (kA d)).is w [] ds y) (R : Ending → World → Prop) (hR : Ends R w (.bool (ftAlike sv (aAlike sv d) x y))) :
    Calls Try.prog 33 #[.agg cs.toArray, .agg ds.toArray, .func (.func sf) #[] #[]] w R := by
  have hx' := Lib.hid hx
  have hy' := Lib.hid hy
  obtain ⟨t2, t3, t4, vd, rfl, hxa, -, o2, o3, o4⟩ := kFt_parts hx
  obtain ⟨u2, u3, u4, vd2, rfl, hya, -, q2, q3, q4⟩ := kFt_parts hy
  have hxa' := Lib.hid hxa
  have hya' := Lib.hid hya
  have hR' := Lib.hid hR
  have ih' := Lib.hid ih
  have hf' := Lib.hid hf
  clear hx hy hxa hya hR ih hf
  go_enter Try.func33, Try.ntmps33
  go_wp2_with fail
  refine abs2 (G := Code.wp _ _ _ _) ?_
  intro w1 hE1 hb1 hb2 hs1
  have a0 : w1.cell? ⟨w.heap.size, 0, none⟩ = some (.string x.name) := cells_of hb1 0
  have a1 : w1.cell? ⟨w.heap.size, 1, none⟩ = some (.bool x.type.named) := cells_of hb1 1
  have a2 : w1.cell? ⟨w.heap.size, 2, none⟩ = some (.string x.type.name) := cells_of hb1 2
  have a3 : w1.cell? ⟨w.heap.size, 3, none⟩ = some t2 := cells_of hb1 3
  have a4 : w1.cell? ⟨w.heap.size, 4, none⟩ = some t3 := cells_of hb1 4
  have a5 : w1.cell? ⟨w.heap.size, 5, none⟩ = some t4 := cells_of hb1 5
  have a6 : w1.cell? ⟨w.heap.size, 6, none⟩ = some (.string x.type.rel) := cells_of hb1 6
  have a7 : w1.cell? ⟨w.heap.size, 7, none⟩ = some vd := cells_of hb1 7
  have b0 : w1.cell? ⟨w.heap.size + 1, 0, none⟩ = some (.string y.name) := cells_of hb2 0
  have b1 : w1.cell? ⟨w.heap.size + 1, 1, none⟩ = some (.bool y.type.named) := cells_of hb2 1
  have b2 : w1.cell? ⟨w.heap.size + 1, 2, none⟩ = some (.string y.type.name) := cells_of hb2 2
  have b3 : w1.cell? ⟨w.heap.size + 1, 3, none⟩ = some u2 := cells_of hb2 3
  have b4 : w1.cell? ⟨w.heap.size + 1, 4, none⟩ = some u3 := cells_of hb2 4
  have b5 : w1.cell? ⟨w.heap.size + 1, 5, none⟩ = some u4 := cells_of hb2 5
  have b6 : w1.cell? ⟨w.heap.size + 1, 6, none⟩ = some (.string y.type.rel) := cells_of hb2 6
  have b7 : w1.cell? ⟨w.heap.size + 1, 7, none⟩ = some vd2 := cells_of hb2 7
  have hb1' := Lib.hid hb1
  have hb2' := Lib.hid hb2
  clear hb1 hb2 hs1
  refine wp_region_script [0, 2, 4, 5] [1] (fun w' => Ext w1 w') [(.read, 0), (.read, 2), (.one, 1), (.one, 3), (.pure, 4), (.pure, 5)] (by kernel_rfl) (by kernel_rfl) ?_
  (apply scr_read'; (· rfl); (· rfl); (· first | exact hC | exact (Ext.refl _).drew); (· (intro w' hw'; have a0_ := hw'.keep a0; have a1_ := hw'.keep a1; have a2_ := hw'.keep a2; have a3_ := hw'.keep a3; have a4_ := hw'.keep a4; have a5_ := hw'.keep a5; have a6_ := hw'.keep a6; have a7_ := hw'.keep a7; go_simp; try rfl)); (· (simp [go_sem]; try rfl)))
  (apply scr_read'; (· rfl); (· rfl); (· first | exact hC | exact (Ext.refl _).drew); (· (intro w' hw'; have b0_ := hw'.keep b0; have b1_ := hw'.keep b1; have b2_ := hw'.keep b2; have b3_ := hw'.keep b3; have b4_ := hw'.keep b4; have b5_ := hw'.keep b5; have b6_ := hw'.keep b6; have b7_ := hw'.keep b7; go_simp; try rfl)); (· (simp [go_sem]; try rfl)))
  refine scr_one rfl rfl (fun K hK => ?_)
  go_simp
  refine defaultOf_c (d := d) (X := []) (f := x) ((kFt (kA d)).mv hx'.out ((hE1.trans (Ext.refl w1).drew).mv [])) _ ?_
  intro w2 v2 hE2 hv2
  have hw2 := (Ext.refl w1).drew.trans hE2
  have hv2' := Lib.hid hv2
  clear hv2
  refine hK _ _ (fun _ => hw2) ?_
  clear hK
  refine scr_one rfl rfl (fun K hK => ?_)
  go_simp
  refine defaultOf_c (d := d) (X := []) (f := y) ((kFt (kA d)).mv hy'.out ((hE1.trans hw2).mv [])) _ ?_
  intro w3 v3 hE3 hv3
  have hw3 := hw2.trans hE3
  have hv2w := hv2'.out.mv (hE3.mv _)
  refine hK _ _ (fun h => by simp at h) ?_
  clear hK hv2' hE3
  obtain ⟨o, c, db, doff, rfl, v22, v23, v24, v25⟩ := id hv2w.ex
  obtain ⟨p, e, db2, doff2, rfl, v32, v33, v34, v35⟩ := id hv3.ex
  replace a0 := hw3.keep a0
  replace a1 := hw3.keep a1
  replace a2 := hw3.keep a2
  replace a3 := hw3.keep a3
  replace a4 := hw3.keep a4
  replace a5 := hw3.keep a5
  replace a6 := hw3.keep a6
  replace b0 := hw3.keep b0
  replace b1 := hw3.keep b1
  replace b2 := hw3.keep b2
  replace b3 := hw3.keep b3
  replace b4 := hw3.keep b4
  replace b5 := hw3.keep b5
  replace b6 := hw3.keep b6
  clear a7 b7 hb1' hb2'
  have v24' := Lib.hid v24
  have v34' := Lib.hid v34
  have v25' := Lib.hid v25
  have v35' := Lib.hid v35
  clear v24 v25 v34 v35 hv2w hv3 v22 v32
  (apply scr_pure'; (· rfl); (· rfl); (· (intro w'; go_simp; try rfl)); (· (simp [go_sem]; try rfl)))
  (apply scr_pure'; (· rfl); (· rfl); (· (intro w'; go_simp; try rfl)); (· (simp [go_sem]; try rfl)))
  refine scr_end ?_
  simp only [Exit.then]
  have hE := hE1.trans hw3
  by_cases hn : x.name = y.name
  · rw [← hn] at b0
    by_cases hlen : (dfOf x.dflt).length = (dfOf y.dflt).length
    · have hlI : (((dfOf x.dflt).length : Int) == ((dfOf y.dflt).length : Int)) = true := by simp [hlen]
      have hn' := Lib.hid hn
      have hlen' := Lib.hid hlen
      clear hn
      go_wp2_with fail
      refine refsAlike_c ih'.out (r := x.type) (s := y.type) ((kA d).mv hxa'.out (hE.mv _)) ((kA d).mv hya'.out (hE.mv _)) _ ?_
      intro w4 hE4
      dsimp only
      have hR2 := fun (b : Bool) (h : rfAlike (aAlike sv d) x.type y.type = b) => hR'.out.bool (show _ = (b && dfAlike sv (dfOf x.dflt) (dfOf y.dflt)) by simp [ftAlike, hn'.out, hlen'.out, h])
      have hR2' := Lib.hid hR2
      clear hR2 hR'
      obtain ⟨rb, hrb⟩ : ∃ rb, rfAlike (aAlike sv d) x.type y.type = rb := ⟨_, rfl⟩
      have hrb' := Lib.hid hrb
      rw [hrb]
      clear hrb
      cases rb
      · go_wp2_with fail
        exact hR2'.out _ hrb'.out _ (hE.trans hE4)
      · have hEE := hE.trans hE4
        replace hR' := Lib.hid (hR2'.out _ hrb'.out)
        clear hrb' hR2' hxa' hya' a0 a1 a2 a3 a4 a5 a6 b0 b1 b2 b3 b4 b5 b6
        generalize dfOf x.dflt = lx at *
        generalize dfOf y.dflt = ly at *
        cases lx with
        | nil =>
          obtain rfl : ly = [] := List.length_eq_zero_iff.1 hlen'.out.symm
          go_wp2_with fail
          refine wp_region_script (List.range 11) [] (fun w' => w' = w4.drew) [(.read, 0), (.read, 1), (.read, 2), (.read, 3), (.read, 4), (.read, 5), (.read, 6), (.read, 7), (.read, 8), (.read, 9), (.read, 10), (.one, 11), (.pure, 12), (.pure, 13)] (by kernel_rfl) (by kernel_rfl) ?_
          iterate 11 (first | (apply scr_r; (· rfl); (· (first | rfl | (simp [Region.wanted, yielded, go_sem]; done) | (simp [Region.wanted, yielded, go_sem, *]; done))); (· (go_simp; try rfl)); (· (simp [go_sem]; try rfl))) | (apply scr_r0; (· rfl); (· (first | rfl | (simp [Region.wanted, yielded, go_sem]; done) | (simp [Region.wanted, yielded, go_sem, *]; done))); (· (simp [go_sem]; try rfl))))
          refine scr_one0 rfl (by simp [Region.wanted, yielded, go_sem]) (fun h => by simp at h) (by simp [go_sem]; rfl) ?_
          (apply scr_pure'; (· rfl); (· rfl); (· (intro w'; go_simp; try rfl)); (· (simp [go_sem]; try rfl)))
          (apply scr_pure'; (· rfl); (· rfl); (· (intro w'; go_simp; try rfl)); (· (simp [go_sem]; try rfl)))
          refine scr_end ?_
          simp only [Exit.then]
          go_wp2_with fail
          exact hR'.out _ hEE.drew
        | cons v vs =>
          obtain ⟨u, us, rfl⟩ : ∃ u us, ly = u :: us := by cases ly with | nil => simp at hlen | cons u us => exact ⟨u, us, rfl⟩
          obtain ⟨rfl, -⟩ := v24'.out (by simp)
          obtain ⟨rfl, -⟩ := v34'.out (by simp)
          obtain ⟨xx, c0, c1, c2, c3, c4, c5, hxv⟩ := v25'.out 0 (by simp)
          obtain ⟨yy, d0, d1, d2, d3, d4, d5, hyv⟩ := v35'.out 0 (by simp)
          simp only [Nat.zero_mul, Nat.add_zero, List.getElem_cons_zero] at c0 c1 c2 c3 c4 c5 d0 d1 d2 d3 d4 d5 hxv hyv
          replace c0 := hE4.keep c0
          replace c1 := hE4.keep c1
          replace c2 := hE4.keep c2
          replace c3 := hE4.keep c3
          replace c4 := hE4.keep c4
          replace c5 := hE4.keep c5
          replace d0 := hE4.keep d0
          replace d1 := hE4.keep d1
          replace d2 := hE4.keep d2
          replace d3 := hE4.keep d3
          replace d4 := hE4.keep d4
          replace d5 := hE4.keep d5
          have hxv' := Lib.hid hxv
          have hyv' := Lib.hid hyv
          have e1 : (((v :: vs).length : Int) == 0) = false := by simp; omega
          have e2 : (0 : Int) < ((v :: vs).length : Int) := by simp
          have e3 : (0 : Int) < ((u :: us).length : Int) := by simp
          clear hxv hyv v24' v34' v25' v35' hlen hlI
          go_wp2_with fail
          refine wp_region_script (List.range 11) [] (fun w' => w' = w4.drew) [(.read, 0), (.read, 1), (.read, 2), (.read, 3), (.read, 4), (.read, 5), (.read, 6), (.read, 7), (.read, 8), (.read, 9), (.read, 10), (.one, 11), (.pure, 12), (.pure, 13)] (by kernel_rfl) (by kernel_rfl) ?_
          iterate 11 (first | (apply scr_r; (· rfl); (· (first | rfl | (simp [Region.wanted, yielded, go_sem]; done) | (simp [Region.wanted, yielded, go_sem, *]; done))); (· (go_simp; try rfl)); (· (simp [go_sem]; try rfl))) | (apply scr_r0; (· rfl); (· (first | rfl | (simp [Region.wanted, yielded, go_sem]; done) | (simp [Region.wanted, yielded, go_sem, *]; done))); (· (simp [go_sem]; try rfl))))
          refine scr_oneG rfl (by simp [Region.wanted, yielded, go_sem]; omega) (fun K hK => ?_)
          refine wp_call_val (f := sf) rfl rfl hf'.out.enter ?_
          go_simp
          refine hf'.out.call _ xx.list yy.list v u (hxv'.out.mv (hE4.drew.mv _)) (hyv'.out.mv (hE4.drew.mv _)) _ ?_
          intro w5 hE5
          refine hK _ _ (fun h => by simp at h) ?_
          clear hK
          (apply scr_pure'; (· rfl); (· rfl); (· (intro w'; go_simp; try rfl)); (· (simp [go_sem]; try rfl)))
          (apply scr_pure'; (· rfl); (· rfl); (· (intro w'; go_simp; try rfl)); (· (simp [go_sem]; try rfl)))
          refine scr_end ?_
          simp only [Exit.then]
          go_wp2_with fail
          exact hR'.out _ (hEE.drew.trans hE5)
    · have hlI : (((dfOf x.dflt).length : Int) == ((dfOf y.dflt).length : Int)) = false := by simp; omega
      have hR2 := Lib.hid (hR'.out.bool (show _ = false by simp [ftAlike, hlen]))
      clear hn hR'
      go_wp2_with fail
      exact hR2.out _ hE
  · have hb := bytes_beq hn
    have hR2 := Lib.hid (hR'.out.bool (show _ = false by simp [ftAlike, hn]))
    clear hn hR'
    go_wp2_with fail
    exact hR2.out _ hE

end Go.Proofs.Ytnndacgokehkpaa
