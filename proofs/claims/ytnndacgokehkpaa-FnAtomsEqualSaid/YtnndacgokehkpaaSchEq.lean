/- (*schema.TypeRef).Equals, (*schema.List).Equals, (*schema.StructField).Equals, (*schema.Map).Equals, (*schema.Atom).Equals: what they compute (printed by gen_scheq.py). -/
import Derived.Test.YtnndacgokehkpaaDeep
import Derived.Test.YtnndacgokehkpaaAlikeA
namespace Go.Proofs.Ytnndacgokehkpaa
open Go.RowKit
set_option linter.unusedSimpArgs false
set_option linter.unusedVariables false

def AtP {α : Type} (k : Kind α) (w : World) (b off : Nat) (a : α) : Prop := ∃ cs, (∀ j, j < k.size → w.cell? ⟨b, off + j, none⟩ = cs[j]?) ∧ k.is w [] cs a
theorem AtP.ext {α : Type} {k : Kind α} {w w' : World} {b off : Nat} {a : α} (h : AtP k w b off a) (e : Ext w w') : AtP k w' b off a := by
  obtain ⟨cs, hc, hk⟩ := h
  refine ⟨cs, fun j hj => ?_, k.mv hk (e.mv [])⟩
  have hl := k.len hk
  have h1 := hc j hj
  rw [List.getElem?_eq_getElem (by omega)] at h1 ⊢
  exact e.keep h1
theorem IsP.at {α : Type} {k : Kind α} {w : World} {X : List Nat} {v : Value} {a : α} (h : IsP k w X v (some a)) : ∃ b off, v = .pointer (some ⟨b, off, none⟩) ∧ AtP k w b off a := by
  obtain ⟨b, off, cs, rfl, -, -, hc, hk⟩ := h
  exact ⟨b, off, rfl, cs, hc, k.mv hk ((Mv.refl _ _).less (by simp))⟩

def eqRf {α : Type} (f : α → α → Bool) (r s : SRf α) : Bool := decide (r.named = s.named) && f r.inl s.inl
def eqLt {α : Type} (f : α → α → Bool) (l m : SLt α) : Bool := eqRf f l.elem m.elem && (decide (l.rel = m.rel) && decide (l.keys = m.keys))
def eqFt {α : Type} (f : α → α → Bool) (x y : SFt α) : Bool := decide (x.name = y.name) && (dpT x.dflt y.dflt && eqRf f x.type y.type)
def eqMt {α : Type} (f : α → α → Bool) (m n : SMt α) : Bool := eqRf f m.elem n.elem && (decide (m.rel = n.rel) && all2b (eqFt f) m.fields n.fields)
def eqAt (f : SA → SA → Bool) : SA → SA → Bool
  | .mk s l m, .mk t k n => (s.isSome == t.isSome) && ((l.isSome == k.isSome) && ((m.isSome == n.isSome) && (match s, t with
    | some x, some y => decide (x = y)
    | _, _ => match l, k with
      | some x, some y => eqLt f x y
      | _, _ => match m, n with
        | some x, some y => eqMt f x y
        | _, _ => true)))
def eqA : Nat → SA → SA → Bool
  | 0 => fun _ _ => true
  | d + 1 => eqAt (eqA d)

/-- no reference has a relationship of its own -/
def bareRf {α : Type} (f : α → Prop) (r : SRf α) : Prop := r.rel = none ∧ f r.inl
def bareAt (f : SA → Prop) : SA → Prop
  | .mk _ l m => (∀ x, l = some x → bareRf f x.elem) ∧ ∀ x, m = some x → bareRf f x.elem ∧ ∀ y ∈ x.fields, bareRf f y.type
def BareS : Nat → SA → Prop
  | 0 => fun _ => True
  | d + 1 => bareAt (BareS d)

def AEqC (d : Nat) : Prop := ∀ (w : World) (b off b2 off2 : Nat) (x y : SA), AtP (ksA d) w b off x → AtP (ksA d) w b2 off2 y → BareS d x → BareS d y → ∀ R : Ending → World → Prop, Ends R w (.bool (eqA d x y)) →
  Calls Try.prog 30 #[.pointer (some ⟨b, off, none⟩), .pointer (some ⟨b2, off2, none⟩)] w R

theorem ksRf_at {d : Nat} {w : World} {b off : Nat} {r : SRf SA} (h : AtP (ksRf (ksA d)) w b off r) (hb : r.rel = none) :
    ∃ pn, IsP kS w [] pn r.named ∧ AtP (ksA d) w b (off + 1) r.inl ∧ w.cell? ⟨b, off, none⟩ = some pn ∧ w.cell? ⟨b, off + 4, none⟩ = some (.pointer none) ∧ w.cell? ⟨b, off + 5, none⟩ = some (.bool false) := by
  obtain ⟨cs, hc, pn, ac, pr, rfl, h1, h2, h3⟩ := h
  have e3 : (ksA d).size = 3 := ksA_size d
  have e6 : (ksRf (ksA d)).size = 6 := by simp [ksRf, e3]
  rw [e6] at hc
  obtain ⟨a0, a1, a2, rfl⟩ := three_of (by rw [(ksA d).len h2, e3])
  rw [hb] at h3
  cases h3
  refine ⟨pn, h1, ⟨[a0, a1, a2], fun j hj => ?_, h2⟩, hc 0 (by omega), hc 4 (by omega), hc 5 (by omega)⟩
  rw [e3] at hj
  have := hc (j + 1) (by omega)
  rw [show off + 1 + j = off + (j + 1) by omega, this]
  match j, hj with
  | 0, _ => rfl
  | 1, _ => rfl
  | 2, _ => rfl

set_option maxRecDepth 100000 in
set_option maxHeartbeats 8000000 in
set_option pp.maxSteps 1000000 in
set_option pp.deepTerms true in
theorem typeRefEq_c {d : Nat} (ih : AEqC d) {w : World} {b off b2 off2 : Nat} {r s : SRf SA} (h1 : AtP (ksRf (ksA d)) w b off r) (h2 : AtP (ksRf (ksA d)) w b2 off2 s) (q1 : bareRf (BareS d) r) (q2 : bareRf (BareS d) s)
    (R : Ending → World → Prop) (hR : Ends R w (.bool (eqRf (eqA d) r s))) : Calls Try.prog 56 #[.pointer (some ⟨b, off, none⟩), .pointer (some ⟨b2, off2, none⟩)] w R := by
  obtain ⟨pn, g1, i1, c0, c4, c5⟩ := ksRf_at h1 q1.1
  obtain ⟨pn2, g2, i2, d0, d4, d5⟩ := ksRf_at h2 q2.1
  have i1' := Lib.hid i1
  have i2' := Lib.hid i2
  have q1' := Lib.hid q1.2
  have q2' := Lib.hid q2.2
  have ih' := Lib.hid ih
  have hR' := Lib.hid hR
  clear h1 h2 q1 q2 i1 i2 ih hR
  obtain ⟨n1, inl1, rel1⟩ := r
  obtain ⟨n2, inl2, rel2⟩ := s
  dsimp only at g1 g2 i1' i2' q1' q2' hR'
  simp only [eqRf] at hR'
  cases n1 with
  | none =>
    cases g1
    cases n2 with
    | none =>
      cases g2
      go_enter Try.func56, Try.ntmps56
      go_wp2_with fail
      refine wp_region_script (List.range 11) [] (fun w' => w' = w.drew) [(.read, 0), (.read, 1), (.read, 2), (.read, 3), (.read, 4), (.read, 5), (.read, 6), (.read, 7), (.read, 8), (.read, 9), (.read, 10)] (by kernel_rfl) (by kernel_rfl) ?_
      iterate 11 (first | (apply scr_r; (· rfl); (· (first | rfl | (simp [Region.wanted, yielded, go_sem]; done) | (simp [Region.wanted, yielded, go_sem, *]; done))); (· (go_simp; try rfl)); (· (simp [go_sem]; try rfl))) | (apply scr_r0; (· rfl); (· (first | rfl | (simp [Region.wanted, yielded, go_sem]; done) | (simp [Region.wanted, yielded, go_sem, *]; done))); (· (simp [go_sem]; try rfl))))
      refine scr_end ?_
      simp only [Exit.then]
      go_wp2_with fail
      refine wp_region_script (List.range 9) [] (fun w' => w' = w.drew.drew) [(.read, 0), (.read, 1), (.read, 2), (.read, 3), (.read, 4), (.read, 5), (.read, 6), (.read, 7), (.read, 8)] (by kernel_rfl) (by kernel_rfl) ?_
      iterate 9 (first | (apply scr_r; (· rfl); (· (first | rfl | (simp [Region.wanted, yielded, go_sem]; done) | (simp [Region.wanted, yielded, go_sem, *]; done))); (· (go_simp; try rfl)); (· (simp [go_sem]; try rfl))) | (apply scr_r0; (· rfl); (· (first | rfl | (simp [Region.wanted, yielded, go_sem]; done) | (simp [Region.wanted, yielded, go_sem, *]; done))); (· (simp [go_sem]; try rfl))))
      refine scr_end ?_
      simp only [Exit.then]
      go_wp2_with fail
      refine wp_region_script (List.range 9) [] (fun w' => w' = w.drew.drew.drew) [(.read, 0), (.read, 1), (.read, 2), (.read, 3), (.read, 4), (.read, 5), (.read, 6), (.read, 7), (.read, 8)] (by kernel_rfl) (by kernel_rfl) ?_
      iterate 9 (first | (apply scr_r; (· rfl); (· (first | rfl | (simp [Region.wanted, yielded, go_sem]; done) | (simp [Region.wanted, yielded, go_sem, *]; done))); (· (go_simp; try rfl)); (· (simp [go_sem]; try rfl))) | (apply scr_r0; (· rfl); (· (first | rfl | (simp [Region.wanted, yielded, go_sem]; done) | (simp [Region.wanted, yielded, go_sem, *]; done))); (· (simp [go_sem]; try rfl))))
      refine scr_end ?_
      simp only [Exit.then]
      go_wp2_with fail
      have hE : Ext w w.drew.drew.drew := ((Ext.refl w).drew).drew.drew
      refine wp_region_script [0, 1, 2, 3, 4, 5, 7] [] (fun w' => Ext w.drew.drew.drew w') [(.pure, 0), (.pure, 1), (.pure, 2), (.pure, 3), (.pure, 4), (.pure, 5), (.one, 6), (.pure, 7)] (by kernel_rfl) (by kernel_rfl) ?_
      iterate 6 (apply scr_pure'; (· rfl); (· rfl); (· (intro w'; go_simp; try rfl)); (· (simp [go_sem]; try rfl)))
      refine scr_one rfl rfl (fun K hK => ?_)
      go_simp
      refine ih'.out _ b (off + 1) b2 (off2 + 1) inl1 inl2 (i1'.out.ext hE.drew) (i2'.out.ext hE.drew) q1'.out q2'.out _ ?_
      intro w9 hE9
      refine hK _ _ (fun h => by simp at h) ?_
      clear hK
      (apply scr_pure'; (· rfl); (· rfl); (· (intro w'; go_simp; try rfl)); (· (simp [go_sem]; try rfl)))
      refine scr_end ?_
      simp only [Exit.then]
      go_wp2_with fail
      exact hR'.out.bool (by simp) _ (hE.drew.trans hE9)
    | some s2 =>
      obtain ⟨x2, xo2, rfl, -, -, e2, -⟩ := g2.str
      go_enter Try.func56, Try.ntmps56
      go_wp2_with fail
      refine wp_region_script (List.range 11) [] (fun w' => w' = w.drew) [(.read, 0), (.read, 1), (.read, 2), (.read, 3), (.read, 4), (.read, 5), (.read, 6), (.read, 7), (.read, 8), (.read, 9), (.read, 10)] (by kernel_rfl) (by kernel_rfl) ?_
      iterate 11 (first | (apply scr_r; (· rfl); (· (first | rfl | (simp [Region.wanted, yielded, go_sem]; done) | (simp [Region.wanted, yielded, go_sem, *]; done))); (· (go_simp; try rfl)); (· (simp [go_sem]; try rfl))) | (apply scr_r0; (· rfl); (· (first | rfl | (simp [Region.wanted, yielded, go_sem]; done) | (simp [Region.wanted, yielded, go_sem, *]; done))); (· (simp [go_sem]; try rfl))))
      refine scr_end ?_
      simp only [Exit.then]
      go_wp2_with fail
      exact hR'.out.bool (by simp) _ (Ext.refl _).drew
  | some s1 =>
    obtain ⟨x1, xo1, rfl, -, -, e1, -⟩ := g1.str
    cases n2 with
    | none =>
      cases g2
      go_enter Try.func56, Try.ntmps56
      go_wp2_with fail
      refine wp_region_script (List.range 11) [] (fun w' => w' = w.drew) [(.read, 0), (.read, 1), (.read, 2), (.read, 3), (.read, 4), (.read, 5), (.read, 6), (.read, 7), (.read, 8), (.read, 9), (.read, 10)] (by kernel_rfl) (by kernel_rfl) ?_
      iterate 11 (first | (apply scr_r; (· rfl); (· (first | rfl | (simp [Region.wanted, yielded, go_sem]; done) | (simp [Region.wanted, yielded, go_sem, *]; done))); (· (go_simp; try rfl)); (· (simp [go_sem]; try rfl))) | (apply scr_r0; (· rfl); (· (first | rfl | (simp [Region.wanted, yielded, go_sem]; done) | (simp [Region.wanted, yielded, go_sem, *]; done))); (· (simp [go_sem]; try rfl))))
      refine scr_end ?_
      simp only [Exit.then]
      go_wp2_with fail
      exact hR'.out.bool (by simp) _ (Ext.refl _).drew
    | some s2 =>
      obtain ⟨x2, xo2, rfl, -, -, e2, -⟩ := g2.str
      by_cases hs : s1 = s2
      · subst hs
        go_enter Try.func56, Try.ntmps56
        go_wp2_with fail
        refine wp_region_script (List.range 11) [] (fun w' => w' = w.drew) [(.read, 0), (.read, 1), (.read, 2), (.read, 3), (.read, 4), (.read, 5), (.read, 6), (.read, 7), (.read, 8), (.read, 9), (.read, 10)] (by kernel_rfl) (by kernel_rfl) ?_
        iterate 11 (first | (apply scr_r; (· rfl); (· (first | rfl | (simp [Region.wanted, yielded, go_sem]; done) | (simp [Region.wanted, yielded, go_sem, *]; done))); (· (go_simp; try rfl)); (· (simp [go_sem]; try rfl))) | (apply scr_r0; (· rfl); (· (first | rfl | (simp [Region.wanted, yielded, go_sem]; done) | (simp [Region.wanted, yielded, go_sem, *]; done))); (· (simp [go_sem]; try rfl))))
        refine scr_end ?_
        simp only [Exit.then]
        go_wp2_with fail
        refine wp_region_script (List.range 13) [] (fun w' => w' = w.drew.drew) [(.read, 0), (.read, 1), (.read, 2), (.read, 3), (.read, 4), (.read, 5), (.read, 6), (.read, 7), (.read, 8), (.read, 9), (.read, 10), (.read, 11), (.read, 12)] (by kernel_rfl) (by kernel_rfl) ?_
        iterate 13 (first | (apply scr_r; (· rfl); (· (first | rfl | (simp [Region.wanted, yielded, go_sem]; done) | (simp [Region.wanted, yielded, go_sem, *]; done))); (· (go_simp; try rfl)); (· (simp [go_sem]; try rfl))) | (apply scr_r0; (· rfl); (· (first | rfl | (simp [Region.wanted, yielded, go_sem]; done) | (simp [Region.wanted, yielded, go_sem, *]; done))); (· (simp [go_sem]; try rfl))))
        refine scr_end ?_
        simp only [Exit.then]
        go_wp2_with fail
        refine wp_region_script (List.range 9) [] (fun w' => w' = w.drew.drew.drew) [(.read, 0), (.read, 1), (.read, 2), (.read, 3), (.read, 4), (.read, 5), (.read, 6), (.read, 7), (.read, 8)] (by kernel_rfl) (by kernel_rfl) ?_
        iterate 9 (first | (apply scr_r; (· rfl); (· (first | rfl | (simp [Region.wanted, yielded, go_sem]; done) | (simp [Region.wanted, yielded, go_sem, *]; done))); (· (go_simp; try rfl)); (· (simp [go_sem]; try rfl))) | (apply scr_r0; (· rfl); (· (first | rfl | (simp [Region.wanted, yielded, go_sem]; done) | (simp [Region.wanted, yielded, go_sem, *]; done))); (· (simp [go_sem]; try rfl))))
        refine scr_end ?_
        simp only [Exit.then]
        go_wp2_with fail
        refine wp_region_script (List.range 9) [] (fun w' => w' = w.drew.drew.drew.drew) [(.read, 0), (.read, 1), (.read, 2), (.read, 3), (.read, 4), (.read, 5), (.read, 6), (.read, 7), (.read, 8)] (by kernel_rfl) (by kernel_rfl) ?_
        iterate 9 (first | (apply scr_r; (· rfl); (· (first | rfl | (simp [Region.wanted, yielded, go_sem]; done) | (simp [Region.wanted, yielded, go_sem, *]; done))); (· (go_simp; try rfl)); (· (simp [go_sem]; try rfl))) | (apply scr_r0; (· rfl); (· (first | rfl | (simp [Region.wanted, yielded, go_sem]; done) | (simp [Region.wanted, yielded, go_sem, *]; done))); (· (simp [go_sem]; try rfl))))
        refine scr_end ?_
        simp only [Exit.then]
        go_wp2_with fail
        have hE : Ext w w.drew.drew.drew.drew := ((Ext.refl w).drew.drew).drew.drew
        refine wp_region_script [0, 1, 2, 3, 4, 5, 7] [] (fun w' => Ext w.drew.drew.drew.drew w') [(.pure, 0), (.pure, 1), (.pure, 2), (.pure, 3), (.pure, 4), (.pure, 5), (.one, 6), (.pure, 7)] (by kernel_rfl) (by kernel_rfl) ?_
        iterate 6 (apply scr_pure'; (· rfl); (· rfl); (· (intro w'; go_simp; try rfl)); (· (simp [go_sem]; try rfl)))
        refine scr_one rfl rfl (fun K hK => ?_)
        go_simp
        refine ih'.out _ b (off + 1) b2 (off2 + 1) inl1 inl2 (i1'.out.ext hE.drew) (i2'.out.ext hE.drew) q1'.out q2'.out _ ?_
        intro w9 hE9
        refine hK _ _ (fun h => by simp at h) ?_
        clear hK
        (apply scr_pure'; (· rfl); (· rfl); (· (intro w'; go_simp; try rfl)); (· (simp [go_sem]; try rfl)))
        refine scr_end ?_
        simp only [Exit.then]
        go_wp2_with fail
        exact hR'.out.bool (by simp) _ (hE.drew.trans hE9)
      · have hb := bytes_beq hs
        have hs' := Lib.hid hs
        clear hs
        go_enter Try.func56, Try.ntmps56
        go_wp2_with fail
        refine wp_region_script (List.range 11) [] (fun w' => w' = w.drew) [(.read, 0), (.read, 1), (.read, 2), (.read, 3), (.read, 4), (.read, 5), (.read, 6), (.read, 7), (.read, 8), (.read, 9), (.read, 10)] (by kernel_rfl) (by kernel_rfl) ?_
        iterate 11 (first | (apply scr_r; (· rfl); (· (first | rfl | (simp [Region.wanted, yielded, go_sem]; done) | (simp [Region.wanted, yielded, go_sem, *]; done))); (· (go_simp; try rfl)); (· (simp [go_sem]; try rfl))) | (apply scr_r0; (· rfl); (· (first | rfl | (simp [Region.wanted, yielded, go_sem]; done) | (simp [Region.wanted, yielded, go_sem, *]; done))); (· (simp [go_sem]; try rfl))))
        refine scr_end ?_
        simp only [Exit.then]
        go_wp2_with fail
        refine wp_region_script (List.range 13) [] (fun w' => w' = w.drew.drew) [(.read, 0), (.read, 1), (.read, 2), (.read, 3), (.read, 4), (.read, 5), (.read, 6), (.read, 7), (.read, 8), (.read, 9), (.read, 10), (.read, 11), (.read, 12)] (by kernel_rfl) (by kernel_rfl) ?_
        iterate 13 (first | (apply scr_r; (· rfl); (· (first | rfl | (simp [Region.wanted, yielded, go_sem]; done) | (simp [Region.wanted, yielded, go_sem, *]; done))); (· (go_simp; try rfl)); (· (simp [go_sem]; try rfl))) | (apply scr_r0; (· rfl); (· (first | rfl | (simp [Region.wanted, yielded, go_sem]; done) | (simp [Region.wanted, yielded, go_sem, *]; done))); (· (simp [go_sem]; try rfl))))
        refine scr_end ?_
        simp only [Exit.then]
        go_wp2_with fail
        exact hR'.out.bool (by simp [hs'.out]) _ (Ext.refl _).drew.drew

theorem ksLt_at {d : Nat} {w : World} {b off : Nat} {l : SLt SA} (h : AtP (ksLt (ksA d)) w b off l) :
    ∃ vk, AtP (ksRf (ksA d)) w b off l.elem ∧ IsStrs w [] vk l.keys ∧ w.cell? ⟨b, off + 6, none⟩ = some (.string l.rel) ∧ w.cell? ⟨b, off + 7, none⟩ = some vk := by
  obtain ⟨cs, hc, rs, vk, rfl, h1, h2, -⟩ := h
  have e3 : (ksA d).size = 3 := ksA_size d
  have e6 : (ksRf (ksA d)).size = 6 := by simp [ksRf, e3]
  have e8 : (ksLt (ksA d)).size = 8 := by simp [ksLt, e3]
  rw [e8] at hc
  have hl := (ksRf (ksA d)).len h1
  rw [e6] at hl
  refine ⟨vk, ⟨rs, fun j hj => ?_, h1⟩, h2, ?_, ?_⟩
  · rw [e6] at hj
    rw [hc j (by omega), List.getElem?_append_left (by omega)]
  · rw [hc 6 (by omega), List.getElem?_append_right (by omega), hl]; rfl
  · rw [hc 7 (by omega), List.getElem?_append_right (by omega), hl]; rfl
theorem ksFt_at {d : Nat} {w : World} {b off : Nat} {f : SFt SA} (h : AtP (ksFt (ksA d)) w b off f) :
    ∃ x, AtP (ksRf (ksA d)) w b (off + 1) f.type ∧ IsT w [] x f.dflt ∧ w.cell? ⟨b, off, none⟩ = some (.string f.name) ∧ w.cell? ⟨b, off + 7, none⟩ = some x := by
  obtain ⟨cs, hc, rs, x, rfl, h1, h2, -⟩ := h
  have e3 : (ksA d).size = 3 := ksA_size d
  have e6 : (ksRf (ksA d)).size = 6 := by simp [ksRf, e3]
  have e8 : (ksFt (ksA d)).size = 8 := by simp [ksFt, e3]
  rw [e8] at hc
  have hl := (ksRf (ksA d)).len h1
  rw [e6] at hl
  refine ⟨x, ⟨rs, fun j hj => ?_, h1⟩, h2, hc 0 (by omega), ?_⟩
  · rw [e6] at hj
    rw [show off + 1 + j = off + (j + 1) by omega, hc (j + 1) (by omega), List.getElem?_cons_succ, List.getElem?_append_left (by omega)]
  · rw [hc 7 (by omega), List.getElem?_cons_succ, List.getElem?_append_right (by omega), hl]; rfl
theorem ksMt_at {d : Nat} {w : World} {b off : Nat} {m : SMt SA} (h : AtP (ksMt (ksA d)) w b off m) :
    ∃ vf, AtP (ksRf (ksA d)) w b (off + 2) m.elem ∧ IsSl (ksFt (ksA d)) 144 w [] vf m.fields ∧ w.cell? ⟨b, off, none⟩ = some vf ∧ w.cell? ⟨b, off + 1, none⟩ = some (.slice none 0 0) ∧ w.cell? ⟨b, off + 8, none⟩ = some (.string m.rel) := by
  obtain ⟨cs, hc, vf, rs, rfl, h1, h2, -⟩ := h
  have e3 : (ksA d).size = 3 := ksA_size d
  have e6 : (ksRf (ksA d)).size = 6 := by simp [ksRf, e3]
  have e9 : (ksMt (ksA d)).size = 9 := by simp [ksMt, e3]
  rw [e9] at hc
  have hl := (ksRf (ksA d)).len h2
  rw [e6] at hl
  refine ⟨vf, ⟨rs, fun j hj => ?_, h2⟩, h1, hc 0 (by omega), hc 1 (by omega), ?_⟩
  · rw [e6] at hj
    rw [show off + 2 + j = off + (j + 2) by omega, hc (j + 2) (by omega), List.getElem?_cons_succ, List.getElem?_cons_succ, List.getElem?_append_left (by omega)]
  · rw [hc 8 (by omega), List.getElem?_cons_succ, List.getElem?_cons_succ, List.getElem?_append_right (by omega), hl]; rfl
theorem ksAt_at {d : Nat} {w : World} {b off : Nat} {s : Option ByteArray} {l : Option (SLt SA)} {m : Option (SMt SA)} (h : AtP (ksA (d + 1)) w b off (.mk s l m)) :
    ∃ ps pl pm, IsP kS w [] ps s ∧ IsP (ksLt (ksA d)) w [] pl l ∧ IsP (ksMt (ksA d)) w [] pm m ∧ w.cell? ⟨b, off, none⟩ = some ps ∧ w.cell? ⟨b, off + 1, none⟩ = some pl ∧ w.cell? ⟨b, off + 2, none⟩ = some pm := by
  obtain ⟨cs, hc, ps, pl, pm, rfl, h1, h2, h3⟩ := h
  have e3 : (ksA (d + 1)).size = 3 := ksA_size _
  rw [e3] at hc
  exact ⟨ps, pl, pm, h1, h2, h3, hc 0 (by omega), hc 1 (by omega), hc 2 (by omega)⟩

set_option maxRecDepth 100000 in
set_option maxHeartbeats 8000000 in
set_option pp.maxSteps 1000000 in
set_option pp.deepTerms true in
theorem fieldEq_c {d : Nat} (ih : AEqC d) {w : World} {b off b2 off2 : Nat} {x y : SFt SA} (h1 : AtP (ksFt (ksA d)) w b off x) (h2 : AtP (ksFt (ksA d)) w b2 off2 y) (q1 : bareRf (BareS d) x.type) (q2 : bareRf (BareS d) y.type)
    (R : Ending → World → Prop) (hR : Ends R w (.bool (eqFt (eqA d) x y))) : Calls Try.prog 57 #[.pointer (some ⟨b, off, none⟩), .pointer (some ⟨b2, off2, none⟩)] w R := by
  obtain ⟨vx, i1, t1, c0, c7⟩ := ksFt_at h1
  obtain ⟨vy, i2, t2, d0, d7⟩ := ksFt_at h2
  have o1 := t1.one
  have o2 := t2.one
  have i1' := Lib.hid i1
  have i2' := Lib.hid i2
  have t1' := Lib.hid t1
  have t2' := Lib.hid t2
  have q1' := Lib.hid q1
  have q2' := Lib.hid q2
  have ih' := Lib.hid ih
  have hR' := Lib.hid hR
  clear h1 h2 q1 q2 i1 i2 ih hR t1 t2
  obtain ⟨n1, ty1, df1⟩ := x
  obtain ⟨n2, ty2, df2⟩ := y
  dsimp only at i1' i2' q1' q2' hR' t1' t2' c0 d0
  simp only [eqFt] at hR'
  by_cases hn : n1 = n2
  · subst hn
    go_enter Try.func57, Try.ntmps57
    go_wp2_with fail
    refine wp_region_script (List.range 9) [] (fun w' => w' = w.drew) [(.read, 0), (.read, 1), (.read, 2), (.read, 3), (.read, 4), (.read, 5), (.read, 6), (.read, 7), (.read, 8)] (by kernel_rfl) (by kernel_rfl) ?_
    iterate 9 (first | (apply scr_r; (· rfl); (· (first | rfl | (simp [Region.wanted, yielded, go_sem]; done) | (simp [Region.wanted, yielded, go_sem, *]; done))); (· (go_simp; try rfl)); (· (simp [go_sem]; try rfl))) | (apply scr_r0; (· rfl); (· (first | rfl | (simp [Region.wanted, yielded, go_sem]; done) | (simp [Region.wanted, yielded, go_sem, *]; done))); (· (simp [go_sem]; try rfl))))
    refine scr_end ?_
    simp only [Exit.then]
    go_wp2_with fail
    have hE : Ext w w.drew := (Ext.refl w).drew
    have hCd : Ext w.drew w.drew.drew := (Ext.refl w.drew).drew
    refine wp_region_script [0, 1, 2, 3, 4, 5, 6, 7, 9] [] (fun w' => Ext w.drew w') [(.pure, 0), (.pure, 1), (.pure, 2), (.read, 3), (.pure, 4), (.pure, 5), (.pure, 6), (.read, 7), (.one, 8), (.pure, 9)] (by kernel_rfl) (by kernel_rfl) ?_
    have hC := hCd
    replace c7 := hE.keep c7
    replace d7 := hE.keep d7
    iterate 3 (apply scr_pure'; (· rfl); (· rfl); (· (intro w'; go_simp; try rfl)); (· (simp [go_sem]; try rfl)))
    (apply scr_read'; (· rfl); (· rfl); (· first | exact hC | exact (Ext.refl _).drew); (· (intro w' hw'; have c7_ := hw'.keep c7; have d7_ := hw'.keep d7; go_simp; try rfl)); (· (simp [go_sem]; try rfl)))
    iterate 3 (apply scr_pure'; (· rfl); (· rfl); (· (intro w'; go_simp; try rfl)); (· (simp [go_sem]; try rfl)))
    (apply scr_read'; (· rfl); (· rfl); (· first | exact hC | exact (Ext.refl _).drew); (· (intro w' hw'; have c7_ := hw'.keep c7; have d7_ := hw'.keep d7; go_simp; try rfl)); (· (simp [go_sem]; try rfl)))
    refine scr_one rfl rfl (fun K hK => ?_)
    go_simp
    refine deep_c df1 _ [] [] df2 _ _ (t1'.out.mv ((hE.trans hCd).mv [])) (t2'.out.mv ((hE.trans hCd).mv [])) _ ?_
    intro w3 hE3
    refine hK _ _ (fun h => by simp at h) ?_
    clear hK hC
    replace hE := (hE.trans hCd).trans hE3
    obtain ⟨db, hdb⟩ : ∃ q, dpT df1 df2 = q := ⟨_, rfl⟩
    rw [hdb]
    have hdb' := Lib.hid hdb
    clear hdb
    cases db
    · (apply scr_pure'; (· rfl); (· rfl); (· (intro w'; go_simp; try rfl)); (· (simp [go_sem]; try rfl)))
      refine scr_end ?_
      simp only [Exit.then]
      go_wp2_with fail
      exact hR'.out.bool (by simp [hdb'.out]) _ hE
    · (apply scr_pure'; (· rfl); (· rfl); (· (intro w'; go_simp; try rfl)); (· (simp [go_sem]; try rfl)))
      refine scr_end ?_
      simp only [Exit.then]
      go_wp2_with fail
      refine wp_region_script [0, 1, 2, 3, 4, 5, 7] [] (fun w' => Ext w3 w') [(.pure, 0), (.pure, 1), (.pure, 2), (.pure, 3), (.pure, 4), (.pure, 5), (.one, 6), (.pure, 7)] (by kernel_rfl) (by kernel_rfl) ?_
      iterate 6 (apply scr_pure'; (· rfl); (· rfl); (· (intro w'; go_simp; try rfl)); (· (simp [go_sem]; try rfl)))
      refine scr_one rfl rfl (fun K hK => ?_)
      go_simp
      refine typeRefEq_c ih'.out (off := off + 1) (off2 := off2 + 1) (i1'.out.ext hE.drew) (i2'.out.ext hE.drew) q1'.out q2'.out _ ?_
      intro w9 hE9
      refine hK _ _ (fun h => by simp at h) ?_
      clear hK
      (apply scr_pure'; (· rfl); (· rfl); (· (intro w'; go_simp; try rfl)); (· (simp [go_sem]; try rfl)))
      refine scr_end ?_
      simp only [Exit.then]
      go_wp2_with fail
      exact hR'.out.bool (by simp [hdb'.out]) _ (hE.drew.trans hE9)
  · have hb := bytes_beq hn
    have hn' := Lib.hid hn
    clear hn
    go_enter Try.func57, Try.ntmps57
    go_wp2_with fail
    refine wp_region_script (List.range 9) [] (fun w' => w' = w.drew) [(.read, 0), (.read, 1), (.read, 2), (.read, 3), (.read, 4), (.read, 5), (.read, 6), (.read, 7), (.read, 8)] (by kernel_rfl) (by kernel_rfl) ?_
    iterate 9 (first | (apply scr_r; (· rfl); (· (first | rfl | (simp [Region.wanted, yielded, go_sem]; done) | (simp [Region.wanted, yielded, go_sem, *]; done))); (· (go_simp; try rfl)); (· (simp [go_sem]; try rfl))) | (apply scr_r0; (· rfl); (· (first | rfl | (simp [Region.wanted, yielded, go_sem]; done) | (simp [Region.wanted, yielded, go_sem, *]; done))); (· (simp [go_sem]; try rfl))))
    refine scr_end ?_
    simp only [Exit.then]
    go_wp2_with fail
    exact hR'.out.bool (by simp [hn'.out]) _ (Ext.refl _).drew

set_option maxRecDepth 100000 in
set_option maxHeartbeats 8000000 in
set_option pp.maxSteps 1000000 in
set_option pp.deepTerms true in
theorem listEq_c {d : Nat} (ih : AEqC d) {w : World} {b off b2 off2 : Nat} {x y : SLt SA} (h1 : AtP (ksLt (ksA d)) w b off x) (h2 : AtP (ksLt (ksA d)) w b2 off2 y) (q1 : bareRf (BareS d) x.elem) (q2 : bareRf (BareS d) y.elem)
    (R : Ending → World → Prop) (hR : Ends R w (.bool (eqLt (eqA d) x y))) : Calls Try.prog 44 #[.pointer (some ⟨b, off, none⟩), .pointer (some ⟨b2, off2, none⟩)] w R := by
  obtain ⟨vx, i1, t1, c6, c7⟩ := ksLt_at h1
  obtain ⟨vy, i2, t2, d6, d7⟩ := ksLt_at h2
  obtain ⟨o, c, kb, koff, rfl, k2, k3, k4, k5⟩ := t1.ex
  obtain ⟨o2, c2, mb, moff, rfl, m2, m3, m4, m5⟩ := t2.ex
  have i1' := Lib.hid i1
  have i2' := Lib.hid i2
  have q1' := Lib.hid q1
  have q2' := Lib.hid q2
  have ih' := Lib.hid ih
  have hR' := Lib.hid hR
  have k4' := Lib.hid k4
  have k5' := Lib.hid k5
  have m4' := Lib.hid m4
  have m5' := Lib.hid m5
  clear h1 h2 q1 q2 i1 i2 ih hR t1 t2 k2 m2 k4 k5 m4 m5
  obtain ⟨el1, n1, keys⟩ := x
  obtain ⟨el2, n2, keys2⟩ := y
  dsimp only at i1' i2' q1' q2' hR' c6 d6 c7 d7 k3 m3 k4' k5' m4' m5'
  simp only [eqLt] at hR'
  have hE : Ext w w := Ext.refl w
  go_enter Try.func44, Try.ntmps44
  go_wp2_with fail
  refine wp_region_script [0, 1, 2, 3, 4, 5, 7] [] (fun w' => Ext w w') [(.pure, 0), (.pure, 1), (.pure, 2), (.pure, 3), (.pure, 4), (.pure, 5), (.one, 6), (.pure, 7)] (by kernel_rfl) (by kernel_rfl) ?_
  iterate 6 (apply scr_pure'; (· rfl); (· rfl); (· (intro w'; go_simp; try rfl)); (· (simp [go_sem]; try rfl)))
  refine scr_one rfl rfl (fun K hK => ?_)
  go_simp
  refine typeRefEq_c ih'.out (off := off) (off2 := off2) (i1'.out.ext hE.drew) (i2'.out.ext hE.drew) q1'.out q2'.out _ ?_
  intro w9 hE9
  refine hK _ _ (fun h => by simp at h) ?_
  clear hK
  replace hE := hE.drew.trans hE9
  replace c6 := hE.keep c6; replace c7 := hE.keep c7; replace d6 := hE.keep d6; replace d7 := hE.keep d7
  obtain ⟨eb, heb⟩ : ∃ q, eqRf (eqA d) el1 el2 = q := ⟨_, rfl⟩
  rw [heb]
  have heb' := Lib.hid heb
  clear heb
  cases eb
  · (apply scr_pure'; (· rfl); (· rfl); (· (intro w'; go_simp; try rfl)); (· (simp [go_sem]; try rfl)))
    refine scr_end ?_
    simp only [Exit.then]
    go_wp2_with fail
    exact hR'.out.bool (by simp [heb'.out]) _ hE
  (apply scr_pure'; (· rfl); (· rfl); (· (intro w'; go_simp; try rfl)); (· (simp [go_sem]; try rfl)))
  refine scr_end ?_
  simp only [Exit.then]
  go_wp2_with fail
  by_cases hn : n1 = n2
  · subst hn
    refine wp_region_script (List.range 9) [] (fun w' => w' = w9.drew) [(.read, 0), (.read, 1), (.read, 2), (.read, 3), (.read, 4), (.read, 5), (.read, 6), (.read, 7), (.read, 8)] (by kernel_rfl) (by kernel_rfl) ?_
    iterate 9 (first | (apply scr_r; (· rfl); (· (first | rfl | (simp [Region.wanted, yielded, go_sem]; done) | (simp [Region.wanted, yielded, go_sem, *]; done))); (· (go_simp; try rfl)); (· (simp [go_sem]; try rfl))) | (apply scr_r0; (· rfl); (· (first | rfl | (simp [Region.wanted, yielded, go_sem]; done) | (simp [Region.wanted, yielded, go_sem, *]; done))); (· (simp [go_sem]; try rfl))))
    refine scr_end ?_
    simp only [Exit.then]
    go_wp2_with fail
    by_cases hlen : keys.length = keys2.length
    · have hkl' := Lib.hid hlen
      rw [← hlen] at d7
      rw [← hlen] at m3
      clear hlen
      refine wp_region_script (List.range 11) [] (fun w' => w' = w9.drew.drew) [(.read, 0), (.read, 1), (.read, 2), (.read, 3), (.read, 4), (.read, 5), (.read, 6), (.read, 7), (.read, 8), (.read, 9), (.read, 10)] (by kernel_rfl) (by kernel_rfl) ?_
      iterate 11 (first | (apply scr_r; (· rfl); (· (first | rfl | (simp [Region.wanted, yielded, go_sem]; done) | (simp [Region.wanted, yielded, go_sem, *]; done))); (· (go_simp; try rfl)); (· (simp [go_sem]; try rfl))) | (apply scr_r0; (· rfl); (· (first | rfl | (simp [Region.wanted, yielded, go_sem]; done) | (simp [Region.wanted, yielded, go_sem, *]; done))); (· (simp [go_sem]; try rfl))))
      refine scr_end ?_
      simp only [Exit.then]
      go_wp2_with fail
      replace hE := hE.drew.drew
      have hEw : Ext w9 w9.drew.drew := (Ext.refl w9).drew.drew
      replace c6 := hEw.keep c6; replace c7 := hEw.keep c7; replace d6 := hEw.keep d6; replace d7 := hEw.keep d7
      clear hE9 hEw
      generalize w9.drew.drew = w9 at hE c6 c7 d6 d7 ⊢
      go_loopw [5, 51] (fun _ i wr => ∃ k : Nat, k ≤ keys.length ∧ i = .int .i64 k ∧ Ext w9 wr ∧ Hid (∀ j (h : j < keys.length) (h2 : j < keys2.length), j < k → keys[j] = keys2[j])) (fun _ i _ => keys.length - (intOf i).toNat)
      case atStart => exact ⟨0, Nat.zero_le _, rfl, Ext.refl _, fun j _ _ hj => by omega⟩
      case round =>
        obtain ⟨k, hk, rfl, hE2, hall⟩ := hrel
        replace c7 := hE2.keep c7; replace d7 := hE2.keep d7
        replace hE := hE.trans hE2
        by_cases hlt : k < keys.length
        · have hlt2 : k < keys2.length := by have := hkl'.out; omega
          obtain ⟨rfl, -⟩ := k4'.out (by omega)
          obtain ⟨rfl, -⟩ := m4'.out (by omega)
          have q0 := hE.keep (k5'.out k hlt).1
          have q1 := hE.keep (m5'.out k hlt2).1
          have hkm : (k : Int) + 1 ≤ 9223372036854775807 := by omega
          have hk1 : keys.getD k ByteArray.empty = keys[k] := by simp [hlt]
          have hk2 : keys2.getD k ByteArray.empty = keys2[k] := by simp [hlt2]
          rw [hk1] at q0
          rw [hk2] at q1
          clear hk1 hk2
          have hi1 : (k : Int) < (keys.length : Int) := by omega
          by_cases hke : keys[k] = keys2[k]
          · rw [hke] at q0
            have hke' := Lib.hid hke
            clear hke
            go_wp2_with fail
            refine wp_region_script (List.range 15) [] (fun w' => w' = wr.drew) [(.read, 0), (.read, 1), (.read, 2), (.read, 3), (.read, 4), (.read, 5), (.read, 6), (.read, 7), (.read, 8), (.read, 9), (.read, 10), (.read, 11), (.read, 12), (.read, 13), (.read, 14)] (by kernel_rfl) (by kernel_rfl) ?_
            iterate 15 (first | (apply scr_r; (· rfl); (· (first | rfl | (simp [Region.wanted, yielded, go_sem]; done) | (simp [Region.wanted, yielded, go_sem, *]; done))); (· (go_simp; try rfl)); (· (simp [go_sem]; try rfl))) | (apply scr_r0; (· rfl); (· (first | rfl | (simp [Region.wanted, yielded, go_sem]; done) | (simp [Region.wanted, yielded, go_sem, *]; done))); (· (simp [go_sem]; try rfl))))
            refine scr_end ?_
            simp only [Exit.then]
            go_wp2_with fail
            go_roundw
            case rel =>
              refine ⟨k + 1, by omega, by go_num, hE2.drew, fun j h h2 hj => ?_⟩
              by_cases e : j = k
              · subst e; exact hke'.out
              · exact hall.out j h h2 (by omega)
            case measure => simp [intOf]; omega
          · have hkt : ((keys[k]).toList == (keys2[k]).toList) = false := bytes_beq hke
            have hke' := Lib.hid hke
            clear hke
            go_wp2_with fail
            refine wp_region_script (List.range 15) [] (fun w' => w' = wr.drew) [(.read, 0), (.read, 1), (.read, 2), (.read, 3), (.read, 4), (.read, 5), (.read, 6), (.read, 7), (.read, 8), (.read, 9), (.read, 10), (.read, 11), (.read, 12), (.read, 13), (.read, 14)] (by kernel_rfl) (by kernel_rfl) ?_
            iterate 15 (first | (apply scr_r; (· rfl); (· (first | rfl | (simp [Region.wanted, yielded, go_sem]; done) | (simp [Region.wanted, yielded, go_sem, *]; done))); (· (go_simp; try rfl)); (· (simp [go_sem]; try rfl))) | (apply scr_r0; (· rfl); (· (first | rfl | (simp [Region.wanted, yielded, go_sem]; done) | (simp [Region.wanted, yielded, go_sem, *]; done))); (· (simp [go_sem]; try rfl))))
            refine scr_end ?_
            simp only [Exit.then]
            go_wp2_with fail
            refine hR'.out.bool ?_ _ hE.drew
            have : ¬ keys = keys2 := fun h => hke'.out (by subst h; rfl)
            simp [this]
        · have hkeys : keys = keys2 := List.ext_getElem hkl'.out (fun j h h2 => hall.out j h h2 (by omega))
          have hkeys' := Lib.hid hkeys
          clear hkeys hall
          go_wp2_with fail
          refine hR'.out.bool ?_ _ hE
          simp [hkeys'.out, heb'.out]
    · have hlI : ((keys.length : Int) == (keys2.length : Int)) = false := by simp; omega
      have hlen' := Lib.hid hlen
      clear hlen
      refine wp_region_script (List.range 11) [] (fun w' => w' = w9.drew.drew) [(.read, 0), (.read, 1), (.read, 2), (.read, 3), (.read, 4), (.read, 5), (.read, 6), (.read, 7), (.read, 8), (.read, 9), (.read, 10)] (by kernel_rfl) (by kernel_rfl) ?_
      iterate 11 (first | (apply scr_r; (· rfl); (· (first | rfl | (simp [Region.wanted, yielded, go_sem]; done) | (simp [Region.wanted, yielded, go_sem, *]; done))); (· (go_simp; try rfl)); (· (simp [go_sem]; try rfl))) | (apply scr_r0; (· rfl); (· (first | rfl | (simp [Region.wanted, yielded, go_sem]; done) | (simp [Region.wanted, yielded, go_sem, *]; done))); (· (simp [go_sem]; try rfl))))
      refine scr_end ?_
      simp only [Exit.then]
      go_wp2_with fail
      refine hR'.out.bool ?_ _ hE.drew.drew
      have : ¬ keys = keys2 := fun h => hlen'.out (by rw [h])
      simp [this]
  · have hb := bytes_beq hn
    have hn' := Lib.hid hn
    clear hn
    refine wp_region_script (List.range 9) [] (fun w' => w' = w9.drew) [(.read, 0), (.read, 1), (.read, 2), (.read, 3), (.read, 4), (.read, 5), (.read, 6), (.read, 7), (.read, 8)] (by kernel_rfl) (by kernel_rfl) ?_
    iterate 9 (first | (apply scr_r; (· rfl); (· (first | rfl | (simp [Region.wanted, yielded, go_sem]; done) | (simp [Region.wanted, yielded, go_sem, *]; done))); (· (go_simp; try rfl)); (· (simp [go_sem]; try rfl))) | (apply scr_r0; (· rfl); (· (first | rfl | (simp [Region.wanted, yielded, go_sem]; done) | (simp [Region.wanted, yielded, go_sem, *]; done))); (· (simp [go_sem]; try rfl))))
    refine scr_end ?_
    simp only [Exit.then]
    go_wp2_with fail
    exact hR'.out.bool (by simp [hn'.out]) _ hE.drew

set_option maxRecDepth 100000 in
set_option maxHeartbeats 8000000 in
set_option pp.maxSteps 1000000 in
set_option pp.deepTerms true in
theorem mapEq_c {d : Nat} (ih : AEqC d) {w : World} {b off b2 off2 : Nat} {x y : SMt SA} (h1 : AtP (ksMt (ksA d)) w b off x) (h2 : AtP (ksMt (ksA d)) w b2 off2 y) (q1 : bareRf (BareS d) x.elem) (q2 : bareRf (BareS d) y.elem)
    (qf1 : ∀ z ∈ x.fields, bareRf (BareS d) z.type) (qf2 : ∀ z ∈ y.fields, bareRf (BareS d) z.type)
    (R : Ending → World → Prop) (hR : Ends R w (.bool (eqMt (eqA d) x y))) : Calls Try.prog 45 #[.pointer (some ⟨b, off, none⟩), .pointer (some ⟨b2, off2, none⟩)] w R := by
  obtain ⟨vx, i1, t1, c0, c1, c8⟩ := ksMt_at h1
  obtain ⟨vy, i2, t2, d0, d1, d8⟩ := ksMt_at h2
  have e8 : (ksFt (ksA d)).size = 8 := by simp [ksFt, ksA_size]
  obtain ⟨o, c, kb, koff, rfl, k2, k3, k4, k5⟩ := t1.ex
  obtain ⟨o2, c2, mb, moff, rfl, m2, m3, m4, m5⟩ := t2.ex
  rw [e8] at k5 m5
  have i1' := Lib.hid i1
  have i2' := Lib.hid i2
  have q1' := Lib.hid q1
  have q2' := Lib.hid q2
  have qf1' := Lib.hid qf1
  have qf2' := Lib.hid qf2
  have ih' := Lib.hid ih
  have hR' := Lib.hid hR
  have k4' := Lib.hid k4
  have k5' := Lib.hid k5
  have m4' := Lib.hid m4
  have m5' := Lib.hid m5
  have e8' := Lib.hid e8
  clear h1 h2 q1 q2 i1 i2 ih hR t1 t2 k2 m2 k4 k5 m4 m5 qf1 qf2 e8
  obtain ⟨fs1, el1, n1⟩ := x
  obtain ⟨fs2, el2, n2⟩ := y
  dsimp only at i1' i2' q1' q2' hR' c0 d0 c8 d8 k3 m3 k4' k5' m4' m5' qf1' qf2'
  simp only [eqMt] at hR'
  have hE : Ext w w := Ext.refl w
  go_enter Try.func45, Try.ntmps45
  go_wp2_with fail
  refine wp_region_script [0, 1, 2, 3, 4, 5, 7] [] (fun w' => Ext w w') [(.pure, 0), (.pure, 1), (.pure, 2), (.pure, 3), (.pure, 4), (.pure, 5), (.one, 6), (.pure, 7)] (by kernel_rfl) (by kernel_rfl) ?_
  iterate 6 (apply scr_pure'; (· rfl); (· rfl); (· (intro w'; go_simp; try rfl)); (· (simp [go_sem]; try rfl)))
  refine scr_one rfl rfl (fun K hK => ?_)
  go_simp
  refine typeRefEq_c ih'.out (off := off + 2) (off2 := off2 + 2) (i1'.out.ext hE.drew) (i2'.out.ext hE.drew) q1'.out q2'.out _ ?_
  intro w9 hE9
  refine hK _ _ (fun h => by simp at h) ?_
  clear hK
  replace hE := hE.drew.trans hE9
  replace c0 := hE.keep c0; replace c1 := hE.keep c1; replace c8 := hE.keep c8; replace d0 := hE.keep d0; replace d1 := hE.keep d1; replace d8 := hE.keep d8
  obtain ⟨eb, heb⟩ : ∃ q, eqRf (eqA d) el1 el2 = q := ⟨_, rfl⟩
  rw [heb]
  have heb' := Lib.hid heb
  clear heb
  cases eb
  · (apply scr_pure'; (· rfl); (· rfl); (· (intro w'; go_simp; try rfl)); (· (simp [go_sem]; try rfl)))
    refine scr_end ?_
    simp only [Exit.then]
    go_wp2_with fail
    exact hR'.out.bool (by simp [heb'.out]) _ hE
  (apply scr_pure'; (· rfl); (· rfl); (· (intro w'; go_simp; try rfl)); (· (simp [go_sem]; try rfl)))
  refine scr_end ?_
  simp only [Exit.then]
  go_wp2_with fail
  by_cases hn : n1 = n2
  · subst hn
    refine wp_region_script (List.range 9) [] (fun w' => w' = w9.drew) [(.read, 0), (.read, 1), (.read, 2), (.read, 3), (.read, 4), (.read, 5), (.read, 6), (.read, 7), (.read, 8)] (by kernel_rfl) (by kernel_rfl) ?_
    iterate 9 (first | (apply scr_r; (· rfl); (· (first | rfl | (simp [Region.wanted, yielded, go_sem]; done) | (simp [Region.wanted, yielded, go_sem, *]; done))); (· (go_simp; try rfl)); (· (simp [go_sem]; try rfl))) | (apply scr_r0; (· rfl); (· (first | rfl | (simp [Region.wanted, yielded, go_sem]; done) | (simp [Region.wanted, yielded, go_sem, *]; done))); (· (simp [go_sem]; try rfl))))
    refine scr_end ?_
    simp only [Exit.then]
    go_wp2_with fail
    by_cases hlen : fs1.length = fs2.length
    · have hkl' := Lib.hid hlen
      rw [← hlen] at d0
      rw [← hlen] at m3
      clear hlen
      refine wp_region_script (List.range 11) [] (fun w' => w' = w9.drew.drew) [(.read, 0), (.read, 1), (.read, 2), (.read, 3), (.read, 4), (.read, 5), (.read, 6), (.read, 7), (.read, 8), (.read, 9), (.read, 10)] (by kernel_rfl) (by kernel_rfl) ?_
      iterate 11 (first | (apply scr_r; (· rfl); (· (first | rfl | (simp [Region.wanted, yielded, go_sem]; done) | (simp [Region.wanted, yielded, go_sem, *]; done))); (· (go_simp; try rfl)); (· (simp [go_sem]; try rfl))) | (apply scr_r0; (· rfl); (· (first | rfl | (simp [Region.wanted, yielded, go_sem]; done) | (simp [Region.wanted, yielded, go_sem, *]; done))); (· (simp [go_sem]; try rfl))))
      refine scr_end ?_
      simp only [Exit.then]
      go_wp2_with fail
      replace hE := hE.drew.drew
      have hEw : Ext w9 w9.drew.drew := (Ext.refl w9).drew.drew
      replace c0 := hEw.keep c0; replace c1 := hEw.keep c1; replace c8 := hEw.keep c8; replace d0 := hEw.keep d0; replace d1 := hEw.keep d1; replace d8 := hEw.keep d8
      clear hE9 hEw
      generalize w9.drew.drew = w9 at hE c0 c1 c8 d0 d1 d8 ⊢
      go_loopw [5, 52] (fun _ i wr => ∃ k : Nat, k ≤ fs1.length ∧ i = .int .i64 k ∧ Ext w9 wr ∧ Hid (∀ j (h : j < fs1.length) (h2 : j < fs2.length), j < k → eqFt (eqA d) fs1[j] fs2[j] = true)) (fun _ i _ => fs1.length - (intOf i).toNat)
      case atStart => exact ⟨0, Nat.zero_le _, rfl, Ext.refl _, fun j _ _ hj => by omega⟩
      case round =>
        obtain ⟨k, hk, rfl, hE2, hall⟩ := hrel
        replace c0 := hE2.keep c0; replace c1 := hE2.keep c1; replace c8 := hE2.keep c8; replace d0 := hE2.keep d0; replace d1 := hE2.keep d1; replace d8 := hE2.keep d8
        replace hE := hE.trans hE2
        by_cases hlt : k < fs1.length
        · have hlt2 : k < fs2.length := by have := hkl'.out; omega
          obtain ⟨rfl, -⟩ := k4'.out (by omega)
          obtain ⟨rfl, -⟩ := m4'.out (by omega)
          obtain ⟨cs1, u1, v1⟩ := k5'.out k hlt
          obtain ⟨cs2, u2, v2⟩ := m5'.out k hlt2
          have a1 := Lib.hid (show AtP (ksFt (ksA d)) w kb (koff + k * 8) fs1[k] from ⟨cs1, fun j hj => u1 j (by rw [e8'.out] at hj; exact hj), v1⟩)
          have a2 := Lib.hid (show AtP (ksFt (ksA d)) w mb (moff + k * 8) fs2[k] from ⟨cs2, fun j hj => u2 j (by rw [e8'.out] at hj; exact hj), v2⟩)
          clear u1 v1 u2 v2
          have hkm : (k : Int) + 1 ≤ 9223372036854775807 := by omega
          have hi1 : (k : Int) < (fs1.length : Int) := by omega
          have hE2' := Lib.hid hE2
          have hE' := Lib.hid hE
          clear hE2 hE
          go_wp2_with fail
          refine wp_region_script [0, 1, 2, 3, 4, 5, 6, 7, 8, 9, 10, 11, 13] [] (fun w' => Ext wr w') [(.pure, 0), (.pure, 1), (.pure, 2), (.read, 3), (.pure, 4), (.pure, 5), (.pure, 6), (.pure, 7), (.pure, 8), (.read, 9), (.pure, 10), (.pure, 11), (.one, 12), (.pure, 13)] (by kernel_rfl) (by kernel_rfl) ?_
          have hC : Ext wr wr.drew := (Ext.refl wr).drew
          iterate 3 (apply scr_pure'; (· rfl); (· rfl); (· (intro w'; go_simp; try rfl)); (· (simp [go_sem]; try rfl)))
          (apply scr_read'; (· rfl); (· rfl); (· first | exact hC | exact (Ext.refl _).drew); (· (intro w' hw'; have c0_ := hw'.keep c0; have d0_ := hw'.keep d0; go_simp; try rfl)); (· (simp [go_sem]; try rfl)))
          iterate 5 (apply scr_pure'; (· rfl); (· rfl); (· (intro w'; go_simp; try rfl)); (· (simp [go_sem]; try rfl)))
          (apply scr_read'; (· rfl); (· rfl); (· first | exact hC | exact (Ext.refl _).drew); (· (intro w' hw'; have c0_ := hw'.keep c0; have d0_ := hw'.keep d0; go_simp; try rfl)); (· (simp [go_sem]; try rfl)))
          iterate 2 (apply scr_pure'; (· rfl); (· rfl); (· (intro w'; go_simp; try rfl)); (· (simp [go_sem]; try rfl)))
          refine scr_one rfl rfl (fun K hK => ?_)
          go_simp
          refine fieldEq_c ih'.out (off := koff + k * 8) (off2 := moff + k * 8) (a1.out.ext hE'.out.drew) (a2.out.ext hE'.out.drew) (qf1'.out _ (List.getElem_mem hlt)) (qf2'.out _ (List.getElem_mem hlt2)) _ ?_
          intro w3 hE3
          refine hK _ _ (fun h => by simp at h) ?_
          clear hK
          obtain ⟨fb, hfb⟩ : ∃ q, eqFt (eqA d) fs1[k] fs2[k] = q := ⟨_, rfl⟩
          rw [hfb]
          have hfb' := Lib.hid hfb
          clear hfb
          cases fb
          · (apply scr_pure'; (· rfl); (· rfl); (· (intro w'; go_simp; try rfl)); (· (simp [go_sem]; try rfl)))
            refine scr_end ?_
            simp only [Exit.then]
            go_wp2_with fail
            exact hR'.out.bool (by rw [all2b_no k hlt hlt2 hfb'.out]; simp) _ (hE'.out.drew.trans hE3)
          · (apply scr_pure'; (· rfl); (· rfl); (· (intro w'; go_simp; try rfl)); (· (simp [go_sem]; try rfl)))
            refine scr_end ?_
            simp only [Exit.then]
            go_wp2_with fail
            go_roundw
            case rel =>
              refine ⟨k + 1, by omega, by go_num, hE2'.out.drew.trans hE3, fun j h h2 hj => ?_⟩
              by_cases e : j = k
              · subst e; exact hfb'.out
              · exact hall.out j h h2 (by omega)
            case measure => simp [intOf]; omega
        · have hfin := Lib.hid (show all2b (eqFt (eqA d)) fs1 fs2 = true from (all2b_iff hkl'.out).2 fun j h h2 => hall.out j h h2 (by omega))
          go_wp2_with fail
          refine wp_region_script (List.range 11) [] (fun w' => w' = wr.drew) [(.read, 0), (.read, 1), (.read, 2), (.read, 3), (.read, 4), (.read, 5), (.read, 6), (.read, 7), (.read, 8), (.read, 9), (.read, 10)] (by kernel_rfl) (by kernel_rfl) ?_
          iterate 11 (first | (apply scr_r; (· rfl); (· (first | rfl | (simp [Region.wanted, yielded, go_sem]; done) | (simp [Region.wanted, yielded, go_sem, *]; done))); (· (go_simp; try rfl)); (· (simp [go_sem]; try rfl))) | (apply scr_r0; (· rfl); (· (first | rfl | (simp [Region.wanted, yielded, go_sem]; done) | (simp [Region.wanted, yielded, go_sem, *]; done))); (· (simp [go_sem]; try rfl))))
          refine scr_end ?_
          simp only [Exit.then]
          have hEd : Ext wr wr.drew := (Ext.refl wr).drew
          replace c0 := hEd.keep c0; replace c1 := hEd.keep c1; replace c8 := hEd.keep c8; replace d0 := hEd.keep d0; replace d1 := hEd.keep d1; replace d8 := hEd.keep d8
          replace hE := hE.drew
          clear hall hE2 hEd
          generalize wr.drew = wr at hE c0 c1 c8 d0 d1 d8 ⊢
          go_wp2_with fail
          go_loopw [6, 86] (fun _ i w2 => i = .int .i64 0 ∧ w2 = wr) (fun _ _ _ => 0)
          case atStart => exact ⟨rfl, rfl⟩
          case round =>
            obtain ⟨rfl, rfl⟩ := hrel
            go_wp2_with fail
            refine hR'.out.bool ?_ _ hE
            simp [hfin.out, heb'.out]
    · have hlI : ((fs1.length : Int) == (fs2.length : Int)) = false := by simp; omega
      have hlen' := Lib.hid hlen
      clear hlen
      refine wp_region_script (List.range 11) [] (fun w' => w' = w9.drew.drew) [(.read, 0), (.read, 1), (.read, 2), (.read, 3), (.read, 4), (.read, 5), (.read, 6), (.read, 7), (.read, 8), (.read, 9), (.read, 10)] (by kernel_rfl) (by kernel_rfl) ?_
      iterate 11 (first | (apply scr_r; (· rfl); (· (first | rfl | (simp [Region.wanted, yielded, go_sem]; done) | (simp [Region.wanted, yielded, go_sem, *]; done))); (· (go_simp; try rfl)); (· (simp [go_sem]; try rfl))) | (apply scr_r0; (· rfl); (· (first | rfl | (simp [Region.wanted, yielded, go_sem]; done) | (simp [Region.wanted, yielded, go_sem, *]; done))); (· (simp [go_sem]; try rfl))))
      refine scr_end ?_
      simp only [Exit.then]
      go_wp2_with fail
      refine hR'.out.bool ?_ _ hE.drew.drew
      simp [all2b_neq hlen'.out]
  · have hb := bytes_beq hn
    have hn' := Lib.hid hn
    clear hn
    refine wp_region_script (List.range 9) [] (fun w' => w' = w9.drew) [(.read, 0), (.read, 1), (.read, 2), (.read, 3), (.read, 4), (.read, 5), (.read, 6), (.read, 7), (.read, 8)] (by kernel_rfl) (by kernel_rfl) ?_
    iterate 9 (first | (apply scr_r; (· rfl); (· (first | rfl | (simp [Region.wanted, yielded, go_sem]; done) | (simp [Region.wanted, yielded, go_sem, *]; done))); (· (go_simp; try rfl)); (· (simp [go_sem]; try rfl))) | (apply scr_r0; (· rfl); (· (first | rfl | (simp [Region.wanted, yielded, go_sem]; done) | (simp [Region.wanted, yielded, go_sem, *]; done))); (· (simp [go_sem]; try rfl))))
    refine scr_end ?_
    simp only [Exit.then]
    go_wp2_with fail
    exact hR'.out.bool (by simp [hn'.out]) _ hE.drew

set_option maxRecDepth 100000 in
set_option maxHeartbeats 8000000 in
set_option pp.maxSteps 1000000 in
set_option pp.deepTerms true in
theorem atomEq_step {d : Nat} (ih : AEqC d) : AEqC (d + 1) := by
  intro w b off b2 off2 x y h1 h2 q1 q2 R hR
  obtain ⟨s, l, m⟩ := x
  obtain ⟨t, k, n⟩ := y
  obtain ⟨ps, pl, pm, s1, l1, m1, c0, c1, c2⟩ := ksAt_at h1
  obtain ⟨pt, pk, pn, s2, l2, m2, d0, d1, d2⟩ := ksAt_at h2
  have ql1 := Lib.hid q1.1
  have qm1 := Lib.hid q1.2
  have ql2 := Lib.hid q2.1
  have qm2 := Lib.hid q2.2
  have ih' := Lib.hid ih
  have hR' := Lib.hid hR
  clear h1 h2 q1 q2 ih hR
  simp only [eqA, eqAt] at hR'
  have hE : Ext w w := Ext.refl w
  cases s with
  | none =>
    cases s1
    cases t with
    | none =>
      cases s2
      cases l with
      | none =>
        cases l1
        cases k with
        | none =>
          cases l2
          cases m with
          | none =>
            cases m1
            cases n with
            | none =>
              cases m2
              go_enter Try.func30, Try.ntmps30
              go_wp2_with fail
              refine wp_region_script (List.range 11) [] (fun w' => w' = w.drew) [(.read, 0), (.read, 1), (.read, 2), (.read, 3), (.read, 4), (.read, 5), (.read, 6), (.read, 7), (.read, 8), (.read, 9), (.read, 10)] (by kernel_rfl) (by kernel_rfl) ?_
              iterate 11 (first | (apply scr_r; (· rfl); (· (first | rfl | (simp [Region.wanted, yielded, go_sem]; done) | (simp [Region.wanted, yielded, go_sem, *]; done))); (· (go_simp; try rfl)); (· (simp [go_sem]; try rfl))) | (apply scr_r0; (· rfl); (· (first | rfl | (simp [Region.wanted, yielded, go_sem]; done) | (simp [Region.wanted, yielded, go_sem, *]; done))); (· (simp [go_sem]; try rfl))))
              refine scr_end ?_
              simp only [Exit.then]
              go_wp2_with fail
              refine wp_region_script (List.range 11) [] (fun w' => w' = w.drew.drew) [(.read, 0), (.read, 1), (.read, 2), (.read, 3), (.read, 4), (.read, 5), (.read, 6), (.read, 7), (.read, 8), (.read, 9), (.read, 10)] (by kernel_rfl) (by kernel_rfl) ?_
              iterate 11 (first | (apply scr_r; (· rfl); (· (first | rfl | (simp [Region.wanted, yielded, go_sem]; done) | (simp [Region.wanted, yielded, go_sem, *]; done))); (· (go_simp; try rfl)); (· (simp [go_sem]; try rfl))) | (apply scr_r0; (· rfl); (· (first | rfl | (simp [Region.wanted, yielded, go_sem]; done) | (simp [Region.wanted, yielded, go_sem, *]; done))); (· (simp [go_sem]; try rfl))))
              refine scr_end ?_
              simp only [Exit.then]
              go_wp2_with fail
              refine wp_region_script (List.range 11) [] (fun w' => w' = w.drew.drew.drew) [(.read, 0), (.read, 1), (.read, 2), (.read, 3), (.read, 4), (.read, 5), (.read, 6), (.read, 7), (.read, 8), (.read, 9), (.read, 10)] (by kernel_rfl) (by kernel_rfl) ?_
              iterate 11 (first | (apply scr_r; (· rfl); (· (first | rfl | (simp [Region.wanted, yielded, go_sem]; done) | (simp [Region.wanted, yielded, go_sem, *]; done))); (· (go_simp; try rfl)); (· (simp [go_sem]; try rfl))) | (apply scr_r0; (· rfl); (· (first | rfl | (simp [Region.wanted, yielded, go_sem]; done) | (simp [Region.wanted, yielded, go_sem, *]; done))); (· (simp [go_sem]; try rfl))))
              refine scr_end ?_
              simp only [Exit.then]
              go_wp2_with fail
              exact hR'.out.bool (by simp) _ hE.drew.drew.drew
            | some mz2 =>
              obtain ⟨m2, mo2, rfl, atm2⟩ := m2.at
              go_enter Try.func30, Try.ntmps30
              go_wp2_with fail
              refine wp_region_script (List.range 11) [] (fun w' => w' = w.drew) [(.read, 0), (.read, 1), (.read, 2), (.read, 3), (.read, 4), (.read, 5), (.read, 6), (.read, 7), (.read, 8), (.read, 9), (.read, 10)] (by kernel_rfl) (by kernel_rfl) ?_
              iterate 11 (first | (apply scr_r; (· rfl); (· (first | rfl | (simp [Region.wanted, yielded, go_sem]; done) | (simp [Region.wanted, yielded, go_sem, *]; done))); (· (go_simp; try rfl)); (· (simp [go_sem]; try rfl))) | (apply scr_r0; (· rfl); (· (first | rfl | (simp [Region.wanted, yielded, go_sem]; done) | (simp [Region.wanted, yielded, go_sem, *]; done))); (· (simp [go_sem]; try rfl))))
              refine scr_end ?_
              simp only [Exit.then]
              go_wp2_with fail
              refine wp_region_script (List.range 11) [] (fun w' => w' = w.drew.drew) [(.read, 0), (.read, 1), (.read, 2), (.read, 3), (.read, 4), (.read, 5), (.read, 6), (.read, 7), (.read, 8), (.read, 9), (.read, 10)] (by kernel_rfl) (by kernel_rfl) ?_
              iterate 11 (first | (apply scr_r; (· rfl); (· (first | rfl | (simp [Region.wanted, yielded, go_sem]; done) | (simp [Region.wanted, yielded, go_sem, *]; done))); (· (go_simp; try rfl)); (· (simp [go_sem]; try rfl))) | (apply scr_r0; (· rfl); (· (first | rfl | (simp [Region.wanted, yielded, go_sem]; done) | (simp [Region.wanted, yielded, go_sem, *]; done))); (· (simp [go_sem]; try rfl))))
              refine scr_end ?_
              simp only [Exit.then]
              go_wp2_with fail
              refine wp_region_script (List.range 11) [] (fun w' => w' = w.drew.drew.drew) [(.read, 0), (.read, 1), (.read, 2), (.read, 3), (.read, 4), (.read, 5), (.read, 6), (.read, 7), (.read, 8), (.read, 9), (.read, 10)] (by kernel_rfl) (by kernel_rfl) ?_
              iterate 11 (first | (apply scr_r; (· rfl); (· (first | rfl | (simp [Region.wanted, yielded, go_sem]; done) | (simp [Region.wanted, yielded, go_sem, *]; done))); (· (go_simp; try rfl)); (· (simp [go_sem]; try rfl))) | (apply scr_r0; (· rfl); (· (first | rfl | (simp [Region.wanted, yielded, go_sem]; done) | (simp [Region.wanted, yielded, go_sem, *]; done))); (· (simp [go_sem]; try rfl))))
              refine scr_end ?_
              simp only [Exit.then]
              go_wp2_with fail
              exact hR'.out.bool (by simp) _ hE.drew.drew.drew
          | some mz1 =>
            obtain ⟨m1, mo1, rfl, atm1⟩ := m1.at
            cases n with
            | none =>
              cases m2
              go_enter Try.func30, Try.ntmps30
              go_wp2_with fail
              refine wp_region_script (List.range 11) [] (fun w' => w' = w.drew) [(.read, 0), (.read, 1), (.read, 2), (.read, 3), (.read, 4), (.read, 5), (.read, 6), (.read, 7), (.read, 8), (.read, 9), (.read, 10)] (by kernel_rfl) (by kernel_rfl) ?_
              iterate 11 (first | (apply scr_r; (· rfl); (· (first | rfl | (simp [Region.wanted, yielded, go_sem]; done) | (simp [Region.wanted, yielded, go_sem, *]; done))); (· (go_simp; try rfl)); (· (simp [go_sem]; try rfl))) | (apply scr_r0; (· rfl); (· (first | rfl | (simp [Region.wanted, yielded, go_sem]; done) | (simp [Region.wanted, yielded, go_sem, *]; done))); (· (simp [go_sem]; try rfl))))
              refine scr_end ?_
              simp only [Exit.then]
              go_wp2_with fail
              refine wp_region_script (List.range 11) [] (fun w' => w' = w.drew.drew) [(.read, 0), (.read, 1), (.read, 2), (.read, 3), (.read, 4), (.read, 5), (.read, 6), (.read, 7), (.read, 8), (.read, 9), (.read, 10)] (by kernel_rfl) (by kernel_rfl) ?_
              iterate 11 (first | (apply scr_r; (· rfl); (· (first | rfl | (simp [Region.wanted, yielded, go_sem]; done) | (simp [Region.wanted, yielded, go_sem, *]; done))); (· (go_simp; try rfl)); (· (simp [go_sem]; try rfl))) | (apply scr_r0; (· rfl); (· (first | rfl | (simp [Region.wanted, yielded, go_sem]; done) | (simp [Region.wanted, yielded, go_sem, *]; done))); (· (simp [go_sem]; try rfl))))
              refine scr_end ?_
              simp only [Exit.then]
              go_wp2_with fail
              refine wp_region_script (List.range 11) [] (fun w' => w' = w.drew.drew.drew) [(.read, 0), (.read, 1), (.read, 2), (.read, 3), (.read, 4), (.read, 5), (.read, 6), (.read, 7), (.read, 8), (.read, 9), (.read, 10)] (by kernel_rfl) (by kernel_rfl) ?_
              iterate 11 (first | (apply scr_r; (· rfl); (· (first | rfl | (simp [Region.wanted, yielded, go_sem]; done) | (simp [Region.wanted, yielded, go_sem, *]; done))); (· (go_simp; try rfl)); (· (simp [go_sem]; try rfl))) | (apply scr_r0; (· rfl); (· (first | rfl | (simp [Region.wanted, yielded, go_sem]; done) | (simp [Region.wanted, yielded, go_sem, *]; done))); (· (simp [go_sem]; try rfl))))
              refine scr_end ?_
              simp only [Exit.then]
              go_wp2_with fail
              exact hR'.out.bool (by simp) _ hE.drew.drew.drew
            | some mz2 =>
              obtain ⟨m2, mo2, rfl, atm2⟩ := m2.at
              have atm1' := Lib.hid atm1
              have atm2' := Lib.hid atm2
              clear atm1 atm2
              go_enter Try.func30, Try.ntmps30
              go_wp2_with fail
              refine wp_region_script (List.range 11) [] (fun w' => w' = w.drew) [(.read, 0), (.read, 1), (.read, 2), (.read, 3), (.read, 4), (.read, 5), (.read, 6), (.read, 7), (.read, 8), (.read, 9), (.read, 10)] (by kernel_rfl) (by kernel_rfl) ?_
              iterate 11 (first | (apply scr_r; (· rfl); (· (first | rfl | (simp [Region.wanted, yielded, go_sem]; done) | (simp [Region.wanted, yielded, go_sem, *]; done))); (· (go_simp; try rfl)); (· (simp [go_sem]; try rfl))) | (apply scr_r0; (· rfl); (· (first | rfl | (simp [Region.wanted, yielded, go_sem]; done) | (simp [Region.wanted, yielded, go_sem, *]; done))); (· (simp [go_sem]; try rfl))))
              refine scr_end ?_
              simp only [Exit.then]
              go_wp2_with fail
              refine wp_region_script (List.range 11) [] (fun w' => w' = w.drew.drew) [(.read, 0), (.read, 1), (.read, 2), (.read, 3), (.read, 4), (.read, 5), (.read, 6), (.read, 7), (.read, 8), (.read, 9), (.read, 10)] (by kernel_rfl) (by kernel_rfl) ?_
              iterate 11 (first | (apply scr_r; (· rfl); (· (first | rfl | (simp [Region.wanted, yielded, go_sem]; done) | (simp [Region.wanted, yielded, go_sem, *]; done))); (· (go_simp; try rfl)); (· (simp [go_sem]; try rfl))) | (apply scr_r0; (· rfl); (· (first | rfl | (simp [Region.wanted, yielded, go_sem]; done) | (simp [Region.wanted, yielded, go_sem, *]; done))); (· (simp [go_sem]; try rfl))))
              refine scr_end ?_
              simp only [Exit.then]
              go_wp2_with fail
              refine wp_region_script (List.range 11) [] (fun w' => w' = w.drew.drew.drew) [(.read, 0), (.read, 1), (.read, 2), (.read, 3), (.read, 4), (.read, 5), (.read, 6), (.read, 7), (.read, 8), (.read, 9), (.read, 10)] (by kernel_rfl) (by kernel_rfl) ?_
              iterate 11 (first | (apply scr_r; (· rfl); (· (first | rfl | (simp [Region.wanted, yielded, go_sem]; done) | (simp [Region.wanted, yielded, go_sem, *]; done))); (· (go_simp; try rfl)); (· (simp [go_sem]; try rfl))) | (apply scr_r0; (· rfl); (· (first | rfl | (simp [Region.wanted, yielded, go_sem]; done) | (simp [Region.wanted, yielded, go_sem, *]; done))); (· (simp [go_sem]; try rfl))))
              refine scr_end ?_
              simp only [Exit.then]
              go_wp2_with fail
              refine wp_region_script [0, 1, 2, 3, 4, 5, 6, 7, 9] [] (fun w' => Ext w.drew.drew.drew w') [(.pure, 0), (.pure, 1), (.pure, 2), (.read, 3), (.pure, 4), (.pure, 5), (.pure, 6), (.read, 7), (.one, 8), (.pure, 9)] (by kernel_rfl) (by kernel_rfl) ?_
              have hE3 : Ext w w.drew.drew.drew := hE.drew.drew.drew
              replace c2 := hE3.keep c2
              replace d2 := hE3.keep d2
              have hC : Ext w.drew.drew.drew w.drew.drew.drew.drew := (Ext.refl _).drew
              iterate 3 (apply scr_pure'; (· rfl); (· rfl); (· (intro w'; go_simp; try rfl)); (· (simp [go_sem]; try rfl)))
              (apply scr_read'; (· rfl); (· rfl); (· first | exact hC | exact (Ext.refl _).drew); (· (intro w' hw'; have c2_ := hw'.keep c2; have d2_ := hw'.keep d2; go_simp; try rfl)); (· (simp [go_sem]; try rfl)))
              iterate 3 (apply scr_pure'; (· rfl); (· rfl); (· (intro w'; go_simp; try rfl)); (· (simp [go_sem]; try rfl)))
              (apply scr_read'; (· rfl); (· rfl); (· first | exact hC | exact (Ext.refl _).drew); (· (intro w' hw'; have c2_ := hw'.keep c2; have d2_ := hw'.keep d2; go_simp; try rfl)); (· (simp [go_sem]; try rfl)))
              refine scr_one rfl rfl (fun K hK => ?_)
              go_simp
              refine mapEq_c ih'.out (atm1'.out.ext (hE3.trans hC)) (atm2'.out.ext (hE3.trans hC)) (qm1.out _ rfl).1 (qm2.out _ rfl).1 (qm1.out _ rfl).2 (qm2.out _ rfl).2 _ ?_
              intro w9 hE9
              refine hK _ _ (fun h => by simp at h) ?_
              clear hK
              (apply scr_pure'; (· rfl); (· rfl); (· (intro w'; go_simp; try rfl)); (· (simp [go_sem]; try rfl)))
              refine scr_end ?_
              simp only [Exit.then]
              go_wp2_with fail
              exact hR'.out.bool (by simp) _ ((hE3.trans hC).trans hE9)
        | some lz2 =>
          obtain ⟨l2, lo2, rfl, atl2⟩ := l2.at
          go_enter Try.func30, Try.ntmps30
          go_wp2_with fail
          refine wp_region_script (List.range 11) [] (fun w' => w' = w.drew) [(.read, 0), (.read, 1), (.read, 2), (.read, 3), (.read, 4), (.read, 5), (.read, 6), (.read, 7), (.read, 8), (.read, 9), (.read, 10)] (by kernel_rfl) (by kernel_rfl) ?_
          iterate 11 (first | (apply scr_r; (· rfl); (· (first | rfl | (simp [Region.wanted, yielded, go_sem]; done) | (simp [Region.wanted, yielded, go_sem, *]; done))); (· (go_simp; try rfl)); (· (simp [go_sem]; try rfl))) | (apply scr_r0; (· rfl); (· (first | rfl | (simp [Region.wanted, yielded, go_sem]; done) | (simp [Region.wanted, yielded, go_sem, *]; done))); (· (simp [go_sem]; try rfl))))
          refine scr_end ?_
          simp only [Exit.then]
          go_wp2_with fail
          refine wp_region_script (List.range 11) [] (fun w' => w' = w.drew.drew) [(.read, 0), (.read, 1), (.read, 2), (.read, 3), (.read, 4), (.read, 5), (.read, 6), (.read, 7), (.read, 8), (.read, 9), (.read, 10)] (by kernel_rfl) (by kernel_rfl) ?_
          iterate 11 (first | (apply scr_r; (· rfl); (· (first | rfl | (simp [Region.wanted, yielded, go_sem]; done) | (simp [Region.wanted, yielded, go_sem, *]; done))); (· (go_simp; try rfl)); (· (simp [go_sem]; try rfl))) | (apply scr_r0; (· rfl); (· (first | rfl | (simp [Region.wanted, yielded, go_sem]; done) | (simp [Region.wanted, yielded, go_sem, *]; done))); (· (simp [go_sem]; try rfl))))
          refine scr_end ?_
          simp only [Exit.then]
          go_wp2_with fail
          exact hR'.out.bool (by simp) _ hE.drew.drew
      | some lz1 =>
        obtain ⟨l1, lo1, rfl, atl1⟩ := l1.at
        cases k with
        | none =>
          cases l2
          go_enter Try.func30, Try.ntmps30
          go_wp2_with fail
          refine wp_region_script (List.range 11) [] (fun w' => w' = w.drew) [(.read, 0), (.read, 1), (.read, 2), (.read, 3), (.read, 4), (.read, 5), (.read, 6), (.read, 7), (.read, 8), (.read, 9), (.read, 10)] (by kernel_rfl) (by kernel_rfl) ?_
          iterate 11 (first | (apply scr_r; (· rfl); (· (first | rfl | (simp [Region.wanted, yielded, go_sem]; done) | (simp [Region.wanted, yielded, go_sem, *]; done))); (· (go_simp; try rfl)); (· (simp [go_sem]; try rfl))) | (apply scr_r0; (· rfl); (· (first | rfl | (simp [Region.wanted, yielded, go_sem]; done) | (simp [Region.wanted, yielded, go_sem, *]; done))); (· (simp [go_sem]; try rfl))))
          refine scr_end ?_
          simp only [Exit.then]
          go_wp2_with fail
          refine wp_region_script (List.range 11) [] (fun w' => w' = w.drew.drew) [(.read, 0), (.read, 1), (.read, 2), (.read, 3), (.read, 4), (.read, 5), (.read, 6), (.read, 7), (.read, 8), (.read, 9), (.read, 10)] (by kernel_rfl) (by kernel_rfl) ?_
          iterate 11 (first | (apply scr_r; (· rfl); (· (first | rfl | (simp [Region.wanted, yielded, go_sem]; done) | (simp [Region.wanted, yielded, go_sem, *]; done))); (· (go_simp; try rfl)); (· (simp [go_sem]; try rfl))) | (apply scr_r0; (· rfl); (· (first | rfl | (simp [Region.wanted, yielded, go_sem]; done) | (simp [Region.wanted, yielded, go_sem, *]; done))); (· (simp [go_sem]; try rfl))))
          refine scr_end ?_
          simp only [Exit.then]
          go_wp2_with fail
          exact hR'.out.bool (by simp) _ hE.drew.drew
        | some lz2 =>
          obtain ⟨l2, lo2, rfl, atl2⟩ := l2.at
          cases m with
          | none =>
            cases m1
            cases n with
            | none =>
              cases m2
              have atl1' := Lib.hid atl1
              have atl2' := Lib.hid atl2
              clear atl1 atl2
              go_enter Try.func30, Try.ntmps30
              go_wp2_with fail
              refine wp_region_script (List.range 11) [] (fun w' => w' = w.drew) [(.read, 0), (.read, 1), (.read, 2), (.read, 3), (.read, 4), (.read, 5), (.read, 6), (.read, 7), (.read, 8), (.read, 9), (.read, 10)] (by kernel_rfl) (by kernel_rfl) ?_
              iterate 11 (first | (apply scr_r; (· rfl); (· (first | rfl | (simp [Region.wanted, yielded, go_sem]; done) | (simp [Region.wanted, yielded, go_sem, *]; done))); (· (go_simp; try rfl)); (· (simp [go_sem]; try rfl))) | (apply scr_r0; (· rfl); (· (first | rfl | (simp [Region.wanted, yielded, go_sem]; done) | (simp [Region.wanted, yielded, go_sem, *]; done))); (· (simp [go_sem]; try rfl))))
              refine scr_end ?_
              simp only [Exit.then]
              go_wp2_with fail
              refine wp_region_script (List.range 11) [] (fun w' => w' = w.drew.drew) [(.read, 0), (.read, 1), (.read, 2), (.read, 3), (.read, 4), (.read, 5), (.read, 6), (.read, 7), (.read, 8), (.read, 9), (.read, 10)] (by kernel_rfl) (by kernel_rfl) ?_
              iterate 11 (first | (apply scr_r; (· rfl); (· (first | rfl | (simp [Region.wanted, yielded, go_sem]; done) | (simp [Region.wanted, yielded, go_sem, *]; done))); (· (go_simp; try rfl)); (· (simp [go_sem]; try rfl))) | (apply scr_r0; (· rfl); (· (first | rfl | (simp [Region.wanted, yielded, go_sem]; done) | (simp [Region.wanted, yielded, go_sem, *]; done))); (· (simp [go_sem]; try rfl))))
              refine scr_end ?_
              simp only [Exit.then]
              go_wp2_with fail
              refine wp_region_script (List.range 11) [] (fun w' => w' = w.drew.drew.drew) [(.read, 0), (.read, 1), (.read, 2), (.read, 3), (.read, 4), (.read, 5), (.read, 6), (.read, 7), (.read, 8), (.read, 9), (.read, 10)] (by kernel_rfl) (by kernel_rfl) ?_
              iterate 11 (first | (apply scr_r; (· rfl); (· (first | rfl | (simp [Region.wanted, yielded, go_sem]; done) | (simp [Region.wanted, yielded, go_sem, *]; done))); (· (go_simp; try rfl)); (· (simp [go_sem]; try rfl))) | (apply scr_r0; (· rfl); (· (first | rfl | (simp [Region.wanted, yielded, go_sem]; done) | (simp [Region.wanted, yielded, go_sem, *]; done))); (· (simp [go_sem]; try rfl))))
              refine scr_end ?_
              simp only [Exit.then]
              go_wp2_with fail
              refine wp_region_script [0, 1, 2, 3, 4, 5, 6, 7, 9] [] (fun w' => Ext w.drew.drew.drew w') [(.pure, 0), (.pure, 1), (.pure, 2), (.read, 3), (.pure, 4), (.pure, 5), (.pure, 6), (.read, 7), (.one, 8), (.pure, 9)] (by kernel_rfl) (by kernel_rfl) ?_
              have hE3 : Ext w w.drew.drew.drew := hE.drew.drew.drew
              replace c1 := hE3.keep c1
              replace d1 := hE3.keep d1
              have hC : Ext w.drew.drew.drew w.drew.drew.drew.drew := (Ext.refl _).drew
              iterate 3 (apply scr_pure'; (· rfl); (· rfl); (· (intro w'; go_simp; try rfl)); (· (simp [go_sem]; try rfl)))
              (apply scr_read'; (· rfl); (· rfl); (· first | exact hC | exact (Ext.refl _).drew); (· (intro w' hw'; have c1_ := hw'.keep c1; have d1_ := hw'.keep d1; go_simp; try rfl)); (· (simp [go_sem]; try rfl)))
              iterate 3 (apply scr_pure'; (· rfl); (· rfl); (· (intro w'; go_simp; try rfl)); (· (simp [go_sem]; try rfl)))
              (apply scr_read'; (· rfl); (· rfl); (· first | exact hC | exact (Ext.refl _).drew); (· (intro w' hw'; have c1_ := hw'.keep c1; have d1_ := hw'.keep d1; go_simp; try rfl)); (· (simp [go_sem]; try rfl)))
              refine scr_one rfl rfl (fun K hK => ?_)
              go_simp
              refine listEq_c ih'.out (atl1'.out.ext (hE3.trans hC)) (atl2'.out.ext (hE3.trans hC)) (ql1.out _ rfl) (ql2.out _ rfl) _ ?_
              intro w9 hE9
              refine hK _ _ (fun h => by simp at h) ?_
              clear hK
              (apply scr_pure'; (· rfl); (· rfl); (· (intro w'; go_simp; try rfl)); (· (simp [go_sem]; try rfl)))
              refine scr_end ?_
              simp only [Exit.then]
              go_wp2_with fail
              exact hR'.out.bool (by simp) _ ((hE3.trans hC).trans hE9)
            | some mz2 =>
              obtain ⟨m2, mo2, rfl, atm2⟩ := m2.at
              go_enter Try.func30, Try.ntmps30
              go_wp2_with fail
              refine wp_region_script (List.range 11) [] (fun w' => w' = w.drew) [(.read, 0), (.read, 1), (.read, 2), (.read, 3), (.read, 4), (.read, 5), (.read, 6), (.read, 7), (.read, 8), (.read, 9), (.read, 10)] (by kernel_rfl) (by kernel_rfl) ?_
              iterate 11 (first | (apply scr_r; (· rfl); (· (first | rfl | (simp [Region.wanted, yielded, go_sem]; done) | (simp [Region.wanted, yielded, go_sem, *]; done))); (· (go_simp; try rfl)); (· (simp [go_sem]; try rfl))) | (apply scr_r0; (· rfl); (· (first | rfl | (simp [Region.wanted, yielded, go_sem]; done) | (simp [Region.wanted, yielded, go_sem, *]; done))); (· (simp [go_sem]; try rfl))))
              refine scr_end ?_
              simp only [Exit.then]
              go_wp2_with fail
              refine wp_region_script (List.range 11) [] (fun w' => w' = w.drew.drew) [(.read, 0), (.read, 1), (.read, 2), (.read, 3), (.read, 4), (.read, 5), (.read, 6), (.read, 7), (.read, 8), (.read, 9), (.read, 10)] (by kernel_rfl) (by kernel_rfl) ?_
              iterate 11 (first | (apply scr_r; (· rfl); (· (first | rfl | (simp [Region.wanted, yielded, go_sem]; done) | (simp [Region.wanted, yielded, go_sem, *]; done))); (· (go_simp; try rfl)); (· (simp [go_sem]; try rfl))) | (apply scr_r0; (· rfl); (· (first | rfl | (simp [Region.wanted, yielded, go_sem]; done) | (simp [Region.wanted, yielded, go_sem, *]; done))); (· (simp [go_sem]; try rfl))))
              refine scr_end ?_
              simp only [Exit.then]
              go_wp2_with fail
              refine wp_region_script (List.range 11) [] (fun w' => w' = w.drew.drew.drew) [(.read, 0), (.read, 1), (.read, 2), (.read, 3), (.read, 4), (.read, 5), (.read, 6), (.read, 7), (.read, 8), (.read, 9), (.read, 10)] (by kernel_rfl) (by kernel_rfl) ?_
              iterate 11 (first | (apply scr_r; (· rfl); (· (first | rfl | (simp [Region.wanted, yielded, go_sem]; done) | (simp [Region.wanted, yielded, go_sem, *]; done))); (· (go_simp; try rfl)); (· (simp [go_sem]; try rfl))) | (apply scr_r0; (· rfl); (· (first | rfl | (simp [Region.wanted, yielded, go_sem]; done) | (simp [Region.wanted, yielded, go_sem, *]; done))); (· (simp [go_sem]; try rfl))))
              refine scr_end ?_
              simp only [Exit.then]
              go_wp2_with fail
              exact hR'.out.bool (by simp) _ hE.drew.drew.drew
          | some mz1 =>
            obtain ⟨m1, mo1, rfl, atm1⟩ := m1.at
            cases n with
            | none =>
              cases m2
              go_enter Try.func30, Try.ntmps30
              go_wp2_with fail
              refine wp_region_script (List.range 11) [] (fun w' => w' = w.drew) [(.read, 0), (.read, 1), (.read, 2), (.read, 3), (.read, 4), (.read, 5), (.read, 6), (.read, 7), (.read, 8), (.read, 9), (.read, 10)] (by kernel_rfl) (by kernel_rfl) ?_
              iterate 11 (first | (apply scr_r; (· rfl); (· (first | rfl | (simp [Region.wanted, yielded, go_sem]; done) | (simp [Region.wanted, yielded, go_sem, *]; done))); (· (go_simp; try rfl)); (· (simp [go_sem]; try rfl))) | (apply scr_r0; (· rfl); (· (first | rfl | (simp [Region.wanted, yielded, go_sem]; done) | (simp [Region.wanted, yielded, go_sem, *]; done))); (· (simp [go_sem]; try rfl))))
              refine scr_end ?_
              simp only [Exit.then]
              go_wp2_with fail
              refine wp_region_script (List.range 11) [] (fun w' => w' = w.drew.drew) [(.read, 0), (.read, 1), (.read, 2), (.read, 3), (.read, 4), (.read, 5), (.read, 6), (.read, 7), (.read, 8), (.read, 9), (.read, 10)] (by kernel_rfl) (by kernel_rfl) ?_
              iterate 11 (first | (apply scr_r; (· rfl); (· (first | rfl | (simp [Region.wanted, yielded, go_sem]; done) | (simp [Region.wanted, yielded, go_sem, *]; done))); (· (go_simp; try rfl)); (· (simp [go_sem]; try rfl))) | (apply scr_r0; (· rfl); (· (first | rfl | (simp [Region.wanted, yielded, go_sem]; done) | (simp [Region.wanted, yielded, go_sem, *]; done))); (· (simp [go_sem]; try rfl))))
              refine scr_end ?_
              simp only [Exit.then]
              go_wp2_with fail
              refine wp_region_script (List.range 11) [] (fun w' => w' = w.drew.drew.drew) [(.read, 0), (.read, 1), (.read, 2), (.read, 3), (.read, 4), (.read, 5), (.read, 6), (.read, 7), (.read, 8), (.read, 9), (.read, 10)] (by kernel_rfl) (by kernel_rfl) ?_
              iterate 11 (first | (apply scr_r; (· rfl); (· (first | rfl | (simp [Region.wanted, yielded, go_sem]; done) | (simp [Region.wanted, yielded, go_sem, *]; done))); (· (go_simp; try rfl)); (· (simp [go_sem]; try rfl))) | (apply scr_r0; (· rfl); (· (first | rfl | (simp [Region.wanted, yielded, go_sem]; done) | (simp [Region.wanted, yielded, go_sem, *]; done))); (· (simp [go_sem]; try rfl))))
              refine scr_end ?_
              simp only [Exit.then]
              go_wp2_with fail
              exact hR'.out.bool (by simp) _ hE.drew.drew.drew
            | some mz2 =>
              obtain ⟨m2, mo2, rfl, atm2⟩ := m2.at
              have atl1' := Lib.hid atl1
              have atl2' := Lib.hid atl2
              clear atl1 atl2
              have atm1' := Lib.hid atm1
              have atm2' := Lib.hid atm2
              clear atm1 atm2
              go_enter Try.func30, Try.ntmps30
              go_wp2_with fail
              refine wp_region_script (List.range 11) [] (fun w' => w' = w.drew) [(.read, 0), (.read, 1), (.read, 2), (.read, 3), (.read, 4), (.read, 5), (.read, 6), (.read, 7), (.read, 8), (.read, 9), (.read, 10)] (by kernel_rfl) (by kernel_rfl) ?_
              iterate 11 (first | (apply scr_r; (· rfl); (· (first | rfl | (simp [Region.wanted, yielded, go_sem]; done) | (simp [Region.wanted, yielded, go_sem, *]; done))); (· (go_simp; try rfl)); (· (simp [go_sem]; try rfl))) | (apply scr_r0; (· rfl); (· (first | rfl | (simp [Region.wanted, yielded, go_sem]; done) | (simp [Region.wanted, yielded, go_sem, *]; done))); (· (simp [go_sem]; try rfl))))
              refine scr_end ?_
              simp only [Exit.then]
              go_wp2_with fail
              refine wp_region_script (List.range 11) [] (fun w' => w' = w.drew.drew) [(.read, 0), (.read, 1), (.read, 2), (.read, 3), (.read, 4), (.read, 5), (.read, 6), (.read, 7), (.read, 8), (.read, 9), (.read, 10)] (by kernel_rfl) (by kernel_rfl) ?_
              iterate 11 (first | (apply scr_r; (· rfl); (· (first | rfl | (simp [Region.wanted, yielded, go_sem]; done) | (simp [Region.wanted, yielded, go_sem, *]; done))); (· (go_simp; try rfl)); (· (simp [go_sem]; try rfl))) | (apply scr_r0; (· rfl); (· (first | rfl | (simp [Region.wanted, yielded, go_sem]; done) | (simp [Region.wanted, yielded, go_sem, *]; done))); (· (simp [go_sem]; try rfl))))
              refine scr_end ?_
              simp only [Exit.then]
              go_wp2_with fail
              refine wp_region_script (List.range 11) [] (fun w' => w' = w.drew.drew.drew) [(.read, 0), (.read, 1), (.read, 2), (.read, 3), (.read, 4), (.read, 5), (.read, 6), (.read, 7), (.read, 8), (.read, 9), (.read, 10)] (by kernel_rfl) (by kernel_rfl) ?_
              iterate 11 (first | (apply scr_r; (· rfl); (· (first | rfl | (simp [Region.wanted, yielded, go_sem]; done) | (simp [Region.wanted, yielded, go_sem, *]; done))); (· (go_simp; try rfl)); (· (simp [go_sem]; try rfl))) | (apply scr_r0; (· rfl); (· (first | rfl | (simp [Region.wanted, yielded, go_sem]; done) | (simp [Region.wanted, yielded, go_sem, *]; done))); (· (simp [go_sem]; try rfl))))
              refine scr_end ?_
              simp only [Exit.then]
              go_wp2_with fail
              refine wp_region_script [0, 1, 2, 3, 4, 5, 6, 7, 9] [] (fun w' => Ext w.drew.drew.drew w') [(.pure, 0), (.pure, 1), (.pure, 2), (.read, 3), (.pure, 4), (.pure, 5), (.pure, 6), (.read, 7), (.one, 8), (.pure, 9)] (by kernel_rfl) (by kernel_rfl) ?_
              have hE3 : Ext w w.drew.drew.drew := hE.drew.drew.drew
              replace c1 := hE3.keep c1
              replace d1 := hE3.keep d1
              have hC : Ext w.drew.drew.drew w.drew.drew.drew.drew := (Ext.refl _).drew
              iterate 3 (apply scr_pure'; (· rfl); (· rfl); (· (intro w'; go_simp; try rfl)); (· (simp [go_sem]; try rfl)))
              (apply scr_read'; (· rfl); (· rfl); (· first | exact hC | exact (Ext.refl _).drew); (· (intro w' hw'; have c1_ := hw'.keep c1; have d1_ := hw'.keep d1; go_simp; try rfl)); (· (simp [go_sem]; try rfl)))
              iterate 3 (apply scr_pure'; (· rfl); (· rfl); (· (intro w'; go_simp; try rfl)); (· (simp [go_sem]; try rfl)))
              (apply scr_read'; (· rfl); (· rfl); (· first | exact hC | exact (Ext.refl _).drew); (· (intro w' hw'; have c1_ := hw'.keep c1; have d1_ := hw'.keep d1; go_simp; try rfl)); (· (simp [go_sem]; try rfl)))
              refine scr_one rfl rfl (fun K hK => ?_)
              go_simp
              refine listEq_c ih'.out (atl1'.out.ext (hE3.trans hC)) (atl2'.out.ext (hE3.trans hC)) (ql1.out _ rfl) (ql2.out _ rfl) _ ?_
              intro w9 hE9
              refine hK _ _ (fun h => by simp at h) ?_
              clear hK
              (apply scr_pure'; (· rfl); (· rfl); (· (intro w'; go_simp; try rfl)); (· (simp [go_sem]; try rfl)))
              refine scr_end ?_
              simp only [Exit.then]
              go_wp2_with fail
              exact hR'.out.bool (by simp) _ ((hE3.trans hC).trans hE9)
    | some sz2 =>
      obtain ⟨y2, yo2, rfl, -, -, g2, -⟩ := s2.str
      go_enter Try.func30, Try.ntmps30
      go_wp2_with fail
      refine wp_region_script (List.range 11) [] (fun w' => w' = w.drew) [(.read, 0), (.read, 1), (.read, 2), (.read, 3), (.read, 4), (.read, 5), (.read, 6), (.read, 7), (.read, 8), (.read, 9), (.read, 10)] (by kernel_rfl) (by kernel_rfl) ?_
      iterate 11 (first | (apply scr_r; (· rfl); (· (first | rfl | (simp [Region.wanted, yielded, go_sem]; done) | (simp [Region.wanted, yielded, go_sem, *]; done))); (· (go_simp; try rfl)); (· (simp [go_sem]; try rfl))) | (apply scr_r0; (· rfl); (· (first | rfl | (simp [Region.wanted, yielded, go_sem]; done) | (simp [Region.wanted, yielded, go_sem, *]; done))); (· (simp [go_sem]; try rfl))))
      refine scr_end ?_
      simp only [Exit.then]
      go_wp2_with fail
      exact hR'.out.bool (by simp) _ hE.drew
  | some sz1 =>
    obtain ⟨y1, yo1, rfl, -, -, g1, -⟩ := s1.str
    cases t with
    | none =>
      cases s2
      go_enter Try.func30, Try.ntmps30
      go_wp2_with fail
      refine wp_region_script (List.range 11) [] (fun w' => w' = w.drew) [(.read, 0), (.read, 1), (.read, 2), (.read, 3), (.read, 4), (.read, 5), (.read, 6), (.read, 7), (.read, 8), (.read, 9), (.read, 10)] (by kernel_rfl) (by kernel_rfl) ?_
      iterate 11 (first | (apply scr_r; (· rfl); (· (first | rfl | (simp [Region.wanted, yielded, go_sem]; done) | (simp [Region.wanted, yielded, go_sem, *]; done))); (· (go_simp; try rfl)); (· (simp [go_sem]; try rfl))) | (apply scr_r0; (· rfl); (· (first | rfl | (simp [Region.wanted, yielded, go_sem]; done) | (simp [Region.wanted, yielded, go_sem, *]; done))); (· (simp [go_sem]; try rfl))))
      refine scr_end ?_
      simp only [Exit.then]
      go_wp2_with fail
      exact hR'.out.bool (by simp) _ hE.drew
    | some sz2 =>
      obtain ⟨y2, yo2, rfl, -, -, g2, -⟩ := s2.str
      cases l with
      | none =>
        cases l1
        cases k with
        | none =>
          cases l2
          cases m with
          | none =>
            cases m1
            cases n with
            | none =>
              cases m2
              by_cases hs : sz1 = sz2
              · subst hs
                go_enter Try.func30, Try.ntmps30
                go_wp2_with fail
                refine wp_region_script (List.range 11) [] (fun w' => w' = w.drew) [(.read, 0), (.read, 1), (.read, 2), (.read, 3), (.read, 4), (.read, 5), (.read, 6), (.read, 7), (.read, 8), (.read, 9), (.read, 10)] (by kernel_rfl) (by kernel_rfl) ?_
                iterate 11 (first | (apply scr_r; (· rfl); (· (first | rfl | (simp [Region.wanted, yielded, go_sem]; done) | (simp [Region.wanted, yielded, go_sem, *]; done))); (· (go_simp; try rfl)); (· (simp [go_sem]; try rfl))) | (apply scr_r0; (· rfl); (· (first | rfl | (simp [Region.wanted, yielded, go_sem]; done) | (simp [Region.wanted, yielded, go_sem, *]; done))); (· (simp [go_sem]; try rfl))))
                refine scr_end ?_
                simp only [Exit.then]
                go_wp2_with fail
                refine wp_region_script (List.range 11) [] (fun w' => w' = w.drew.drew) [(.read, 0), (.read, 1), (.read, 2), (.read, 3), (.read, 4), (.read, 5), (.read, 6), (.read, 7), (.read, 8), (.read, 9), (.read, 10)] (by kernel_rfl) (by kernel_rfl) ?_
                iterate 11 (first | (apply scr_r; (· rfl); (· (first | rfl | (simp [Region.wanted, yielded, go_sem]; done) | (simp [Region.wanted, yielded, go_sem, *]; done))); (· (go_simp; try rfl)); (· (simp [go_sem]; try rfl))) | (apply scr_r0; (· rfl); (· (first | rfl | (simp [Region.wanted, yielded, go_sem]; done) | (simp [Region.wanted, yielded, go_sem, *]; done))); (· (simp [go_sem]; try rfl))))
                refine scr_end ?_
                simp only [Exit.then]
                go_wp2_with fail
                refine wp_region_script (List.range 11) [] (fun w' => w' = w.drew.drew.drew) [(.read, 0), (.read, 1), (.read, 2), (.read, 3), (.read, 4), (.read, 5), (.read, 6), (.read, 7), (.read, 8), (.read, 9), (.read, 10)] (by kernel_rfl) (by kernel_rfl) ?_
                iterate 11 (first | (apply scr_r; (· rfl); (· (first | rfl | (simp [Region.wanted, yielded, go_sem]; done) | (simp [Region.wanted, yielded, go_sem, *]; done))); (· (go_simp; try rfl)); (· (simp [go_sem]; try rfl))) | (apply scr_r0; (· rfl); (· (first | rfl | (simp [Region.wanted, yielded, go_sem]; done) | (simp [Region.wanted, yielded, go_sem, *]; done))); (· (simp [go_sem]; try rfl))))
                refine scr_end ?_
                simp only [Exit.then]
                go_wp2_with fail
                refine wp_region_script (List.range 14) [] (fun w' => w' = w.drew.drew.drew.drew) [(.read, 0), (.read, 1), (.read, 2), (.read, 3), (.read, 4), (.read, 5), (.read, 6), (.read, 7), (.read, 8), (.read, 9), (.read, 10), (.read, 11), (.read, 12), (.read, 13)] (by kernel_rfl) (by kernel_rfl) ?_
                iterate 14 (first | (apply scr_r; (· rfl); (· (first | rfl | (simp [Region.wanted, yielded, go_sem]; done) | (simp [Region.wanted, yielded, go_sem, *]; done))); (· (go_simp; try rfl)); (· (simp [go_sem]; try rfl))) | (apply scr_r0; (· rfl); (· (first | rfl | (simp [Region.wanted, yielded, go_sem]; done) | (simp [Region.wanted, yielded, go_sem, *]; done))); (· (simp [go_sem]; try rfl))))
                refine scr_end ?_
                simp only [Exit.then]
                go_wp2_with fail
                exact hR'.out.bool (by simp) _ hE.drew.drew.drew.drew
              · have hb := bytes_beq hs
                have hs' := Lib.hid hs
                clear hs
                go_enter Try.func30, Try.ntmps30
                go_wp2_with fail
                refine wp_region_script (List.range 11) [] (fun w' => w' = w.drew) [(.read, 0), (.read, 1), (.read, 2), (.read, 3), (.read, 4), (.read, 5), (.read, 6), (.read, 7), (.read, 8), (.read, 9), (.read, 10)] (by kernel_rfl) (by kernel_rfl) ?_
                iterate 11 (first | (apply scr_r; (· rfl); (· (first | rfl | (simp [Region.wanted, yielded, go_sem]; done) | (simp [Region.wanted, yielded, go_sem, *]; done))); (· (go_simp; try rfl)); (· (simp [go_sem]; try rfl))) | (apply scr_r0; (· rfl); (· (first | rfl | (simp [Region.wanted, yielded, go_sem]; done) | (simp [Region.wanted, yielded, go_sem, *]; done))); (· (simp [go_sem]; try rfl))))
                refine scr_end ?_
                simp only [Exit.then]
                go_wp2_with fail
                refine wp_region_script (List.range 11) [] (fun w' => w' = w.drew.drew) [(.read, 0), (.read, 1), (.read, 2), (.read, 3), (.read, 4), (.read, 5), (.read, 6), (.read, 7), (.read, 8), (.read, 9), (.read, 10)] (by kernel_rfl) (by kernel_rfl) ?_
                iterate 11 (first | (apply scr_r; (· rfl); (· (first | rfl | (simp [Region.wanted, yielded, go_sem]; done) | (simp [Region.wanted, yielded, go_sem, *]; done))); (· (go_simp; try rfl)); (· (simp [go_sem]; try rfl))) | (apply scr_r0; (· rfl); (· (first | rfl | (simp [Region.wanted, yielded, go_sem]; done) | (simp [Region.wanted, yielded, go_sem, *]; done))); (· (simp [go_sem]; try rfl))))
                refine scr_end ?_
                simp only [Exit.then]
                go_wp2_with fail
                refine wp_region_script (List.range 11) [] (fun w' => w' = w.drew.drew.drew) [(.read, 0), (.read, 1), (.read, 2), (.read, 3), (.read, 4), (.read, 5), (.read, 6), (.read, 7), (.read, 8), (.read, 9), (.read, 10)] (by kernel_rfl) (by kernel_rfl) ?_
                iterate 11 (first | (apply scr_r; (· rfl); (· (first | rfl | (simp [Region.wanted, yielded, go_sem]; done) | (simp [Region.wanted, yielded, go_sem, *]; done))); (· (go_simp; try rfl)); (· (simp [go_sem]; try rfl))) | (apply scr_r0; (· rfl); (· (first | rfl | (simp [Region.wanted, yielded, go_sem]; done) | (simp [Region.wanted, yielded, go_sem, *]; done))); (· (simp [go_sem]; try rfl))))
                refine scr_end ?_
                simp only [Exit.then]
                go_wp2_with fail
                refine wp_region_script (List.range 14) [] (fun w' => w' = w.drew.drew.drew.drew) [(.read, 0), (.read, 1), (.read, 2), (.read, 3), (.read, 4), (.read, 5), (.read, 6), (.read, 7), (.read, 8), (.read, 9), (.read, 10), (.read, 11), (.read, 12), (.read, 13)] (by kernel_rfl) (by kernel_rfl) ?_
                iterate 14 (first | (apply scr_r; (· rfl); (· (first | rfl | (simp [Region.wanted, yielded, go_sem]; done) | (simp [Region.wanted, yielded, go_sem, *]; done))); (· (go_simp; try rfl)); (· (simp [go_sem]; try rfl))) | (apply scr_r0; (· rfl); (· (first | rfl | (simp [Region.wanted, yielded, go_sem]; done) | (simp [Region.wanted, yielded, go_sem, *]; done))); (· (simp [go_sem]; try rfl))))
                refine scr_end ?_
                simp only [Exit.then]
                go_wp2_with fail
                exact hR'.out.bool (by simp [hs'.out]) _ hE.drew.drew.drew.drew
            | some mz2 =>
              obtain ⟨m2, mo2, rfl, atm2⟩ := m2.at
              go_enter Try.func30, Try.ntmps30
              go_wp2_with fail
              refine wp_region_script (List.range 11) [] (fun w' => w' = w.drew) [(.read, 0), (.read, 1), (.read, 2), (.read, 3), (.read, 4), (.read, 5), (.read, 6), (.read, 7), (.read, 8), (.read, 9), (.read, 10)] (by kernel_rfl) (by kernel_rfl) ?_
              iterate 11 (first | (apply scr_r; (· rfl); (· (first | rfl | (simp [Region.wanted, yielded, go_sem]; done) | (simp [Region.wanted, yielded, go_sem, *]; done))); (· (go_simp; try rfl)); (· (simp [go_sem]; try rfl))) | (apply scr_r0; (· rfl); (· (first | rfl | (simp [Region.wanted, yielded, go_sem]; done) | (simp [Region.wanted, yielded, go_sem, *]; done))); (· (simp [go_sem]; try rfl))))
              refine scr_end ?_
              simp only [Exit.then]
              go_wp2_with fail
              refine wp_region_script (List.range 11) [] (fun w' => w' = w.drew.drew) [(.read, 0), (.read, 1), (.read, 2), (.read, 3), (.read, 4), (.read, 5), (.read, 6), (.read, 7), (.read, 8), (.read, 9), (.read, 10)] (by kernel_rfl) (by kernel_rfl) ?_
              iterate 11 (first | (apply scr_r; (· rfl); (· (first | rfl | (simp [Region.wanted, yielded, go_sem]; done) | (simp [Region.wanted, yielded, go_sem, *]; done))); (· (go_simp; try rfl)); (· (simp [go_sem]; try rfl))) | (apply scr_r0; (· rfl); (· (first | rfl | (simp [Region.wanted, yielded, go_sem]; done) | (simp [Region.wanted, yielded, go_sem, *]; done))); (· (simp [go_sem]; try rfl))))
              refine scr_end ?_
              simp only [Exit.then]
              go_wp2_with fail
              refine wp_region_script (List.range 11) [] (fun w' => w' = w.drew.drew.drew) [(.read, 0), (.read, 1), (.read, 2), (.read, 3), (.read, 4), (.read, 5), (.read, 6), (.read, 7), (.read, 8), (.read, 9), (.read, 10)] (by kernel_rfl) (by kernel_rfl) ?_
              iterate 11 (first | (apply scr_r; (· rfl); (· (first | rfl | (simp [Region.wanted, yielded, go_sem]; done) | (simp [Region.wanted, yielded, go_sem, *]; done))); (· (go_simp; try rfl)); (· (simp [go_sem]; try rfl))) | (apply scr_r0; (· rfl); (· (first | rfl | (simp [Region.wanted, yielded, go_sem]; done) | (simp [Region.wanted, yielded, go_sem, *]; done))); (· (simp [go_sem]; try rfl))))
              refine scr_end ?_
              simp only [Exit.then]
              go_wp2_with fail
              exact hR'.out.bool (by simp) _ hE.drew.drew.drew
          | some mz1 =>
            obtain ⟨m1, mo1, rfl, atm1⟩ := m1.at
            cases n with
            | none =>
              cases m2
              go_enter Try.func30, Try.ntmps30
              go_wp2_with fail
              refine wp_region_script (List.range 11) [] (fun w' => w' = w.drew) [(.read, 0), (.read, 1), (.read, 2), (.read, 3), (.read, 4), (.read, 5), (.read, 6), (.read, 7), (.read, 8), (.read, 9), (.read, 10)] (by kernel_rfl) (by kernel_rfl) ?_
              iterate 11 (first | (apply scr_r; (· rfl); (· (first | rfl | (simp [Region.wanted, yielded, go_sem]; done) | (simp [Region.wanted, yielded, go_sem, *]; done))); (· (go_simp; try rfl)); (· (simp [go_sem]; try rfl))) | (apply scr_r0; (· rfl); (· (first | rfl | (simp [Region.wanted, yielded, go_sem]; done) | (simp [Region.wanted, yielded, go_sem, *]; done))); (· (simp [go_sem]; try rfl))))
              refine scr_end ?_
              simp only [Exit.then]
              go_wp2_with fail
              refine wp_region_script (List.range 11) [] (fun w' => w' = w.drew.drew) [(.read, 0), (.read, 1), (.read, 2), (.read, 3), (.read, 4), (.read, 5), (.read, 6), (.read, 7), (.read, 8), (.read, 9), (.read, 10)] (by kernel_rfl) (by kernel_rfl) ?_
              iterate 11 (first | (apply scr_r; (· rfl); (· (first | rfl | (simp [Region.wanted, yielded, go_sem]; done) | (simp [Region.wanted, yielded, go_sem, *]; done))); (· (go_simp; try rfl)); (· (simp [go_sem]; try rfl))) | (apply scr_r0; (· rfl); (· (first | rfl | (simp [Region.wanted, yielded, go_sem]; done) | (simp [Region.wanted, yielded, go_sem, *]; done))); (· (simp [go_sem]; try rfl))))
              refine scr_end ?_
              simp only [Exit.then]
              go_wp2_with fail
              refine wp_region_script (List.range 11) [] (fun w' => w' = w.drew.drew.drew) [(.read, 0), (.read, 1), (.read, 2), (.read, 3), (.read, 4), (.read, 5), (.read, 6), (.read, 7), (.read, 8), (.read, 9), (.read, 10)] (by kernel_rfl) (by kernel_rfl) ?_
              iterate 11 (first | (apply scr_r; (· rfl); (· (first | rfl | (simp [Region.wanted, yielded, go_sem]; done) | (simp [Region.wanted, yielded, go_sem, *]; done))); (· (go_simp; try rfl)); (· (simp [go_sem]; try rfl))) | (apply scr_r0; (· rfl); (· (first | rfl | (simp [Region.wanted, yielded, go_sem]; done) | (simp [Region.wanted, yielded, go_sem, *]; done))); (· (simp [go_sem]; try rfl))))
              refine scr_end ?_
              simp only [Exit.then]
              go_wp2_with fail
              exact hR'.out.bool (by simp) _ hE.drew.drew.drew
            | some mz2 =>
              obtain ⟨m2, mo2, rfl, atm2⟩ := m2.at
              have atm1' := Lib.hid atm1
              have atm2' := Lib.hid atm2
              clear atm1 atm2
              by_cases hs : sz1 = sz2
              · subst hs
                go_enter Try.func30, Try.ntmps30
                go_wp2_with fail
                refine wp_region_script (List.range 11) [] (fun w' => w' = w.drew) [(.read, 0), (.read, 1), (.read, 2), (.read, 3), (.read, 4), (.read, 5), (.read, 6), (.read, 7), (.read, 8), (.read, 9), (.read, 10)] (by kernel_rfl) (by kernel_rfl) ?_
                iterate 11 (first | (apply scr_r; (· rfl); (· (first | rfl | (simp [Region.wanted, yielded, go_sem]; done) | (simp [Region.wanted, yielded, go_sem, *]; done))); (· (go_simp; try rfl)); (· (simp [go_sem]; try rfl))) | (apply scr_r0; (· rfl); (· (first | rfl | (simp [Region.wanted, yielded, go_sem]; done) | (simp [Region.wanted, yielded, go_sem, *]; done))); (· (simp [go_sem]; try rfl))))
                refine scr_end ?_
                simp only [Exit.then]
                go_wp2_with fail
                refine wp_region_script (List.range 11) [] (fun w' => w' = w.drew.drew) [(.read, 0), (.read, 1), (.read, 2), (.read, 3), (.read, 4), (.read, 5), (.read, 6), (.read, 7), (.read, 8), (.read, 9), (.read, 10)] (by kernel_rfl) (by kernel_rfl) ?_
                iterate 11 (first | (apply scr_r; (· rfl); (· (first | rfl | (simp [Region.wanted, yielded, go_sem]; done) | (simp [Region.wanted, yielded, go_sem, *]; done))); (· (go_simp; try rfl)); (· (simp [go_sem]; try rfl))) | (apply scr_r0; (· rfl); (· (first | rfl | (simp [Region.wanted, yielded, go_sem]; done) | (simp [Region.wanted, yielded, go_sem, *]; done))); (· (simp [go_sem]; try rfl))))
                refine scr_end ?_
                simp only [Exit.then]
                go_wp2_with fail
                refine wp_region_script (List.range 11) [] (fun w' => w' = w.drew.drew.drew) [(.read, 0), (.read, 1), (.read, 2), (.read, 3), (.read, 4), (.read, 5), (.read, 6), (.read, 7), (.read, 8), (.read, 9), (.read, 10)] (by kernel_rfl) (by kernel_rfl) ?_
                iterate 11 (first | (apply scr_r; (· rfl); (· (first | rfl | (simp [Region.wanted, yielded, go_sem]; done) | (simp [Region.wanted, yielded, go_sem, *]; done))); (· (go_simp; try rfl)); (· (simp [go_sem]; try rfl))) | (apply scr_r0; (· rfl); (· (first | rfl | (simp [Region.wanted, yielded, go_sem]; done) | (simp [Region.wanted, yielded, go_sem, *]; done))); (· (simp [go_sem]; try rfl))))
                refine scr_end ?_
                simp only [Exit.then]
                go_wp2_with fail
                refine wp_region_script (List.range 14) [] (fun w' => w' = w.drew.drew.drew.drew) [(.read, 0), (.read, 1), (.read, 2), (.read, 3), (.read, 4), (.read, 5), (.read, 6), (.read, 7), (.read, 8), (.read, 9), (.read, 10), (.read, 11), (.read, 12), (.read, 13)] (by kernel_rfl) (by kernel_rfl) ?_
                iterate 14 (first | (apply scr_r; (· rfl); (· (first | rfl | (simp [Region.wanted, yielded, go_sem]; done) | (simp [Region.wanted, yielded, go_sem, *]; done))); (· (go_simp; try rfl)); (· (simp [go_sem]; try rfl))) | (apply scr_r0; (· rfl); (· (first | rfl | (simp [Region.wanted, yielded, go_sem]; done) | (simp [Region.wanted, yielded, go_sem, *]; done))); (· (simp [go_sem]; try rfl))))
                refine scr_end ?_
                simp only [Exit.then]
                go_wp2_with fail
                exact hR'.out.bool (by simp) _ hE.drew.drew.drew.drew
              · have hb := bytes_beq hs
                have hs' := Lib.hid hs
                clear hs
                go_enter Try.func30, Try.ntmps30
                go_wp2_with fail
                refine wp_region_script (List.range 11) [] (fun w' => w' = w.drew) [(.read, 0), (.read, 1), (.read, 2), (.read, 3), (.read, 4), (.read, 5), (.read, 6), (.read, 7), (.read, 8), (.read, 9), (.read, 10)] (by kernel_rfl) (by kernel_rfl) ?_
                iterate 11 (first | (apply scr_r; (· rfl); (· (first | rfl | (simp [Region.wanted, yielded, go_sem]; done) | (simp [Region.wanted, yielded, go_sem, *]; done))); (· (go_simp; try rfl)); (· (simp [go_sem]; try rfl))) | (apply scr_r0; (· rfl); (· (first | rfl | (simp [Region.wanted, yielded, go_sem]; done) | (simp [Region.wanted, yielded, go_sem, *]; done))); (· (simp [go_sem]; try rfl))))
                refine scr_end ?_
                simp only [Exit.then]
                go_wp2_with fail
                refine wp_region_script (List.range 11) [] (fun w' => w' = w.drew.drew) [(.read, 0), (.read, 1), (.read, 2), (.read, 3), (.read, 4), (.read, 5), (.read, 6), (.read, 7), (.read, 8), (.read, 9), (.read, 10)] (by kernel_rfl) (by kernel_rfl) ?_
                iterate 11 (first | (apply scr_r; (· rfl); (· (first | rfl | (simp [Region.wanted, yielded, go_sem]; done) | (simp [Region.wanted, yielded, go_sem, *]; done))); (· (go_simp; try rfl)); (· (simp [go_sem]; try rfl))) | (apply scr_r0; (· rfl); (· (first | rfl | (simp [Region.wanted, yielded, go_sem]; done) | (simp [Region.wanted, yielded, go_sem, *]; done))); (· (simp [go_sem]; try rfl))))
                refine scr_end ?_
                simp only [Exit.then]
                go_wp2_with fail
                refine wp_region_script (List.range 11) [] (fun w' => w' = w.drew.drew.drew) [(.read, 0), (.read, 1), (.read, 2), (.read, 3), (.read, 4), (.read, 5), (.read, 6), (.read, 7), (.read, 8), (.read, 9), (.read, 10)] (by kernel_rfl) (by kernel_rfl) ?_
                iterate 11 (first | (apply scr_r; (· rfl); (· (first | rfl | (simp [Region.wanted, yielded, go_sem]; done) | (simp [Region.wanted, yielded, go_sem, *]; done))); (· (go_simp; try rfl)); (· (simp [go_sem]; try rfl))) | (apply scr_r0; (· rfl); (· (first | rfl | (simp [Region.wanted, yielded, go_sem]; done) | (simp [Region.wanted, yielded, go_sem, *]; done))); (· (simp [go_sem]; try rfl))))
                refine scr_end ?_
                simp only [Exit.then]
                go_wp2_with fail
                refine wp_region_script (List.range 14) [] (fun w' => w' = w.drew.drew.drew.drew) [(.read, 0), (.read, 1), (.read, 2), (.read, 3), (.read, 4), (.read, 5), (.read, 6), (.read, 7), (.read, 8), (.read, 9), (.read, 10), (.read, 11), (.read, 12), (.read, 13)] (by kernel_rfl) (by kernel_rfl) ?_
                iterate 14 (first | (apply scr_r; (· rfl); (· (first | rfl | (simp [Region.wanted, yielded, go_sem]; done) | (simp [Region.wanted, yielded, go_sem, *]; done))); (· (go_simp; try rfl)); (· (simp [go_sem]; try rfl))) | (apply scr_r0; (· rfl); (· (first | rfl | (simp [Region.wanted, yielded, go_sem]; done) | (simp [Region.wanted, yielded, go_sem, *]; done))); (· (simp [go_sem]; try rfl))))
                refine scr_end ?_
                simp only [Exit.then]
                go_wp2_with fail
                exact hR'.out.bool (by simp [hs'.out]) _ hE.drew.drew.drew.drew
        | some lz2 =>
          obtain ⟨l2, lo2, rfl, atl2⟩ := l2.at
          go_enter Try.func30, Try.ntmps30
          go_wp2_with fail
          refine wp_region_script (List.range 11) [] (fun w' => w' = w.drew) [(.read, 0), (.read, 1), (.read, 2), (.read, 3), (.read, 4), (.read, 5), (.read, 6), (.read, 7), (.read, 8), (.read, 9), (.read, 10)] (by kernel_rfl) (by kernel_rfl) ?_
          iterate 11 (first | (apply scr_r; (· rfl); (· (first | rfl | (simp [Region.wanted, yielded, go_sem]; done) | (simp [Region.wanted, yielded, go_sem, *]; done))); (· (go_simp; try rfl)); (· (simp [go_sem]; try rfl))) | (apply scr_r0; (· rfl); (· (first | rfl | (simp [Region.wanted, yielded, go_sem]; done) | (simp [Region.wanted, yielded, go_sem, *]; done))); (· (simp [go_sem]; try rfl))))
          refine scr_end ?_
          simp only [Exit.then]
          go_wp2_with fail
          refine wp_region_script (List.range 11) [] (fun w' => w' = w.drew.drew) [(.read, 0), (.read, 1), (.read, 2), (.read, 3), (.read, 4), (.read, 5), (.read, 6), (.read, 7), (.read, 8), (.read, 9), (.read, 10)] (by kernel_rfl) (by kernel_rfl) ?_
          iterate 11 (first | (apply scr_r; (· rfl); (· (first | rfl | (simp [Region.wanted, yielded, go_sem]; done) | (simp [Region.wanted, yielded, go_sem, *]; done))); (· (go_simp; try rfl)); (· (simp [go_sem]; try rfl))) | (apply scr_r0; (· rfl); (· (first | rfl | (simp [Region.wanted, yielded, go_sem]; done) | (simp [Region.wanted, yielded, go_sem, *]; done))); (· (simp [go_sem]; try rfl))))
          refine scr_end ?_
          simp only [Exit.then]
          go_wp2_with fail
          exact hR'.out.bool (by simp) _ hE.drew.drew
      | some lz1 =>
        obtain ⟨l1, lo1, rfl, atl1⟩ := l1.at
        cases k with
        | none =>
          cases l2
          go_enter Try.func30, Try.ntmps30
          go_wp2_with fail
          refine wp_region_script (List.range 11) [] (fun w' => w' = w.drew) [(.read, 0), (.read, 1), (.read, 2), (.read, 3), (.read, 4), (.read, 5), (.read, 6), (.read, 7), (.read, 8), (.read, 9), (.read, 10)] (by kernel_rfl) (by kernel_rfl) ?_
          iterate 11 (first | (apply scr_r; (· rfl); (· (first | rfl | (simp [Region.wanted, yielded, go_sem]; done) | (simp [Region.wanted, yielded, go_sem, *]; done))); (· (go_simp; try rfl)); (· (simp [go_sem]; try rfl))) | (apply scr_r0; (· rfl); (· (first | rfl | (simp [Region.wanted, yielded, go_sem]; done) | (simp [Region.wanted, yielded, go_sem, *]; done))); (· (simp [go_sem]; try rfl))))
          refine scr_end ?_
          simp only [Exit.then]
          go_wp2_with fail
          refine wp_region_script (List.range 11) [] (fun w' => w' = w.drew.drew) [(.read, 0), (.read, 1), (.read, 2), (.read, 3), (.read, 4), (.read, 5), (.read, 6), (.read, 7), (.read, 8), (.read, 9), (.read, 10)] (by kernel_rfl) (by kernel_rfl) ?_
          iterate 11 (first | (apply scr_r; (· rfl); (· (first | rfl | (simp [Region.wanted, yielded, go_sem]; done) | (simp [Region.wanted, yielded, go_sem, *]; done))); (· (go_simp; try rfl)); (· (simp [go_sem]; try rfl))) | (apply scr_r0; (· rfl); (· (first | rfl | (simp [Region.wanted, yielded, go_sem]; done) | (simp [Region.wanted, yielded, go_sem, *]; done))); (· (simp [go_sem]; try rfl))))
          refine scr_end ?_
          simp only [Exit.then]
          go_wp2_with fail
          exact hR'.out.bool (by simp) _ hE.drew.drew
        | some lz2 =>
          obtain ⟨l2, lo2, rfl, atl2⟩ := l2.at
          cases m with
          | none =>
            cases m1
            cases n with
            | none =>
              cases m2
              have atl1' := Lib.hid atl1
              have atl2' := Lib.hid atl2
              clear atl1 atl2
              by_cases hs : sz1 = sz2
              · subst hs
                go_enter Try.func30, Try.ntmps30
                go_wp2_with fail
                refine wp_region_script (List.range 11) [] (fun w' => w' = w.drew) [(.read, 0), (.read, 1), (.read, 2), (.read, 3), (.read, 4), (.read, 5), (.read, 6), (.read, 7), (.read, 8), (.read, 9), (.read, 10)] (by kernel_rfl) (by kernel_rfl) ?_
                iterate 11 (first | (apply scr_r; (· rfl); (· (first | rfl | (simp [Region.wanted, yielded, go_sem]; done) | (simp [Region.wanted, yielded, go_sem, *]; done))); (· (go_simp; try rfl)); (· (simp [go_sem]; try rfl))) | (apply scr_r0; (· rfl); (· (first | rfl | (simp [Region.wanted, yielded, go_sem]; done) | (simp [Region.wanted, yielded, go_sem, *]; done))); (· (simp [go_sem]; try rfl))))
                refine scr_end ?_
                simp only [Exit.then]
                go_wp2_with fail
                refine wp_region_script (List.range 11) [] (fun w' => w' = w.drew.drew) [(.read, 0), (.read, 1), (.read, 2), (.read, 3), (.read, 4), (.read, 5), (.read, 6), (.read, 7), (.read, 8), (.read, 9), (.read, 10)] (by kernel_rfl) (by kernel_rfl) ?_
                iterate 11 (first | (apply scr_r; (· rfl); (· (first | rfl | (simp [Region.wanted, yielded, go_sem]; done) | (simp [Region.wanted, yielded, go_sem, *]; done))); (· (go_simp; try rfl)); (· (simp [go_sem]; try rfl))) | (apply scr_r0; (· rfl); (· (first | rfl | (simp [Region.wanted, yielded, go_sem]; done) | (simp [Region.wanted, yielded, go_sem, *]; done))); (· (simp [go_sem]; try rfl))))
                refine scr_end ?_
                simp only [Exit.then]
                go_wp2_with fail
                refine wp_region_script (List.range 11) [] (fun w' => w' = w.drew.drew.drew) [(.read, 0), (.read, 1), (.read, 2), (.read, 3), (.read, 4), (.read, 5), (.read, 6), (.read, 7), (.read, 8), (.read, 9), (.read, 10)] (by kernel_rfl) (by kernel_rfl) ?_
                iterate 11 (first | (apply scr_r; (· rfl); (· (first | rfl | (simp [Region.wanted, yielded, go_sem]; done) | (simp [Region.wanted, yielded, go_sem, *]; done))); (· (go_simp; try rfl)); (· (simp [go_sem]; try rfl))) | (apply scr_r0; (· rfl); (· (first | rfl | (simp [Region.wanted, yielded, go_sem]; done) | (simp [Region.wanted, yielded, go_sem, *]; done))); (· (simp [go_sem]; try rfl))))
                refine scr_end ?_
                simp only [Exit.then]
                go_wp2_with fail
                refine wp_region_script (List.range 14) [] (fun w' => w' = w.drew.drew.drew.drew) [(.read, 0), (.read, 1), (.read, 2), (.read, 3), (.read, 4), (.read, 5), (.read, 6), (.read, 7), (.read, 8), (.read, 9), (.read, 10), (.read, 11), (.read, 12), (.read, 13)] (by kernel_rfl) (by kernel_rfl) ?_
                iterate 14 (first | (apply scr_r; (· rfl); (· (first | rfl | (simp [Region.wanted, yielded, go_sem]; done) | (simp [Region.wanted, yielded, go_sem, *]; done))); (· (go_simp; try rfl)); (· (simp [go_sem]; try rfl))) | (apply scr_r0; (· rfl); (· (first | rfl | (simp [Region.wanted, yielded, go_sem]; done) | (simp [Region.wanted, yielded, go_sem, *]; done))); (· (simp [go_sem]; try rfl))))
                refine scr_end ?_
                simp only [Exit.then]
                go_wp2_with fail
                exact hR'.out.bool (by simp) _ hE.drew.drew.drew.drew
              · have hb := bytes_beq hs
                have hs' := Lib.hid hs
                clear hs
                go_enter Try.func30, Try.ntmps30
                go_wp2_with fail
                refine wp_region_script (List.range 11) [] (fun w' => w' = w.drew) [(.read, 0), (.read, 1), (.read, 2), (.read, 3), (.read, 4), (.read, 5), (.read, 6), (.read, 7), (.read, 8), (.read, 9), (.read, 10)] (by kernel_rfl) (by kernel_rfl) ?_
                iterate 11 (first | (apply scr_r; (· rfl); (· (first | rfl | (simp [Region.wanted, yielded, go_sem]; done) | (simp [Region.wanted, yielded, go_sem, *]; done))); (· (go_simp; try rfl)); (· (simp [go_sem]; try rfl))) | (apply scr_r0; (· rfl); (· (first | rfl | (simp [Region.wanted, yielded, go_sem]; done) | (simp [Region.wanted, yielded, go_sem, *]; done))); (· (simp [go_sem]; try rfl))))
                refine scr_end ?_
                simp only [Exit.then]
                go_wp2_with fail
                refine wp_region_script (List.range 11) [] (fun w' => w' = w.drew.drew) [(.read, 0), (.read, 1), (.read, 2), (.read, 3), (.read, 4), (.read, 5), (.read, 6), (.read, 7), (.read, 8), (.read, 9), (.read, 10)] (by kernel_rfl) (by kernel_rfl) ?_
                iterate 11 (first | (apply scr_r; (· rfl); (· (first | rfl | (simp [Region.wanted, yielded, go_sem]; done) | (simp [Region.wanted, yielded, go_sem, *]; done))); (· (go_simp; try rfl)); (· (simp [go_sem]; try rfl))) | (apply scr_r0; (· rfl); (· (first | rfl | (simp [Region.wanted, yielded, go_sem]; done) | (simp [Region.wanted, yielded, go_sem, *]; done))); (· (simp [go_sem]; try rfl))))
                refine scr_end ?_
                simp only [Exit.then]
                go_wp2_with fail
                refine wp_region_script (List.range 11) [] (fun w' => w' = w.drew.drew.drew) [(.read, 0), (.read, 1), (.read, 2), (.read, 3), (.read, 4), (.read, 5), (.read, 6), (.read, 7), (.read, 8), (.read, 9), (.read, 10)] (by kernel_rfl) (by kernel_rfl) ?_
                iterate 11 (first | (apply scr_r; (· rfl); (· (first | rfl | (simp [Region.wanted, yielded, go_sem]; done) | (simp [Region.wanted, yielded, go_sem, *]; done))); (· (go_simp; try rfl)); (· (simp [go_sem]; try rfl))) | (apply scr_r0; (· rfl); (· (first | rfl | (simp [Region.wanted, yielded, go_sem]; done) | (simp [Region.wanted, yielded, go_sem, *]; done))); (· (simp [go_sem]; try rfl))))
                refine scr_end ?_
                simp only [Exit.then]
                go_wp2_with fail
                refine wp_region_script (List.range 14) [] (fun w' => w' = w.drew.drew.drew.drew) [(.read, 0), (.read, 1), (.read, 2), (.read, 3), (.read, 4), (.read, 5), (.read, 6), (.read, 7), (.read, 8), (.read, 9), (.read, 10), (.read, 11), (.read, 12), (.read, 13)] (by kernel_rfl) (by kernel_rfl) ?_
                iterate 14 (first | (apply scr_r; (· rfl); (· (first | rfl | (simp [Region.wanted, yielded, go_sem]; done) | (simp [Region.wanted, yielded, go_sem, *]; done))); (· (go_simp; try rfl)); (· (simp [go_sem]; try rfl))) | (apply scr_r0; (· rfl); (· (first | rfl | (simp [Region.wanted, yielded, go_sem]; done) | (simp [Region.wanted, yielded, go_sem, *]; done))); (· (simp [go_sem]; try rfl))))
                refine scr_end ?_
                simp only [Exit.then]
                go_wp2_with fail
                exact hR'.out.bool (by simp [hs'.out]) _ hE.drew.drew.drew.drew
            | some mz2 =>
              obtain ⟨m2, mo2, rfl, atm2⟩ := m2.at
              go_enter Try.func30, Try.ntmps30
              go_wp2_with fail
              refine wp_region_script (List.range 11) [] (fun w' => w' = w.drew) [(.read, 0), (.read, 1), (.read, 2), (.read, 3), (.read, 4), (.read, 5), (.read, 6), (.read, 7), (.read, 8), (.read, 9), (.read, 10)] (by kernel_rfl) (by kernel_rfl) ?_
              iterate 11 (first | (apply scr_r; (· rfl); (· (first | rfl | (simp [Region.wanted, yielded, go_sem]; done) | (simp [Region.wanted, yielded, go_sem, *]; done))); (· (go_simp; try rfl)); (· (simp [go_sem]; try rfl))) | (apply scr_r0; (· rfl); (· (first | rfl | (simp [Region.wanted, yielded, go_sem]; done) | (simp [Region.wanted, yielded, go_sem, *]; done))); (· (simp [go_sem]; try rfl))))
              refine scr_end ?_
              simp only [Exit.then]
              go_wp2_with fail
              refine wp_region_script (List.range 11) [] (fun w' => w' = w.drew.drew) [(.read, 0), (.read, 1), (.read, 2), (.read, 3), (.read, 4), (.read, 5), (.read, 6), (.read, 7), (.read, 8), (.read, 9), (.read, 10)] (by kernel_rfl) (by kernel_rfl) ?_
              iterate 11 (first | (apply scr_r; (· rfl); (· (first | rfl | (simp [Region.wanted, yielded, go_sem]; done) | (simp [Region.wanted, yielded, go_sem, *]; done))); (· (go_simp; try rfl)); (· (simp [go_sem]; try rfl))) | (apply scr_r0; (· rfl); (· (first | rfl | (simp [Region.wanted, yielded, go_sem]; done) | (simp [Region.wanted, yielded, go_sem, *]; done))); (· (simp [go_sem]; try rfl))))
              refine scr_end ?_
              simp only [Exit.then]
              go_wp2_with fail
              refine wp_region_script (List.range 11) [] (fun w' => w' = w.drew.drew.drew) [(.read, 0), (.read, 1), (.read, 2), (.read, 3), (.read, 4), (.read, 5), (.read, 6), (.read, 7), (.read, 8), (.read, 9), (.read, 10)] (by kernel_rfl) (by kernel_rfl) ?_
              iterate 11 (first | (apply scr_r; (· rfl); (· (first | rfl | (simp [Region.wanted, yielded, go_sem]; done) | (simp [Region.wanted, yielded, go_sem, *]; done))); (· (go_simp; try rfl)); (· (simp [go_sem]; try rfl))) | (apply scr_r0; (· rfl); (· (first | rfl | (simp [Region.wanted, yielded, go_sem]; done) | (simp [Region.wanted, yielded, go_sem, *]; done))); (· (simp [go_sem]; try rfl))))
              refine scr_end ?_
              simp only [Exit.then]
              go_wp2_with fail
              exact hR'.out.bool (by simp) _ hE.drew.drew.drew
          | some mz1 =>
            obtain ⟨m1, mo1, rfl, atm1⟩ := m1.at
            cases n with
            | none =>
              cases m2
              go_enter Try.func30, Try.ntmps30
              go_wp2_with fail
              refine wp_region_script (List.range 11) [] (fun w' => w' = w.drew) [(.read, 0), (.read, 1), (.read, 2), (.read, 3), (.read, 4), (.read, 5), (.read, 6), (.read, 7), (.read, 8), (.read, 9), (.read, 10)] (by kernel_rfl) (by kernel_rfl) ?_
              iterate 11 (first | (apply scr_r; (· rfl); (· (first | rfl | (simp [Region.wanted, yielded, go_sem]; done) | (simp [Region.wanted, yielded, go_sem, *]; done))); (· (go_simp; try rfl)); (· (simp [go_sem]; try rfl))) | (apply scr_r0; (· rfl); (· (first | rfl | (simp [Region.wanted, yielded, go_sem]; done) | (simp [Region.wanted, yielded, go_sem, *]; done))); (· (simp [go_sem]; try rfl))))
              refine scr_end ?_
              simp only [Exit.then]
              go_wp2_with fail
              refine wp_region_script (List.range 11) [] (fun w' => w' = w.drew.drew) [(.read, 0), (.read, 1), (.read, 2), (.read, 3), (.read, 4), (.read, 5), (.read, 6), (.read, 7), (.read, 8), (.read, 9), (.read, 10)] (by kernel_rfl) (by kernel_rfl) ?_
              iterate 11 (first | (apply scr_r; (· rfl); (· (first | rfl | (simp [Region.wanted, yielded, go_sem]; done) | (simp [Region.wanted, yielded, go_sem, *]; done))); (· (go_simp; try rfl)); (· (simp [go_sem]; try rfl))) | (apply scr_r0; (· rfl); (· (first | rfl | (simp [Region.wanted, yielded, go_sem]; done) | (simp [Region.wanted, yielded, go_sem, *]; done))); (· (simp [go_sem]; try rfl))))
              refine scr_end ?_
              simp only [Exit.then]
              go_wp2_with fail
              refine wp_region_script (List.range 11) [] (fun w' => w' = w.drew.drew.drew) [(.read, 0), (.read, 1), (.read, 2), (.read, 3), (.read, 4), (.read, 5), (.read, 6), (.read, 7), (.read, 8), (.read, 9), (.read, 10)] (by kernel_rfl) (by kernel_rfl) ?_
              iterate 11 (first | (apply scr_r; (· rfl); (· (first | rfl | (simp [Region.wanted, yielded, go_sem]; done) | (simp [Region.wanted, yielded, go_sem, *]; done))); (· (go_simp; try rfl)); (· (simp [go_sem]; try rfl))) | (apply scr_r0; (· rfl); (· (first | rfl | (simp [Region.wanted, yielded, go_sem]; done) | (simp [Region.wanted, yielded, go_sem, *]; done))); (· (simp [go_sem]; try rfl))))
              refine scr_end ?_
              simp only [Exit.then]
              go_wp2_with fail
              exact hR'.out.bool (by simp) _ hE.drew.drew.drew
            | some mz2 =>
              obtain ⟨m2, mo2, rfl, atm2⟩ := m2.at
              have atl1' := Lib.hid atl1
              have atl2' := Lib.hid atl2
              clear atl1 atl2
              have atm1' := Lib.hid atm1
              have atm2' := Lib.hid atm2
              clear atm1 atm2
              by_cases hs : sz1 = sz2
              · subst hs
                go_enter Try.func30, Try.ntmps30
                go_wp2_with fail
                refine wp_region_script (List.range 11) [] (fun w' => w' = w.drew) [(.read, 0), (.read, 1), (.read, 2), (.read, 3), (.read, 4), (.read, 5), (.read, 6), (.read, 7), (.read, 8), (.read, 9), (.read, 10)] (by kernel_rfl) (by kernel_rfl) ?_
                iterate 11 (first | (apply scr_r; (· rfl); (· (first | rfl | (simp [Region.wanted, yielded, go_sem]; done) | (simp [Region.wanted, yielded, go_sem, *]; done))); (· (go_simp; try rfl)); (· (simp [go_sem]; try rfl))) | (apply scr_r0; (· rfl); (· (first | rfl | (simp [Region.wanted, yielded, go_sem]; done) | (simp [Region.wanted, yielded, go_sem, *]; done))); (· (simp [go_sem]; try rfl))))
                refine scr_end ?_
                simp only [Exit.then]
                go_wp2_with fail
                refine wp_region_script (List.range 11) [] (fun w' => w' = w.drew.drew) [(.read, 0), (.read, 1), (.read, 2), (.read, 3), (.read, 4), (.read, 5), (.read, 6), (.read, 7), (.read, 8), (.read, 9), (.read, 10)] (by kernel_rfl) (by kernel_rfl) ?_
                iterate 11 (first | (apply scr_r; (· rfl); (· (first | rfl | (simp [Region.wanted, yielded, go_sem]; done) | (simp [Region.wanted, yielded, go_sem, *]; done))); (· (go_simp; try rfl)); (· (simp [go_sem]; try rfl))) | (apply scr_r0; (· rfl); (· (first | rfl | (simp [Region.wanted, yielded, go_sem]; done) | (simp [Region.wanted, yielded, go_sem, *]; done))); (· (simp [go_sem]; try rfl))))
                refine scr_end ?_
                simp only [Exit.then]
                go_wp2_with fail
                refine wp_region_script (List.range 11) [] (fun w' => w' = w.drew.drew.drew) [(.read, 0), (.read, 1), (.read, 2), (.read, 3), (.read, 4), (.read, 5), (.read, 6), (.read, 7), (.read, 8), (.read, 9), (.read, 10)] (by kernel_rfl) (by kernel_rfl) ?_
                iterate 11 (first | (apply scr_r; (· rfl); (· (first | rfl | (simp [Region.wanted, yielded, go_sem]; done) | (simp [Region.wanted, yielded, go_sem, *]; done))); (· (go_simp; try rfl)); (· (simp [go_sem]; try rfl))) | (apply scr_r0; (· rfl); (· (first | rfl | (simp [Region.wanted, yielded, go_sem]; done) | (simp [Region.wanted, yielded, go_sem, *]; done))); (· (simp [go_sem]; try rfl))))
                refine scr_end ?_
                simp only [Exit.then]
                go_wp2_with fail
                refine wp_region_script (List.range 14) [] (fun w' => w' = w.drew.drew.drew.drew) [(.read, 0), (.read, 1), (.read, 2), (.read, 3), (.read, 4), (.read, 5), (.read, 6), (.read, 7), (.read, 8), (.read, 9), (.read, 10), (.read, 11), (.read, 12), (.read, 13)] (by kernel_rfl) (by kernel_rfl) ?_
                iterate 14 (first | (apply scr_r; (· rfl); (· (first | rfl | (simp [Region.wanted, yielded, go_sem]; done) | (simp [Region.wanted, yielded, go_sem, *]; done))); (· (go_simp; try rfl)); (· (simp [go_sem]; try rfl))) | (apply scr_r0; (· rfl); (· (first | rfl | (simp [Region.wanted, yielded, go_sem]; done) | (simp [Region.wanted, yielded, go_sem, *]; done))); (· (simp [go_sem]; try rfl))))
                refine scr_end ?_
                simp only [Exit.then]
                go_wp2_with fail
                exact hR'.out.bool (by simp) _ hE.drew.drew.drew.drew
              · have hb := bytes_beq hs
                have hs' := Lib.hid hs
                clear hs
                go_enter Try.func30, Try.ntmps30
                go_wp2_with fail
                refine wp_region_script (List.range 11) [] (fun w' => w' = w.drew) [(.read, 0), (.read, 1), (.read, 2), (.read, 3), (.read, 4), (.read, 5), (.read, 6), (.read, 7), (.read, 8), (.read, 9), (.read, 10)] (by kernel_rfl) (by kernel_rfl) ?_
                iterate 11 (first | (apply scr_r; (· rfl); (· (first | rfl | (simp [Region.wanted, yielded, go_sem]; done) | (simp [Region.wanted, yielded, go_sem, *]; done))); (· (go_simp; try rfl)); (· (simp [go_sem]; try rfl))) | (apply scr_r0; (· rfl); (· (first | rfl | (simp [Region.wanted, yielded, go_sem]; done) | (simp [Region.wanted, yielded, go_sem, *]; done))); (· (simp [go_sem]; try rfl))))
                refine scr_end ?_
                simp only [Exit.then]
                go_wp2_with fail
                refine wp_region_script (List.range 11) [] (fun w' => w' = w.drew.drew) [(.read, 0), (.read, 1), (.read, 2), (.read, 3), (.read, 4), (.read, 5), (.read, 6), (.read, 7), (.read, 8), (.read, 9), (.read, 10)] (by kernel_rfl) (by kernel_rfl) ?_
                iterate 11 (first | (apply scr_r; (· rfl); (· (first | rfl | (simp [Region.wanted, yielded, go_sem]; done) | (simp [Region.wanted, yielded, go_sem, *]; done))); (· (go_simp; try rfl)); (· (simp [go_sem]; try rfl))) | (apply scr_r0; (· rfl); (· (first | rfl | (simp [Region.wanted, yielded, go_sem]; done) | (simp [Region.wanted, yielded, go_sem, *]; done))); (· (simp [go_sem]; try rfl))))
                refine scr_end ?_
                simp only [Exit.then]
                go_wp2_with fail
                refine wp_region_script (List.range 11) [] (fun w' => w' = w.drew.drew.drew) [(.read, 0), (.read, 1), (.read, 2), (.read, 3), (.read, 4), (.read, 5), (.read, 6), (.read, 7), (.read, 8), (.read, 9), (.read, 10)] (by kernel_rfl) (by kernel_rfl) ?_
                iterate 11 (first | (apply scr_r; (· rfl); (· (first | rfl | (simp [Region.wanted, yielded, go_sem]; done) | (simp [Region.wanted, yielded, go_sem, *]; done))); (· (go_simp; try rfl)); (· (simp [go_sem]; try rfl))) | (apply scr_r0; (· rfl); (· (first | rfl | (simp [Region.wanted, yielded, go_sem]; done) | (simp [Region.wanted, yielded, go_sem, *]; done))); (· (simp [go_sem]; try rfl))))
                refine scr_end ?_
                simp only [Exit.then]
                go_wp2_with fail
                refine wp_region_script (List.range 14) [] (fun w' => w' = w.drew.drew.drew.drew) [(.read, 0), (.read, 1), (.read, 2), (.read, 3), (.read, 4), (.read, 5), (.read, 6), (.read, 7), (.read, 8), (.read, 9), (.read, 10), (.read, 11), (.read, 12), (.read, 13)] (by kernel_rfl) (by kernel_rfl) ?_
                iterate 14 (first | (apply scr_r; (· rfl); (· (first | rfl | (simp [Region.wanted, yielded, go_sem]; done) | (simp [Region.wanted, yielded, go_sem, *]; done))); (· (go_simp; try rfl)); (· (simp [go_sem]; try rfl))) | (apply scr_r0; (· rfl); (· (first | rfl | (simp [Region.wanted, yielded, go_sem]; done) | (simp [Region.wanted, yielded, go_sem, *]; done))); (· (simp [go_sem]; try rfl))))
                refine scr_end ?_
                simp only [Exit.then]
                go_wp2_with fail
                exact hR'.out.bool (by simp [hs'.out]) _ hE.drew.drew.drew.drew

theorem atomEq_c (d : Nat) : AEqC d := by
  induction d with
  | zero =>
    intro w b off b2 off2 x y h1 h2 q1 q2 R hR
    obtain ⟨cs, -, h⟩ := h1
    exact h.elim
  | succ d ih => exact atomEq_step ih

end Go.Proofs.Ytnndacgokehkpaa
