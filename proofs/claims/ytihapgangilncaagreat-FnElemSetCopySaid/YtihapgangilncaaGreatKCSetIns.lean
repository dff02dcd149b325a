/- impl.fromPath and spec.CleanPath (printed by gen_pathsc.py). spec.SetOf: the reference's set of paths. Path elements that come of orderly elements of impl (plain). Unions and intersections of sets of paths (plain). Set.Insert: a path put into a set. -/
import Derived.Test.YtihapgangilncaaGreatKCFromS
import Derived.Test.YtihapgangilncaaGreatKCFlCopy
import Derived.Test.YtihapgangilncaaGreatKCSetL
import Derived.Test.YtihapgangilncaaGreatKCHole
namespace Go.Proofs.YtihapgangilncaaGreat
open Go.RowKit
set_option linter.unusedSimpArgs false

/-- a slice whose elements keep clear of X, wherever it stands itself -/
def SlE {α : Type} (k : Kind α) (bytes : Nat) (w : World) (X : List Nat) (v : Value) (us : List α) : Prop := ∃ o c b off, v = .slice o us.length c ∧ us.length ≤ c ∧ us.length * bytes ≤ 140737488351232 ∧ (0 < us.length → o = some ⟨b, off, none⟩) ∧
  ∀ i (h : i < us.length), ∃ cs : List Value, (∀ j, j < k.size → w.cell? ⟨b, off + i * k.size + j, none⟩ = cs[j]?) ∧ k.is w X cs (us[i])
theorem SlE.less {α : Type} {k : Kind α} {bytes : Nat} {w : World} {X Y : List Nat} {v : Value} {us : List α} (h : SlE k bytes w X v us) (hY : ∀ b ∈ Y, b ∈ X) : SlE k bytes w Y v us := by
  obtain ⟨o, c, b, off, rfl, l2, l3, l4, l5⟩ := h
  refine ⟨o, c, b, off, rfl, l2, l3, l4, fun i hi => ?_⟩
  obtain ⟨cs, h1, h2⟩ := l5 i hi
  exact ⟨cs, h1, k.mv h2 ((Mv.refl _ _).less hY)⟩
theorem SlE.ext {α : Type} {k : Kind α} {bytes : Nat} {w w' : World} {X : List Nat} {v : Value} {us : List α} (h : SlE k bytes w X v us) (hE : Ext w w') : SlE k bytes w' X v us := by
  obtain ⟨o, c, b, off, rfl, l2, l3, l4, l5⟩ := h
  refine ⟨o, c, b, off, rfl, l2, l3, l4, fun i hi => ?_⟩
  obtain ⟨cs, h1, h2⟩ := l5 i hi
  refine ⟨cs, fun j hj => ?_, k.mv h2 (hE.mv _)⟩
  have hl := k.len h2
  have h0 := h1 j hj
  rw [List.getElem?_eq_getElem (by omega)] at h0 ⊢
  exact hE.keep h0
theorem SlE.one {α : Type} {k : Kind α} {bytes : Nat} {w : World} {X : List Nat} {v : Value} {us : List α} (h : SlE k bytes w X v us) : v.oneCell' = true := by
  obtain ⟨o, c, b, off, rfl, _⟩ := h
  rfl

end Go.Proofs.YtihapgangilncaaGreat
namespace Go.Proofs.YtihapgangilncaaGreat
open Go.RowKit
set_option linter.unusedSimpArgs false

section
variable {P : Program}
theorem wp_copy0 {w : World} {o : Oper} {a : Act} {K : Act → World → Prop} {Q : Exit → Act → World → Prop} (d s : Operand) (dT sT : TypeId)
    (ho : o.op = .call { callee := .builtin .copy, args := #[d, s], argTypes := #[dT, sT] }) {elem : TypeId} (hu : P.underlying dT = some (.slice elem)) {sz : Nat} (hs : (P.info? elem).map (·.size) = some sz)
    {dp sp : Option Addr} {dLen dCap sLen sCap : Nat} (hd : a.eval d = .slice dp dLen dCap) (hsv : a.eval s = .slice sp sLen sCap) (hn : Nat.min sLen dLen = 0)
    (h : K (a.put o.dst (goInt 0)) w) : o.wp P a w K Q := by
  have hrun : (Builtin.copy_ #[dT, sT] o.type #[.slice dp dLen dCap, .slice sp sLen sCap]).run P w = .ok (goInt 0) w := by
    cases hq : P.info? elem with
    | none => simp [hq] at hs
    | some i =>
      have hl : ∀ (x : Addr), (loadCells x 0).run P w = .ok #[] w := fun x => by simpa using run_loadCells_list (P := P) w x [] (by simp)
      cases dp <;> cases sp <;> simp [Builtin.copy_, run_underlying hu, Builtin.lenOf, Builtin.firstCells, sizeOf, typeInfo, hq, hn, storeCells, hl]
  unfold Oper.wp
  simp [execOp, ho, resolve, invoke, builtin, hd, hsv, hrun, Result.andThen]
  exact h
end
theorem row_shift {α : Type} {k : Kind α} {e : TypeId} {w11 : World} {X : List Nat} {g cap n j : Nat} {cur fin : Array Value} {V : List Value} {rows : List (List Value)} {us : List α} {u : α} (hn : us.length = n) (hall : All2 (k.is w11 (g :: X)) rows us) (hx : cur.toList.take (n * k.size) = rows.flatten) (hj : j ≤ n) (hV : k.is w11 (g :: X) V u)
    (hcz : cur.size = cap * k.size) (hnc : n + 1 ≤ cap) (hcm : cap ≤ maxLen) (hgX : g ∉ X) (h11 : w11.heap[g]? = some (.cells fin e (0, 0)))
    (hfin : fin.toList = (cur.toList.take (j * k.size + k.size) ++ rows.flatten.drop (j * k.size) ++ cur.toList.drop (j * k.size + k.size + (rows.flatten.drop (j * k.size)).length)).take (j * k.size) ++ V ++ (cur.toList.take (j * k.size + k.size) ++ rows.flatten.drop (j * k.size) ++ cur.toList.drop (j * k.size + k.size + (rows.flatten.drop (j * k.size)).length)).drop (j * k.size + V.length)) :
    Row k e w11 X (.slice (some ⟨g, 0, none⟩) (n + 1) cap) (us.take j ++ u :: us.drop j) := by
  have hcl : cur.toList.length = cap * k.size := by rw [Array.length_toList]; exact hcz
  have hVl : V.length = k.size := k.len hV
  have hmn := Nat.mul_le_mul_right k.size hnc
  rw [Nat.succ_mul] at hmn
  have hsl := shift_list (cur := cur.toList) (xs := rows.flatten) (V := V) (a := j * k.size) (L := n * k.size) (s := k.size) hx (Nat.mul_le_mul_right k.size hj) hVl (by rw [hcl]; omega)
  rw [← hfin] at hsl
  have hml := All2.mem_len (s := k.size) (fun r a h => k.len h) hall
  have hrl := hall.length
  refine ⟨rows.take j ++ V :: rows.drop j, ?_, ?_, ?_⟩
  · have e1 : (us.take j ++ u :: us.drop j).length = n + 1 := by simp; omega
    have e2 : (rows.take j ++ V :: rows.drop j).flatten = rows.flatten.take (j * k.size) ++ V ++ rows.flatten.drop (j * k.size) := by
      rw [flat_take j hml, flat_drop j hml]; simp
    rw [e1, e2]
    refine ⟨?_, .inr ⟨g, cap, fin, rfl, Nat.zero_le _, h11, hnc, hcm, ?_, ?_⟩⟩
    · have hfl : rows.flatten.length = n * k.size := by rw [flat_len hml, hrl, hn]
      have := Nat.mul_le_mul_right k.size hj
      simp only [List.length_append, List.length_take, List.length_drop, hVl, hfl]
      rw [Nat.succ_mul]
      omega
    · rw [← Array.length_toList, hsl.2, hcl]
    · rw [Nat.succ_mul]
      exact hsl.1
  · simp only [vb, Value.ownBlock, Option.toList_some, List.singleton_append]
    exact (hall.take j).glue (.cons hV (hall.drop j))
  · intro g' hg'
    simp only [Value.ownBlock, Option.some.injEq] at hg'
    subst hg'
    exact hgX
end Go.Proofs.YtihapgangilncaaGreat
namespace Go.Proofs.YtihapgangilncaaGreat
open Go.RowKit
set_option linter.unusedSimpArgs false

theorem cmpE_eq0 : ∀ {P Q : EntsOfT T}, (∀ p ∈ P, ∀ q ∈ Q, (eqT p.2 q.2 = true ↔ cmpT p.2 q.2 = 0)) → (listB eqFd P Q = true ↔ cmpE cmpT P Q = 0)
  | [], [], _ => by simp [listB, pairB, cmpE]
  | [], _ :: _, _ => by simp [listB, cmpE]
  | _ :: _, [], _ => by simp [listB, cmpE]
  | p :: P, q :: Q, h => by
    have h0 := h p (by simp) q (by simp)
    have h1 := cmpE_eq0 (P := P) (Q := Q) (fun x hx y hy => h x (by simp [hx]) y (by simp [hy]))
    simp only [listB, pairB, eqFd, cmpE, List.length_cons, Bool.and_eq_true, decide_eq_true_eq, Nat.add_right_cancel_iff, beq_iff_eq] at h1 ⊢
    rw [h0]
    by_cases hk : cmpS p.1 q.1 = 0
    · have hkk := cmpS_zero.1 hk
      by_cases hz : cmpT p.2 q.2 = 0
      · rw [if_neg (by simp [hk]), if_neg (by simp [hz]), ← h1]; simp [hz, hkk]
      · rw [if_neg (by simp [hk]), if_pos hz]; simp [hz]
    · have hkk : p.1 ≠ q.1 := fun e => hk (cmpS_zero.2 e)
      rw [if_pos hk]; simp [hk, hkk]
theorem eqT_cmp0 {u v : V} (hu : u.clean.orderly = true) (hv : v.clean.orderly = true) : eqT u.plain v.plain = true ↔ cmpT u.plain v.plain = 0 := by
  rw [eqT_plain, cmpT_plain]
  exact cmpP_eq (clean_cl u) (clean_cl v) hu hv
theorem key_tame0 {e : EL} (h : tameEl e) (hk : e.kind = 1) : ∀ p ∈ e.keys.zip (V.plainL e.l), ∃ v : V, p.2 = v.plain ∧ v.clean.orderly = true := by
  intro p hp
  rw [V.plainL_eq, ← zip_map_right] at hp
  obtain ⟨q, hq, rfl⟩ := List.mem_map.1 hp
  obtain ⟨i, hi, rfl⟩ := List.getElem_of_mem hq
  obtain ⟨-, h2⟩ := h
  unfold cleanEl at h2
  rw [if_pos hk] at h2
  have hi1 : i < e.keys.length := by rw [List.length_zip] at hi; omega
  have hi2 : i < e.l.length := by rw [List.length_zip] at hi; omega
  have ho := (orderlyL_iff _).1 h2 i (by rw [cleanL_length, List.length_take]; omega)
  have e1 : (V.cleanL (e.l.take (min e.keys.length e.l.length)))[i]'(by rw [cleanL_length, List.length_take]; omega) = (e.l[i]).clean := by
    rw [cleanL_get (by rw [List.length_take]; omega), List.getElem_take]
  rw [e1] at ho
  exact ⟨e.l[i], by simp, ho⟩
theorem value_tame0 {e : EL} (h : tameEl e) (hk : e.kind = 2) : e.v.clean.orderly = true := by
  obtain ⟨h1, -⟩ := h
  unfold cleanEl at h1
  rw [if_neg (by omega), if_pos hk] at h1
  exact h1
theorem eqE_cmp0 {a b : EL} (ha : tameEl a) (hb : tameEl b) : eqE (toE a) (toE b) = true ↔ cmpPe (toE a) (toE b) = 0 := by
  unfold toE
  by_cases a1 : a.kind = 1
  · rw [if_pos a1]
    by_cases b1 : b.kind = 1
    · rw [if_pos b1]
      refine cmpE_eq0 fun p hp q hq => ?_
      obtain ⟨u, e1, hu⟩ := key_tame0 ha a1 p hp
      obtain ⟨v, e2, hv⟩ := key_tame0 hb b1 q hq
      rw [e1, e2]
      exact eqT_cmp0 hu hv
    · rw [if_neg b1]; split <;> (try split) <;> simp [eqE, cmpPe]
  · rw [if_neg a1]
    by_cases a2 : a.kind = 2
    · rw [if_pos a2]
      by_cases b1 : b.kind = 1
      · rw [if_pos b1]; simp [eqE, cmpPe]
      · rw [if_neg b1]
        by_cases b2 : b.kind = 2
        · rw [if_pos b2]
          exact eqT_cmp0 (value_tame0 ha a2) (value_tame0 hb b2)
        · rw [if_neg b2]; split <;> simp [eqE, cmpPe]
    · rw [if_neg a2]
      by_cases a3 : a.kind = 3
      · rw [if_pos a3]
        split
        · simp [eqE, cmpPe]
        split
        · simp [eqE, cmpPe]
        split
        · simp [eqE, cmpPe, cmpI_zero]
        · simp [eqE, cmpPe]
      · rw [if_neg a3]
        split
        · simp [eqE, cmpPe]
        split
        · simp [eqE, cmpPe]
        split
        · simp [eqE, cmpPe]
        · simp [eqE, cmpPe, cmpS_zero]

theorem tr_good {a b c : PEl} (ha : GoodPe a) (hb : GoodPe b) (hc : GoodPe c) : tr (cmpPe a b) (cmpPe b c) (cmpPe a c) := by
  cases a <;> cases b <;> cases c <;> simp only [cmpPe] <;> first
    | exact tr_S _ _ _
    | exact tr_I _ _ _
    | exact tr_T ha hb hc
    | exact tr_E fun p hp q hq s hs => tr_T (ha p hp) (hb q hq) (hc s hs)
    | (unfold tr; refine ⟨fun _ _ => ?_, fun _ _ => ?_, fun _ _ => ?_⟩ <;> omega)
    | (unfold tr; simp)
def GoodE (x : PEl) : Prop := ∃ e : EL, tameEl e ∧ e.l.length * 88 ≤ 140737488351232 ∧ x = toE e
theorem goodE_ord : Cmpr cmpPe GoodE := ⟨cmpPe_neg', cmpPe_rng', fun {a b d} ha hb hd => by
  obtain ⟨e1, t1, -, rfl⟩ := ha
  obtain ⟨e2, t2, -, rfl⟩ := hb
  obtain ⟨e3, t3, -, rfl⟩ := hd
  exact tr_good (good_toE t1) (good_toE t2) (good_toE t3)⟩
theorem goodE_from {x : PEl} (h : GoodE x) : FromEl x := by
  obtain ⟨e, -, -, rfl⟩ := h
  exact ⟨e, rfl⟩
theorem goodE_small {x : PEl} (h : GoodE x) : SmallPe x := by
  obtain ⟨e, -, h2, rfl⟩ := h
  unfold toE
  split
  · show (e.keys.zip (V.plainL e.l)).length * 88 ≤ _
    have : (V.plainL e.l).length = e.l.length := by rw [V.plainL_eq, List.length_map]
    rw [List.length_zip, this]
    refine Nat.le_trans (Nat.mul_le_mul_right 88 (Nat.min_le_right _ _)) h2
  · split
    · trivial
    · split <;> trivial
theorem goodE_eq {x y : PEl} (hx : GoodE x) (hy : GoodE y) : eqEl (backE x) (backE y) = true ↔ cmpPe x y = 0 := by
  obtain ⟨e, h1, -, rfl⟩ := id hx
  obtain ⟨f, g1, -, rfl⟩ := id hy
  rw [← eqE_toE, eqE_cmp0 (tame_back h1) (tame_back g1), cmpPe_back (goodE_from hx), cmpPe_neg' _ (toE e), cmpPe_back (goodE_from hy), cmpPe_neg' (toE e)]
  omega
theorem goodE_list {p q : List PEl} (hp : GP GoodE p) (hq : GP GoodE q) : listB eqEl (p.map backE) (q.map backE) = true ↔ wc cmpPe p q = 0 := by
  rw [wc_zero]
  induction p generalizing q with
  | nil =>
    cases q with
    | nil => simp [listB, pairB]; exact .nil
    | cons y q => simp [listB]; intro h; cases h
  | cons x p ih =>
    cases q with
    | nil => simp [listB]; intro h; cases h
    | cons y q =>
      have h1 := goodE_eq (hp x (by simp)) (hq y (by simp))
      have h2 := ih (q := q) (fun z hz => hp z (by simp [hz])) (fun z hz => hq z (by simp [hz]))
      simp only [listB, List.length_map, Bool.and_eq_true, decide_eq_true_eq] at h2
      simp only [listB, List.map_cons, List.length_cons, List.length_map, pairB, Bool.and_eq_true, decide_eq_true_eq, Nat.add_right_cancel_iff, h1]
      constructor
      · rintro ⟨h3, h4, h5⟩; exact .cons h4 (h2.1 ⟨h3, h5⟩)
      · intro h
        cases h with
        | cons h3 h4 => have := h2.2 h4; exact ⟨this.1, h3, this.2⟩
end Go.Proofs.YtihapgangilncaaGreat
namespace Go.Proofs.YtihapgangilncaaGreat
open Go.RowKit
set_option linter.unusedSimpArgs false
set_option linter.unusedVariables false

section
variable {α : Type} {c : α → α → Int} {G : α → Prop}
/-- no two are equal -/
def Dst (c : α → α → Int) (l : List α) : Prop := l.Pairwise (fun a b => c a b ≠ 0)
theorem SrtC.dst {l : List α} (h : SrtC c l) : Dst c l := h.imp fun h => by omega
end

section
variable {α σ : Type} {c : α → α → Int} {G : α → Prop}
end

section
variable {α : Type} {c : α → α → Int} {G : α → Prop}
end
end Go.Proofs.YtihapgangilncaaGreat
namespace Go.Proofs.YtihapgangilncaaGreat
open Go.RowKit
set_option linter.unusedSimpArgs false

section
variable {G : PEl → Prop} {X : List Nat} {t : BT} {p : List PEl} {w wr : World} {A B : List Nd} {ctx : BT → BT} {b : Nat} {vm vc : Value} {ms : List PEl} {cs : List (PEl × BT)} {p2 : List PEl} {e : PEl}
theorem Hole.ext {u : BT} (h : Hole G X t p w wr A B ctx u p2) {w' : World} (hE : Ext wr w') : Hole G X t p w w' A B ctx u p2 :=
  ⟨h.st.ext hE, h.mu.thenNew (hE.mut []) (by simp), h.bl, h.cx, h.wf, h.has, h.len⟩
end

end Go.Proofs.YtihapgangilncaaGreat
