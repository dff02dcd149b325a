/- FnDeduceAtom's parts: the plain law, zzFits10, kindOf, narrowed, deduceAtom, DeduceAtom. -/
import Derived.Test.YtmihdlbcjiaibaaAlikeA
import Derived.Test.YtmihdlbcjiaibaaScalar
namespace Go.Proofs.Ytmihdlbcjiaibaa
open Go.RowKit

/-! the plain law: a type, as the library takes it and gives it back, is written like the type itself -/
def svSame (v u : V) : Bool := v.clean.same u.clean

theorem dfOf_kind (v : V) (l : List V) : dfOf (v :: l) = if v.clean.kindOf = 0 then [] else [v] := rfl
theorem rf_rt {d : Nat} (h : ∀ a, aAlike svSame d (frA d (toA d a)) a = true) (r : RfOf A) : rfAlike (aAlike svSame d) (frRf (frA d) (toRf (toA d) r)) r = true := by
  obtain ⟨n, m, a, l⟩ := r
  by_cases hl : l = ⟨#[]⟩
  · subst hl
    cases n <;> simp [rfAlike, frRf, toRf, h]
  · cases n <;> simp [rfAlike, frRf, toRf, h, hl]
theorem null_kind (v : V) : v.plain = .null → v.clean.kindOf = 0 := by
  intro h
  rw [← back_plain, h]
  rfl
theorem ft_rt {d : Nat} (h : ∀ a, aAlike svSame d (frA d (toA d a)) a = true) (x : FtOf A) : ftAlike svSame (aAlike svSame d) (frFt (frA d) (toFt (toA d) x)) x = true := by
  obtain ⟨n, r, df⟩ := x
  have hd : (dfOf (frFt (frA d) (toFt (toA d) ⟨n, r, df⟩)).dflt).length = (dfOf df).length ∧ dfAlike svSame (dfOf (frFt (frA d) (toFt (toA d) ⟨n, r, df⟩)).dflt) (dfOf df) = true := by
    cases df with
    | nil => simp [frFt, toFt, dfOf, dfAlike]
    | cons v vs =>
      by_cases hv : v.plain = .null
      · have hk := null_kind v hv
        simp [frFt, toFt, hv, dfOf, hk, dfAlike]
      · have e : (frFt (frA d) (toFt (toA d) ⟨n, r, v :: vs⟩)).dflt = [v.clean] := by
          simp only [frFt, toFt]
          rw [back_plain]
        rw [e, dfOf_kind, dfOf_kind, clean_clean]
        by_cases hk : v.clean.kindOf = 0
        · simp [hk, dfAlike]
        · simp [hk, dfAlike, svSame, clean_clean, same_refl]
  simp only [ftAlike, Bool.and_eq_true, beq_iff_eq]
  exact ⟨rfl, hd.1, rf_rt h r, hd.2⟩
theorem fts_rt {d : Nat} (h : ∀ a, aAlike svSame d (frA d (toA d a)) a = true) : ∀ l : List (FtOf A), all2b (ftAlike svSame (aAlike svSame d)) ((l.map (toFt (toA d))).map (frFt (frA d))) l = true
  | [] => rfl
  | x :: l => by simp only [List.map_cons, all2b, ft_rt h, fts_rt h l, Bool.and_self]
theorem lt_rt {d : Nat} (h : ∀ a, aAlike svSame d (frA d (toA d a)) a = true) (x : LtOf A) : ltAlike (aAlike svSame d) (frLt (frA d) (toLt (toA d) x)) x = true := by
  have e : (frLt (frA d) (toLt (toA d) x)).elem = frRf (frA d) (toRf (toA d) x.elem) := rfl
  simp only [ltAlike, e, rf_rt h, Bool.and_true]
  simp [frLt, toLt]
theorem mt_rt {d : Nat} (h : ∀ a, aAlike svSame d (frA d (toA d a)) a = true) (x : MtOf A) : mtAlike svSame (aAlike svSame d) (frMt (frA d) (toMt (toA d) x)) x = true := by
  have e : (frMt (frA d) (toMt (toA d) x)).elem = frRf (frA d) (toRf (toA d) x.elem) := rfl
  have e2 : (frMt (frA d) (toMt (toA d) x)).fields = (x.fields.map (toFt (toA d))).map (frFt (frA d)) := rfl
  have e3 : (frMt (frA d) (toMt (toA d) x)).rel = x.rel := rfl
  simp only [mtAlike, e, e2, e3, rf_rt h, fts_rt h, Bool.and_true, BEq.rfl, List.length_map]
theorem a_rt (d : Nat) (a : A) : aAlike svSame d (frA d (toA d a)) a = true := by
  induction d generalizing a with
  | zero => rfl
  | succ d ih =>
    obtain ⟨s, ls, ms⟩ := a
    have h1 : (if s = ⟨#[]⟩ then none else some s).getD ⟨#[]⟩ = s := by by_cases h : s = ⟨#[]⟩ <;> simp [h]
    show al5 svSame (aAlike svSame d) ((if s = ⟨#[]⟩ then none else some s).getD ⟨#[]⟩) s (((ls.head?.map (toLt (toA d))).map (frLt (frA d))).toList.take 1) (ls.take 1) (((ms.head?.map (toMt (toA d))).map (frMt (frA d))).toList.take 1) (ms.take 1) = true
    rw [h1]
    have hl : all2b (ltAlike (aAlike svSame d)) (((ls.head?.map (toLt (toA d))).map (frLt (frA d))).toList.take 1) (ls.take 1) = true := by
      cases ls with
      | nil => rfl
      | cons x l => simp [all2b, lt_rt ih]
    have hm : all2b (mtAlike svSame (aAlike svSame d)) (((ms.head?.map (toMt (toA d))).map (frMt (frA d))).toList.take 1) (ms.take 1) = true := by
      cases ms with
      | nil => rfl
      | cons x l => simp [all2b, mt_rt ih]
    simp only [al5, hl, hm, all2b_len hl, all2b_len hm, BEq.rfl, Bool.and_self]

/-- laws.narrowed, of the kind of the value -/
def nwA (k : Int) : A → A
  | .mk s ls ms => if k < 3 ∧ s ≠ ⟨#[]⟩ then .mk s [] [] else if k = 3 ∧ 0 < ls.length then .mk ⟨#[]⟩ (ls.take 1) [] else if k = 4 ∧ 0 < ms.length then .mk ⟨#[]⟩ [] (ms.take 1) else .mk s ls ms
/-- deduceAtom -/
def ddS (t : T) : SA → SA
  | .mk s l m => if t.isFloat || t.isInt || t.isString || t.isBool then (if s.isSome then .mk s none none else .mk s l m) else if t.isList then (if l.isSome then .mk none l none else .mk s l m)
    else if t.isMap then (if m.isSome then .mk none none m else .mk s l m) else .mk s l m
/-- laws.kindOf of a value's kind -/
def kk (k : Int) : Int := if k = 2 then 0 else if k = 3 then 0 else if k = 4 then 1 else if k = 1 then 2 else if k = 5 then 3 else if k = 6 then 4 else 5

theorem dd_nw (d : Nat) (a : A) (t : T) : ddS t (toA (d + 1) a) = toA (d + 1) (nwA (kk t.back.kindOf) a) := by
  obtain ⟨s, ls, ms⟩ := a
  cases t <;> cases ls <;> cases ms <;> by_cases hs : s = ⟨#[]⟩ <;> simp [ddS, toA, toAt, nwA, kk, T.back, V.kindOf, T.isFloat, T.isInt, T.isString, T.isBool, T.isList, T.isMap, hs]

end Go.Proofs.Ytmihdlbcjiaibaa
