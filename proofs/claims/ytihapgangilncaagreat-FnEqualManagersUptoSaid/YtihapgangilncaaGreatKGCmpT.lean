/- The order of values, of bytes and of sorted fields: what spec.comparePlain and spec.CompareStrings compute, and how two sorted lists of fields are compared along the union of their keys: plain Lean. The order of values over trees, kind by kind: plain Lean. -/
import Derived.Test.YtihapgangilncaaGreatKGEqL
import Derived.Lib.Strings
namespace Go.Proofs.YtihapgangilncaaGreat
open Go.RowKit

def cmpI (a b : Int) : Int := if a < b then -1 else if b < a then 1 else 0
def cmpF (a b : Nat) : Int := match FloatKind.f64.format.order a b with | some .lt => -1 | some .gt => 1 | _ => 0
def cmpB : List UInt8 → List UInt8 → Int
  | [], [] => 0
  | [], _ :: _ => -1
  | _ :: _, [] => 1
  | a :: x, b :: y => if a = b then cmpB x y else cmpI a.toNat b.toNat
def cmpS (a b : ByteArray) : Int := cmpB a.data.toList b.data.toList

theorem cmpI_self (a : Int) : cmpI a a = 0 := by simp [cmpI]
theorem cmpI_neg (a b : Int) : cmpI b a = - cmpI a b := by
  simp only [cmpI]; split <;> split <;> (try split) <;> omega
theorem cmpI_zero {a b : Int} : cmpI a b = 0 ↔ a = b := by
  simp only [cmpI]; split <;> (try split) <;> omega

theorem cmpB_less : ∀ x y : List UInt8, cmpB x y = if Op.bytesLess x y then -1 else if Op.bytesLess y x then 1 else 0
  | [], [] => by simp [cmpB, Op.bytesLess]
  | [], _ :: _ => by simp [cmpB, Op.bytesLess]
  | _ :: _, [] => by simp [cmpB, Op.bytesLess]
  | a :: x, b :: y => by
    by_cases h : a = b
    · subst h
      simp [cmpB, Op.bytesLess, cmpB_less x y, UInt8.lt_irrefl]
    · have hb : (a == b) = false := beq_eq_false_iff_ne.2 h
      have hb2 : (b == a) = false := beq_eq_false_iff_ne.2 (Ne.symm h)
      simp only [cmpB, if_neg h, Op.bytesLess, hb, hb2, Bool.false_and, Bool.or_false, decide_eq_true_eq, cmpI, UInt8.lt_iff_toNat_lt, Int.ofNat_lt]
theorem cmpS_slt (a b : ByteArray) : cmpS a b = if slt a b then -1 else if slt b a then 1 else 0 := by
  rw [cmpS, cmpB_less, slt, slt, Lib.toList_data, Lib.toList_data]
theorem cmpS_self (a : ByteArray) : cmpS a a = 0 := by rw [cmpS_slt, slt_irrefl]; simp
theorem cmpS_lt {a b : ByteArray} (h : slt a b = true) : cmpS a b = -1 := by rw [cmpS_slt, h]; simp
theorem cmpS_gt {a b : ByteArray} (h : slt b a = true) : cmpS a b = 1 := by rw [cmpS_slt, h, slt_asymm h]; simp
theorem cmpS_zero {a b : ByteArray} : cmpS a b = 0 ↔ a = b := by
  constructor
  · intro h
    rw [cmpS_slt] at h
    cases h1 : slt a b <;> cases h2 : slt b a <;> simp [h1, h2] at h
    exact slt_total h1 h2
  · rintro rfl; exact cmpS_self a
theorem cmpS_neg (a b : ByteArray) : cmpS b a = - cmpS a b := by
  rw [cmpS_slt, cmpS_slt]
  cases h1 : slt a b <;> cases h2 : slt b a <;> simp
  rw [slt_asymm h1] at h2; cases h2

/-- at place k two strings that are alike so far -/
theorem cmpS_at {a b : ByteArray} {k : Nat} (h : cmpS a b = cmpB (a.data.toList.drop k) (b.data.toList.drop k)) (h1 : k < a.size) (h2 : k < b.size) :
    cmpS a b = if a[k] = b[k] then cmpB (a.data.toList.drop (k + 1)) (b.data.toList.drop (k + 1)) else cmpI a[k].toNat b[k].toNat := by
  have e1 : k < a.data.toList.length := by simpa using h1
  have e2 : k < b.data.toList.length := by simpa using h2
  rw [h, List.drop_eq_getElem_cons e1, List.drop_eq_getElem_cons e2]
  simp only [cmpB, Array.getElem_toList, ByteArray.getElem_eq_getElem_data]
theorem cmpS_end {a b : ByteArray} {k : Nat} (h : cmpS a b = cmpB (a.data.toList.drop k) (b.data.toList.drop k)) (h1 : k ≤ a.size) (h2 : k ≤ b.size) (h3 : k = a.size ∨ k = b.size) :
    cmpS a b = cmpI a.size b.size := by
  rw [h]
  have q1 : (a.data.toList.drop k).length = a.size - k := by simp
  have q2 : (b.data.toList.drop k).length = b.size - k := by simp
  generalize a.data.toList.drop k = x at q1
  generalize b.data.toList.drop k = y at q2
  cases x <;> cases y <;> simp at q1 q2 <;> simp only [cmpB, cmpI] <;> (repeat' split) <;> omega

/-- the rank of a kind -/
def rkK (k : Int) : Int := if k = 2 ∨ k = 3 then 0 else if k = 4 then 1 else if k = 1 then 2 else if k = 5 then 3 else if k = 6 then 4 else 5

mutual
def V.cmpP : V → V → Int
  | .mk k n f s ks l, .mk k2 n2 f2 s2 ks2 l2 =>
    if cmpI (rkK k) (rkK k2) ≠ 0 then cmpI (rkK k) (rkK k2)
    else if rkK k = 0 then (if k = 2 ∧ k2 = 2 then cmpI n n2 else cmpF (asF k n f) (asF k2 n2 f2))
    else if rkK k = 1 then cmpS s s2
    else if rkK k = 2 then cmpI n n2
    else if rkK k = 3 then V.cmpPL l l2
    else if rkK k = 4 then V.cmpPM ks l ks2 l2
    else 0
def V.cmpPL : List V → List V → Int
  | x :: l, y :: m => if V.cmpP x y ≠ 0 then V.cmpP x y else V.cmpPL l m
  | [], _ :: _ => -1
  | _ :: _, [] => 1
  | [], [] => 0
def V.cmpPM : List ByteArray → List V → List ByteArray → List V → Int
  | k :: ks, x :: l, k2 :: ks2, y :: m => if cmpS k k2 ≠ 0 then cmpS k k2 else if V.cmpP x y ≠ 0 then V.cmpP x y else V.cmpPM ks l ks2 m
  | ks, _, ks2, _ => cmpI ks.length ks2.length
end

/-- two sorted lists of fields: the first difference decides, the key ahead of the value -/
def cmpE {α : Type} (r : α → α → Int) : EntsOfT α → EntsOfT α → Int
  | [], [] => 0
  | [], _ :: _ => -1
  | _ :: _, [] => 1
  | p :: ps, q :: qs => if cmpS p.1 q.1 ≠ 0 then cmpS p.1 q.1 else if r p.2 q.2 ≠ 0 then r p.2 q.2 else cmpE r ps qs

theorem cmpPM_eq : ∀ (P Q : EntsOfT V), V.cmpPM (P.map (·.1)) (P.map (·.2)) (Q.map (·.1)) (Q.map (·.2)) = cmpE V.cmpP P Q
  | [], [] => by simp [V.cmpPM, cmpE, cmpI]
  | [], _ :: _ => by simp [V.cmpPM, cmpE, cmpI]
  | _ :: _, [] => by simp [V.cmpPM, cmpE, cmpI]; omega
  | p :: ps, q :: qs => by
    simp only [List.map_cons, V.cmpPM, cmpE, cmpPM_eq ps qs]

theorem lookK_append {α : Type} {k : ByteArray} : ∀ {a b : EntsOfT α}, k ∉ a.map (·.1) → lookK k (a ++ b) = lookK k b
  | [], _, _ => rfl
  | e :: a, b, h => by
    simp only [List.map_cons, List.mem_cons, not_or] at h
    simp only [List.cons_append, lookK]
    rw [if_neg h.1]
    exact lookK_append h.2
theorem rising_parts : ∀ {a b : List ByteArray}, Rising (a ++ b) → Rising b ∧ ∀ x ∈ a, ∀ y ∈ b, slt x y = true
  | [], _, h => ⟨h, by simp⟩
  | k :: a, b, h => by
    obtain ⟨h1, h2⟩ := h
    obtain ⟨h3, h4⟩ := rising_parts (a := a) (b := b) h2
    refine ⟨h3, fun x hx y hy => ?_⟩
    rcases List.mem_cons.1 hx with rfl | hx
    · exact h1 y (List.mem_append_right _ hy)
    · exact h4 x hx y hy

/-- the two lists are alike up to place j, along the union O of their keys -/
structure ZInv {α : Type} (r : α → α → Int) (O : List ByteArray) (P Q : EntsOfT α) (j : Nat) : Prop where
  lP : j ≤ P.length
  lQ : j ≤ Q.length
  eP : O.take j = (P.take j).map (·.1)
  eQ : O.take j = (Q.take j).map (·.1)
  c : cmpE r P Q = cmpE r (P.drop j) (Q.drop j)

structure ZOK {α : Type} (O : List ByteArray) (P Q : EntsOfT α) : Prop where
  rO : Rising O
  rP : Rising (P.map (·.1))
  rQ : Rising (Q.map (·.1))
  m : ∀ k, k ∈ O ↔ k ∈ P.map (·.1) ∨ k ∈ Q.map (·.1)

theorem ZInv.zero {α : Type} {r : α → α → Int} {O : List ByteArray} {P Q : EntsOfT α} : ZInv r O P Q 0 := ⟨by omega, by omega, by simp, by simp, by simp⟩

/-- what is left of the three lists -/
theorem ZInv.rest {α : Type} {r : α → α → Int} {O : List ByteArray} {P Q : EntsOfT α} {j : Nat} (z : ZOK O P Q) (h : ZInv r O P Q j) : ZOK (O.drop j) (P.drop j) (Q.drop j) ∧
    (∀ k ∈ O.drop j, lookK k P = lookK k (P.drop j) ∧ lookK k Q = lookK k (Q.drop j)) := by
  have hO : O.take j ++ O.drop j = O := List.take_append_drop _ _
  have hP : P.take j ++ P.drop j = P := List.take_append_drop _ _
  have hQ : Q.take j ++ Q.drop j = Q := List.take_append_drop _ _
  obtain ⟨o1, o2⟩ := rising_parts (a := O.take j) (b := O.drop j) (by rw [hO]; exact z.rO)
  obtain ⟨p1, p2⟩ := rising_parts (a := (P.take j).map (·.1)) (b := (P.drop j).map (·.1)) (by rw [← List.map_append, hP]; exact z.rP)
  obtain ⟨q1, q2⟩ := rising_parts (a := (Q.take j).map (·.1)) (b := (Q.drop j).map (·.1)) (by rw [← List.map_append, hQ]; exact z.rQ)
  have nO : ∀ k ∈ O.drop j, k ∉ O.take j := fun k h1 h2 => by
    have := o2 k h2 k h1; rw [slt_irrefl] at this; cases this
  have nP : ∀ k ∈ (P.drop j).map (·.1), k ∉ O.take j := fun k h1 h2 => by
    have := p2 k (h.eP ▸ h2) k h1; rw [slt_irrefl] at this; cases this
  have nQ : ∀ k ∈ (Q.drop j).map (·.1), k ∉ O.take j := fun k h1 h2 => by
    have := q2 k (h.eQ ▸ h2) k h1; rw [slt_irrefl] at this; cases this
  have mO : ∀ k, k ∈ O ↔ k ∈ O.take j ∨ k ∈ O.drop j := fun k => by rw [← List.mem_append, hO]
  have mP : ∀ k, k ∈ P.map (·.1) ↔ k ∈ O.take j ∨ k ∈ (P.drop j).map (·.1) := fun k => by rw [h.eP, ← List.mem_append, ← List.map_append, hP]
  have mQ : ∀ k, k ∈ Q.map (·.1) ↔ k ∈ O.take j ∨ k ∈ (Q.drop j).map (·.1) := fun k => by rw [h.eQ, ← List.mem_append, ← List.map_append, hQ]
  refine ⟨⟨o1, p1, q1, fun k => ?_⟩, fun k hk => ⟨?_, ?_⟩⟩
  · constructor
    · intro hk
      rcases (z.m k).1 ((mO k).2 (.inr hk)) with hp | hq
      · exact .inl (((mP k).1 hp).resolve_left (nO k hk))
      · exact .inr (((mQ k).1 hq).resolve_left (nO k hk))
    · rintro (hp | hq)
      · exact ((mO k).1 ((z.m k).2 (.inl ((mP k).2 (.inr hp))))).resolve_left (nP k hp)
      · exact ((mO k).1 ((z.m k).2 (.inr ((mQ k).2 (.inr hq))))).resolve_left (nQ k hq)
  · have := lookK_append (k := k) (a := P.take j) (b := P.drop j) (h.eP ▸ nO k hk)
    rwa [hP] at this
  · have := lookK_append (k := k) (a := Q.take j) (b := Q.drop j) (h.eQ ▸ nO k hk)
    rwa [hQ] at this

theorem rising_min {k x : ByteArray} {ks : List ByteArray} (h : Rising (k :: ks)) (hx : x ∈ k :: ks) : x = k ∨ slt k x = true := by
  rcases List.mem_cons.1 hx with rfl | hx
  · exact .inl rfl
  · exact .inr (h.1 x hx)
theorem lookK_low {α : Type} {k : ByteArray} {p : ByteArray × α} {ps : EntsOfT α} (h : Rising ((p :: ps).map (·.1))) (hk : slt k p.1 = true) : lookK k (p :: ps) = none := by
  rw [lookK_none]
  intro hm
  rcases rising_min h hm with rfl | h2
  · rw [slt_irrefl] at hk; cases hk
  · rw [slt_asymm hk] at h2; cases h2

/-- one step at the front of the three lists -/
theorem zip_front {α : Type} (r : α → α → Int) {k : ByteArray} {O : List ByteArray} {p q : ByteArray × α} {P Q : EntsOfT α} (z : ZOK (k :: O) (p :: P) (q :: Q)) :
    (lookK k (p :: P) = none ∧ cmpE r (p :: P) (q :: Q) = 1) ∨ (lookK k (p :: P) ≠ none ∧ lookK k (q :: Q) = none ∧ cmpE r (p :: P) (q :: Q) = -1) ∨
      (p.1 = k ∧ q.1 = k ∧ lookK k (p :: P) = some p.2 ∧ lookK k (q :: Q) = some q.2) := by
  have hp := rising_min z.rO ((z.m p.1).2 (.inl (by simp)))
  have hq := rising_min z.rO ((z.m q.1).2 (.inr (by simp)))
  have hk := (z.m k).1 (by simp)
  rcases hp with hp | hp
  · rcases hq with hq | hq
    · exact .inr (.inr ⟨hp, hq, by simp [lookK, hp], by simp [lookK, hq]⟩)
    · refine .inr (.inl ⟨by simp [lookK, hp], lookK_low z.rQ hq, ?_⟩)
      have := cmpS_lt (a := p.1) (b := q.1) (by rw [hp]; exact hq)
      simp [cmpE, this]
  · refine .inl ⟨lookK_low z.rP hp, ?_⟩
    have hq2 : q.1 = k := by
      rcases hq with hq | hq
      · exact hq
      · exfalso
        rcases hk with hk | hk
        · exact lookK_none.1 (lookK_low z.rP hp) hk
        · exact lookK_none.1 (lookK_low z.rQ hq) hk
    have := cmpS_gt (a := p.1) (b := q.1) (by rw [hq2]; exact hp)
    simp [cmpE, this]

/-- one step along the union of the keys -/
theorem ZInv.step {α : Type} {r : α → α → Int} {O : List ByteArray} {P Q : EntsOfT α} {j : Nat} (z : ZOK O P Q) (h : ZInv r O P Q j) (hj : j < O.length) :
    (j = P.length ∧ cmpE r P Q = -1) ∨ (j < P.length ∧ j = Q.length ∧ cmpE r P Q = 1) ∨
      (j < P.length ∧ j < Q.length ∧ ((lookK O[j] P = none ∧ cmpE r P Q = 1) ∨ (lookK O[j] P ≠ none ∧ lookK O[j] Q = none ∧ cmpE r P Q = -1) ∨
        ∃ x y, lookK O[j] P = some x ∧ lookK O[j] Q = some y ∧ (r x y ≠ 0 → cmpE r P Q = r x y) ∧ (r x y = 0 → ZInv r O P Q (j + 1)))) := by
  obtain ⟨z2, hl⟩ := h.rest z
  have eO : O.drop j = O[j] :: O.drop (j + 1) := List.drop_eq_getElem_cons hj
  obtain ⟨l1, l2⟩ := hl O[j] (by rw [eO]; exact List.mem_cons_self)
  by_cases hP : j < P.length
  · have eP : P.drop j = P[j] :: P.drop (j + 1) := List.drop_eq_getElem_cons hP
    by_cases hQ : j < Q.length
    · have eQ : Q.drop j = Q[j] :: Q.drop (j + 1) := List.drop_eq_getElem_cons hQ
      refine .inr (.inr ⟨hP, hQ, ?_⟩)
      rw [eO, eP, eQ] at z2
      rw [l1, l2, h.c, eP, eQ]
      rcases zip_front r z2 with h1 | h1 | ⟨h1, h2, h3, h4⟩
      · exact .inl h1
      · exact .inr (.inl h1)
      · refine .inr (.inr ⟨_, _, h3, h4, fun hr => ?_, fun hr => ?_⟩)
        · simp only [cmpE]; rw [h1, h2, cmpS_self]; simp [hr]
        · refine ⟨hP, hQ, ?_, ?_, ?_⟩
          · rw [List.take_succ_eq_append_getElem hj, List.take_succ_eq_append_getElem hP, List.map_append, h.eP]; simp [h1]
          · rw [List.take_succ_eq_append_getElem hj, List.take_succ_eq_append_getElem hQ, List.map_append, h.eQ]; simp [h2]
          · rw [h.c, eP, eQ]; simp only [cmpE]; rw [h1, h2, cmpS_self]; simp [hr]
    · have e : j = Q.length := by have := h.lQ; omega
      have eQ : Q.drop j = [] := by simp [e]
      exact .inr (.inl ⟨hP, e, by rw [h.c, eP, eQ]; rfl⟩)
  · have e : j = P.length := by have := h.lP; omega
    have eP : P.drop j = [] := by simp [e]
    refine .inl ⟨e, ?_⟩
    rw [h.c, eP]
    cases hq : Q.drop j with
    | nil =>
      have := (z2.m O[j]).1 (by rw [eO]; exact List.mem_cons_self)
      rw [eP, hq] at this
      simp at this
    | cons q Q' => rfl
theorem ZInv.last {α : Type} {r : α → α → Int} {O : List ByteArray} {P Q : EntsOfT α} {j : Nat} (z : ZOK O P Q) (h : ZInv r O P Q j) (hj : O.length ≤ j) : cmpE r P Q = 0 := by
  obtain ⟨z2, -⟩ := h.rest z
  have eO : O.drop j = [] := by simp [hj]
  rw [eO] at z2
  rw [h.c]
  cases hp : P.drop j with
  | cons p P' => have := (z2.m p.1).2 (.inl (by rw [hp]; simp)); simp at this
  | nil =>
    cases hq : Q.drop j with
    | cons q Q' => have := (z2.m q.1).2 (.inr (by rw [hq]; simp)); simp at this
    | nil => rfl
end Go.Proofs.YtihapgangilncaaGreat
namespace Go.Proofs.YtihapgangilncaaGreat
open Go.RowKit
set_option linter.unusedSimpArgs false

/-- what CompareUsing computes over trees -/
def cmpT (a b : T) : Int := V.cmpP a.back b.back

def T.rk : T → Int
  | .null => 5
  | .bool _ => 2
  | .int _ => 0
  | .float _ => 0
  | .str _ => 1
  | .list _ => 3
  | .map _ _ => 4

theorem cmpT_rk {a b : T} (h : a.rk ≠ b.rk) : cmpT a b = cmpI a.rk b.rk := by
  cases a <;> cases b <;> simp_all [cmpT, T.back, V.cmpP, T.rk, rkK, cmpI]
theorem cmpT_lt {a b : T} (h : a.rk < b.rk) : cmpT a b = -1 := by
  rw [cmpT_rk (by omega), cmpI, if_pos h]
theorem cmpT_gt {a b : T} (h : b.rk < a.rk) : cmpT a b = 1 := by
  rw [cmpT_rk (by omega), cmpI, if_neg (by omega), if_pos h]
theorem cmpT_int (m n : Int) : cmpT (.int m) (.int n) = cmpI m n := by simp [cmpT, T.back, V.cmpP, rkK, cmpI_self]
theorem cmpT_fi (f : Nat) (n : Int) : cmpT (.float f) (.int n) = cmpF f (toF n) := by simp [cmpT, T.back, V.cmpP, rkK, cmpI_self, asF]
theorem cmpT_if (f : Nat) (n : Int) : cmpT (.int n) (.float f) = cmpF (toF n) f := by simp [cmpT, T.back, V.cmpP, rkK, cmpI_self, asF]
theorem cmpT_ff (f g : Nat) : cmpT (.float f) (.float g) = cmpF f g := by simp [cmpT, T.back, V.cmpP, rkK, cmpI_self, asF]
theorem cmpT_str (s t : ByteArray) : cmpT (.str s) (.str t) = cmpS s t := by simp [cmpT, T.back, V.cmpP, rkK, cmpI_self]
theorem cmpT_bool (b c : Bool) : cmpT (.bool b) (.bool c) = if b = c then 0 else if b then 1 else -1 := by cases b <;> cases c <;> simp [cmpT, T.back, V.cmpP, rkK, cmpI]
theorem cmpT_null : cmpT .null .null = 0 := by simp [cmpT, T.back, V.cmpP, rkK, cmpI_self]

/-- lists -/
def cmpTs : List T → List T → Int
  | x :: l, y :: m => if cmpT x y ≠ 0 then cmpT x y else cmpTs l m
  | [], _ :: _ => -1
  | _ :: _, [] => 1
  | [], [] => 0
theorem cmpTs_eq : ∀ m l : List T, V.cmpPL (T.backL m) (T.backL l) = cmpTs m l
  | [], [] => by simp [T.backL, V.cmpPL, cmpTs]
  | [], _ :: _ => by simp [T.backL, V.cmpPL, cmpTs]
  | _ :: _, [] => by simp [T.backL, V.cmpPL, cmpTs]
  | x :: m, y :: l => by simp only [T.backL, V.cmpPL, cmpTs, cmpTs_eq m l, cmpT]; rfl
theorem cmpT_list (m l : List T) : cmpT (.list m) (.list l) = cmpTs m l := by
  rw [← cmpTs_eq]; simp [cmpT, T.back, V.cmpP, rkK, cmpI_self]
theorem cmpTs_at {m l : List T} {k : Nat} (h : cmpTs m l = cmpTs (m.drop k) (l.drop k)) (h1 : k < m.length) (h2 : k < l.length) :
    cmpTs m l = if cmpT m[k] l[k] ≠ 0 then cmpT m[k] l[k] else cmpTs (m.drop (k + 1)) (l.drop (k + 1)) := by
  rw [h, List.drop_eq_getElem_cons h1, List.drop_eq_getElem_cons h2]
  simp only [cmpTs]
theorem cmpTs_short {m l : List T} {k : Nat} (h : cmpTs m l = cmpTs (m.drop k) (l.drop k)) (h1 : ¬ k < m.length) (h2 : k < l.length) : cmpTs m l = -1 := by
  rw [h, List.drop_eq_nil_of_le (Nat.le_of_not_lt h1), List.drop_eq_getElem_cons h2]; rfl
theorem cmpTs_long {m l : List T} {k : Nat} (h : cmpTs m l = cmpTs (m.drop k) (l.drop k)) (h1 : k < m.length) (h2 : ¬ k < l.length) : cmpTs m l = 1 := by
  rw [h, List.drop_eq_nil_of_le (Nat.le_of_not_lt h2), List.drop_eq_getElem_cons h1]; rfl
theorem cmpTs_same {m l : List T} {k : Nat} (h : cmpTs m l = cmpTs (m.drop k) (l.drop k)) (h1 : ¬ k < m.length) (h2 : ¬ k < l.length) : cmpTs m l = 0 := by
  rw [h, List.drop_eq_nil_of_le (Nat.le_of_not_lt h2), List.drop_eq_nil_of_le (Nat.le_of_not_lt h1)]; rfl

/-- maps -/
theorem cmpE_map {α β : Type} (f : α → β) (r : β → β → Int) : ∀ P Q : EntsOfT α, cmpE r (P.map fun p => (p.1, f p.2)) (Q.map fun p => (p.1, f p.2)) = cmpE (fun x y => r (f x) (f y)) P Q
  | [], [] => rfl
  | [], _ :: _ => rfl
  | _ :: _, [] => rfl
  | p :: ps, q :: qs => by simp only [List.map_cons, cmpE, cmpE_map f r ps qs]
theorem cmpT_map (ks js : List ByteArray) (l m : List T) : cmpT (.map ks l) (.map js m) = cmpE cmpT (insAll [] (ks.zip l)) (insAll [] (js.zip m)) := by
  have e : ∀ (ks : List ByteArray) (l : List T), insAll [] (ks.zip (T.backL l)) = (insAll [] (ks.zip l)).map fun p => (p.1, p.2.back) := fun ks l => by
    rw [insAll_map, T.backL_eq, zip_map_right]
  have : cmpT (.map ks l) (.map js m) = cmpE V.cmpP (insAll [] (ks.zip (T.backL l))) (insAll [] (js.zip (T.backL m))) := by
    rw [← cmpPM_eq]; simp [cmpT, T.back, V.cmpP, rkK, cmpI_self]
  rw [this, e, e, cmpE_map]
  rfl

/-- the union of two maps' keys, sorted -/
theorem zok_maps {P Q : EntsOfT T} {O : List ByteArray} (hO : Rising O) (hm : ∀ k, k ∈ O ↔ k ∈ P.map (·.1) ∨ k ∈ Q.map (·.1)) (hP : (P.map (·.1)).Nodup) (hQ : (Q.map (·.1)).Nodup) : ZOK O (insAll [] P) (insAll [] Q) where
  rO := hO
  rP := insAll_rising P trivial
  rQ := insAll_rising Q trivial
  m := fun k => by rw [hm, sort_keys, sort_keys, putAll_self hP, putAll_self hQ]
end Go.Proofs.YtihapgangilncaaGreat
