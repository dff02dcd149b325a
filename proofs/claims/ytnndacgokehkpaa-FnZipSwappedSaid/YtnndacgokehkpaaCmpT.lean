/- The order of values over trees, kind by kind: plain Lean. -/
import Derived.Test.YtnndacgokehkpaaCmp
namespace Go.Proofs.Ytnndacgokehkpaa
open Go.RowKit
set_option linter.unusedSimpArgs false

/-- what CompareUsing computes over trees -/
def cmpT (a b : T) : Int := V.cmpP a.back b.back

def T.rk : T → Int
  | .null => 5
  | .bool _ => 2
  | .int _ => 0
  | .float _ => 0
  | .str _ => 1
  | .list _ => 3
  | .map _ _ => 4

theorem cmpT_rk {a b : T} (h : a.rk ≠ b.rk) : cmpT a b = cmpI a.rk b.rk := by
  cases a <;> cases b <;> simp_all [cmpT, T.back, V.cmpP, T.rk, rkK, cmpI]
theorem cmpT_lt {a b : T} (h : a.rk < b.rk) : cmpT a b = -1 := by
  rw [cmpT_rk (by omega), cmpI, if_pos h]
theorem cmpT_gt {a b : T} (h : b.rk < a.rk) : cmpT a b = 1 := by
  rw [cmpT_rk (by omega), cmpI, if_neg (by omega), if_pos h]
theorem cmpT_int (m n : Int) : cmpT (.int m) (.int n) = cmpI m n := by simp [cmpT, T.back, V.cmpP, rkK, cmpI_self]
theorem cmpT_fi (f : Nat) (n : Int) : cmpT (.float f) (.int n) = cmpF f (toF n) := by simp [cmpT, T.back, V.cmpP, rkK, cmpI_self, asF]
theorem cmpT_if (f : Nat) (n : Int) : cmpT (.int n) (.float f) = cmpF (toF n) f := by simp [cmpT, T.back, V.cmpP, rkK, cmpI_self, asF]
theorem cmpT_ff (f g : Nat) : cmpT (.float f) (.float g) = cmpF f g := by simp [cmpT, T.back, V.cmpP, rkK, cmpI_self, asF]
theorem cmpT_str (s t : ByteArray) : cmpT (.str s) (.str t) = cmpS s t := by simp [cmpT, T.back, V.cmpP, rkK, cmpI_self]
theorem cmpT_bool (b c : Bool) : cmpT (.bool b) (.bool c) = if b = c then 0 else if b then 1 else -1 := by cases b <;> cases c <;> simp [cmpT, T.back, V.cmpP, rkK, cmpI]
theorem cmpT_null : cmpT .null .null = 0 := by simp [cmpT, T.back, V.cmpP, rkK, cmpI_self]

/-- lists -/
def cmpTs : List T → List T → Int
  | x :: l, y :: m => if cmpT x y ≠ 0 then cmpT x y else cmpTs l m
  | [], _ :: _ => -1
  | _ :: _, [] => 1
  | [], [] => 0
theorem cmpTs_eq : ∀ m l : List T, V.cmpPL (T.backL m) (T.backL l) = cmpTs m l
  | [], [] => by simp [T.backL, V.cmpPL, cmpTs]
  | [], _ :: _ => by simp [T.backL, V.cmpPL, cmpTs]
  | _ :: _, [] => by simp [T.backL, V.cmpPL, cmpTs]
  | x :: m, y :: l => by simp only [T.backL, V.cmpPL, cmpTs, cmpTs_eq m l, cmpT]; rfl
theorem cmpT_list (m l : List T) : cmpT (.list m) (.list l) = cmpTs m l := by
  rw [← cmpTs_eq]; simp [cmpT, T.back, V.cmpP, rkK, cmpI_self]
theorem cmpTs_at {m l : List T} {k : Nat} (h : cmpTs m l = cmpTs (m.drop k) (l.drop k)) (h1 : k < m.length) (h2 : k < l.length) :
    cmpTs m l = if cmpT m[k] l[k] ≠ 0 then cmpT m[k] l[k] else cmpTs (m.drop (k + 1)) (l.drop (k + 1)) := by
  rw [h, List.drop_eq_getElem_cons h1, List.drop_eq_getElem_cons h2]
  simp only [cmpTs]
theorem cmpTs_short {m l : List T} {k : Nat} (h : cmpTs m l = cmpTs (m.drop k) (l.drop k)) (h1 : ¬ k < m.length) (h2 : k < l.length) : cmpTs m l = -1 := by
  rw [h, List.drop_eq_nil_of_le (Nat.le_of_not_lt h1), List.drop_eq_getElem_cons h2]; rfl
theorem cmpTs_long {m l : List T} {k : Nat} (h : cmpTs m l = cmpTs (m.drop k) (l.drop k)) (h1 : k < m.length) (h2 : ¬ k < l.length) : cmpTs m l = 1 := by
  rw [h, List.drop_eq_nil_of_le (Nat.le_of_not_lt h2), List.drop_eq_getElem_cons h1]; rfl
theorem cmpTs_same {m l : List T} {k : Nat} (h : cmpTs m l = cmpTs (m.drop k) (l.drop k)) (h1 : ¬ k < m.length) (h2 : ¬ k < l.length) : cmpTs m l = 0 := by
  rw [h, List.drop_eq_nil_of_le (Nat.le_of_not_lt h2), List.drop_eq_nil_of_le (Nat.le_of_not_lt h1)]; rfl

/-- maps -/
theorem cmpE_map {α β : Type} (f : α → β) (r : β → β → Int) : ∀ P Q : EntsOfT α, cmpE r (P.map fun p => (p.1, f p.2)) (Q.map fun p => (p.1, f p.2)) = cmpE (fun x y => r (f x) (f y)) P Q
  | [], [] => rfl
  | [], _ :: _ => rfl
  | _ :: _, [] => rfl
  | p :: ps, q :: qs => by simp only [List.map_cons, cmpE, cmpE_map f r ps qs]
theorem cmpT_map (ks js : List ByteArray) (l m : List T) : cmpT (.map ks l) (.map js m) = cmpE cmpT (insAll [] (ks.zip l)) (insAll [] (js.zip m)) := by
  have e : ∀ (ks : List ByteArray) (l : List T), insAll [] (ks.zip (T.backL l)) = (insAll [] (ks.zip l)).map fun p => (p.1, p.2.back) := fun ks l => by
    rw [insAll_map, T.backL_eq, zip_map_right]
  have : cmpT (.map ks l) (.map js m) = cmpE V.cmpP (insAll [] (ks.zip (T.backL l))) (insAll [] (js.zip (T.backL m))) := by
    rw [← cmpPM_eq]; simp [cmpT, T.back, V.cmpP, rkK, cmpI_self]
  rw [this, e, e, cmpE_map]
  rfl

/-- the union of two maps' keys, sorted -/
theorem zok_maps {P Q : EntsOfT T} {O : List ByteArray} (hO : Rising O) (hm : ∀ k, k ∈ O ↔ k ∈ P.map (·.1) ∨ k ∈ Q.map (·.1)) (hP : (P.map (·.1)).Nodup) (hQ : (Q.map (·.1)).Nodup) : ZOK O (insAll [] P) (insAll [] Q) where
  rO := hO
  rP := insAll_rising P trivial
  rQ := insAll_rising Q trivial
  m := fun k => by rw [hm, sort_keys, sort_keys, putAll_self hP, putAll_self hQ]
end Go.Proofs.Ytnndacgokehkpaa
