/- impl.sortedKeys: the keys of a map in increasing order. -/
import Derived.Test.YtihapgangilncaaGreatKGBack
import Derived.Test.YtihapgangilncaaGreatKGStr
import Derived.IntWalk
import Derived.Laws.OwnMore
namespace Go.Proofs.YtihapgangilncaaGreat
open Go.RowKit

theorem rising_append {a b : List ByteArray} (ha : Rising a) (hb : Rising b) (h : ∀ x ∈ a, ∀ y ∈ b, slt x y = true) : Rising (a ++ b) := by
  induction a with
  | nil => exact hb
  | cons x a ih =>
    refine ⟨fun y hy => ?_, ih ha.2 (fun x hx => h x (by simp [hx]))⟩
    rcases List.mem_append.1 hy with hy | hy
    · exact ha.1 y hy
    · exact h x (by simp) y hy
theorem Rising.left {a b : List ByteArray} (h : Rising (a ++ b)) : Rising a := by
  induction a with
  | nil => trivial
  | cons x a ih => exact ⟨fun y hy => h.1 y (by simp [hy]), ih h.2⟩
theorem Rising.right {a b : List ByteArray} (h : Rising (a ++ b)) : Rising b := by
  induction a with
  | nil => exact h
  | cons x a ih => exact ih h.2
theorem rising_put {A : List ByteArray} {k : ByteArray} {i : Nat} (hA : Rising A) (h1 : ∀ x ∈ A.take i, slt x k = true) (h2 : ∀ x ∈ A.drop i, slt k x = true) : Rising (A.take i ++ k :: A.drop i) := by
  have hs : Rising (A.take i ++ A.drop i) := by rw [List.take_append_drop]; exact hA
  refine rising_append hs.left ⟨h2, hs.right⟩ (fun x hx y hy => ?_)
  rcases List.mem_cons.1 hy with rfl | hy
  · exact h1 x hx
  · exact slt_trans (h1 x hx) (h2 y hy)

theorem swap_put {α : Type} (l : List α) (e : α) (m : Nat) (h : m < l.length) : ((l.take (m + 1) ++ e :: l.drop (m + 1)).set (m + 1) (l[m])).set m e = l.take m ++ e :: l.drop m := by
  have h1 : l.take (m + 1) = l.take m ++ [l[m]] := List.take_succ_eq_append_getElem h
  have h2 : l.drop m = l[m] :: l.drop (m + 1) := List.drop_eq_getElem_cons h
  have h3 : (l.take m).length = m := by simp; omega
  rw [h1, h2, List.append_assoc, List.set_append_right _ _ (by rw [h3]; omega), h3, show m + 1 - m = 1 from by omega, List.set_append_right _ _ (by rw [h3]; exact Nat.le_refl _), h3, Nat.sub_self]
  rfl
theorem put_rising {ks : List ByteArray} {e : ByteArray} {j : Nat} (hr : Rising ks) (hne : e ∉ ks) (hgt : ∀ x ∈ ks.drop j, slt e x = true) (hlo : j = 0 ∨ ∃ m, ∃ h : m < ks.length, j = m + 1 ∧ slt e (ks[m]) = false) : Rising (ks.take j ++ e :: ks.drop j) := by
  refine rising_put hr (fun x hx => ?_) hgt
  rcases hlo with rfl | ⟨m, hm, rfl, hs⟩
  · simp at hx
  · have hlast : slt (ks[m]) e = true := by
      cases h : slt (ks[m]) e with
      | true => rfl
      | false => exact absurd (slt_total hs h ▸ List.getElem_mem hm) hne
    obtain ⟨a, ha, rfl⟩ := List.getElem_of_mem hx
    simp only [List.length_take] at ha
    rw [List.getElem_take]
    by_cases e1 : a = m
    · subst e1; exact hlast
    · exact slt_trans (hr.lt a m (by omega) hm) hlast
end Go.Proofs.YtihapgangilncaaGreat
