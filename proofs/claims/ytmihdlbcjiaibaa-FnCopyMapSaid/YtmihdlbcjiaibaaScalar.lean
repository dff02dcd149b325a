/- Which values are allowed as scalars. -/
import Derived.Test.YtmihdlbcjiaibaaVal
namespace Go.Proofs.Ytmihdlbcjiaibaa
open Go.RowKit

/-- is a tree allowed as a scalar of the kind that the word names -/
def scalarOk (word : List UInt8) (t : T) : Bool :=
  t.isNull || (if word == [110, 117, 109, 101, 114, 105, 99] then t.isFloat || t.isInt else if word == [115, 116, 114, 105, 110, 103] then t.isString else if word == [98, 111, 111, 108, 101, 97, 110] then t.isBool
    else if word == [117, 110, 116, 121, 112, 101, 100] then t.isFloat || t.isInt || t.isString || t.isBool else false)

set_option maxRecDepth 100000 in
set_option maxHeartbeats 2000000 in
theorem validateScalar_c {w : World} {X : List Nat} {v : Value} {t : T} (hx : IsVal w X v t) (word nm : ByteArray) (b : Nat) (hb : w.cell? ⟨b, 0, none⟩ = some (.string word)) (R : Ending → World → Prop)
    (hR : ∀ w' v, Ext w w' → (if scalarOk word.toList t then v = .slice none 0 0 else ∃ a, v = .slice a 1 1) → R (.returned v) w') :
    Calls Try.prog 74 #[.pointer (some ⟨b, 0, none⟩), v, .string nm] w R := by
  have hR' := Lib.hid hR
  clear hR
  obtain ⟨vb, x, rfl, h2, h3, h4⟩ := hx.ex
  have hbs : b < w.heap.size := by
    by_cases hlt : b < w.heap.size
    · exact hlt
    · simp [World.cell?, Array.getElem?_eq_none (Nat.le_of_not_lt hlt)] at hb
  have hbv : vb < w.heap.size := (Array.getElem?_eq_some_iff.1 h2).1
  have hc := cells_of h2 0
  have hA : Ext w w := .refl w
  go_enter Try.func74, Try.ntmps74
  go_wp2_with (first | (go_at_call 151; refine isNull_c h4 _ ?_; intro w1 hE; dsimp only; replace hA := hA.trans hE; replace hc := (hE.cells.1 _ _ hbv).trans hc; replace hb := (hE.cells.1 _ _ hbs).trans hb; replace hbv := Nat.lt_of_lt_of_le hbv hE.size; replace hbs := Nat.lt_of_lt_of_le hbs hE.size; clear hE) | (go_at_call 147; refine isFloat_c h4 _ ?_; intro w1 hE; dsimp only; replace hA := hA.trans hE; replace hc := (hE.cells.1 _ _ hbv).trans hc; replace hb := (hE.cells.1 _ _ hbs).trans hb; replace hbv := Nat.lt_of_lt_of_le hbv hE.size; replace hbs := Nat.lt_of_lt_of_le hbs hE.size; clear hE) | (go_at_call 148; refine isInt_c h4 _ ?_; intro w1 hE; dsimp only; replace hA := hA.trans hE; replace hc := (hE.cells.1 _ _ hbv).trans hc; replace hb := (hE.cells.1 _ _ hbs).trans hb; replace hbv := Nat.lt_of_lt_of_le hbv hE.size; replace hbs := Nat.lt_of_lt_of_le hbs hE.size; clear hE) | (go_at_call 152; refine isString_c h4 _ ?_; intro w1 hE; dsimp only; replace hA := hA.trans hE; replace hc := (hE.cells.1 _ _ hbv).trans hc; replace hb := (hE.cells.1 _ _ hbs).trans hb; replace hbv := Nat.lt_of_lt_of_le hbv hE.size; replace hbs := Nat.lt_of_lt_of_le hbs hE.size; clear hE) | (go_at_call 146; refine isBool_c h4 _ ?_; intro w1 hE; dsimp only; replace hA := hA.trans hE; replace hc := (hE.cells.1 _ _ hbv).trans hc; replace hb := (hE.cells.1 _ _ hbs).trans hb; replace hbv := Nat.lt_of_lt_of_le hbv hE.size; replace hbs := Nat.lt_of_lt_of_le hbs hE.size; clear hE) | go_in)
  all_goals (
    refine hR'.out _ _ (by first | exact hA | exact hA.push _) ?_
    first
      | (rw [if_pos (by simp_all [scalarOk])]; rfl)
      | (rw [if_neg (by simp_all [scalarOk])]; exact ⟨_, rfl⟩))

end Go.Proofs.Ytmihdlbcjiaibaa
