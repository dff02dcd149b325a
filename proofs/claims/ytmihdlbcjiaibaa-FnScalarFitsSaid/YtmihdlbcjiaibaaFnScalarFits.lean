/- FnScalarFits. -/
import Derived.Test.YtmihdlbcjiaibaaFits
import Derived.Test.YtmihdlbcjiaibaaClean
import Derived.Test.YtmihdlbcjiaibaaLaw
import Derived.Test.YtmihdlbcjiaibaaRead
namespace Go.Proofs.Ytmihdlbcjiaibaa
open Go.ChangeShapes Go.WideShapes Go.ChangeAt Go.RowKit

theorem clean_kind (v : V) : ∃ (k n : Int) (f : Nat) (s : ByteArray) (keys : List ByteArray) (l : List V), v.clean = .mk k n f s keys l ∧ (k = 0 ∨ k = 1 ∨ k = 2 ∨ k = 3 ∨ k = 4 ∨ k = 5 ∨ k = 6) := by
  obtain ⟨kind, n, f, s, keys, l⟩ := v
  simp only [V.clean]
  repeat' split
  all_goals exact ⟨_, _, _, _, _, _, rfl, by simp⟩

set_option maxRecDepth 100000 in
set_option maxHeartbeats 2000000 in
theorem scalarFits_law {w : World} {cs : List Value} {v : V} (hv : IsV w [] cs v) (word : ByteArray) :
    Calls Try.prog 4 #[.string word, .agg cs.toArray] w fun e w' => e = .returned (.bool true) ∧ Below w.heap.size w w' := by
  obtain ⟨x, rfl⟩ := hv.shape
  have hv' := Lib.hid hv
  clear hv
  have hR' : Hid (Ends (fun e w' => e = .returned (.bool true) ∧ Below w.heap.size w w') w (.bool true)) := fun w' h => ⟨rfl, h⟩
  generalize (fun e w' => e = Ending.returned (.bool true) ∧ Below w.heap.size w w') = R at hR' ⊢
  simp only [Cells6.list]
  go_enter Try.func4, Try.ntmps4
  go_wp2_with fail
  rotate_left
  · exact hR'.out _ (.alloc _ _)
  · refine abs1 (G := fun wr => Calls _ _ _ wr _) ?_
    intro w1 hE1 hb1 hs1
    refine zzFits5_any (hv'.out.mv (hE1.mv [])) _ ?_
    intro b w2 hE2
    dsimp only
    have hb2 : w2.heap[w.heap.size]? = _ := (hE2.below.block _ (by omega)).trans hb1
    have hE3 := hE1.trans hE2
    have x0 : w2.cell? ⟨w.heap.size, 0, none⟩ = some (.int .i64 x.kind) := cells_of hb2 0
    have x1 : w2.cell? ⟨w.heap.size, 1, none⟩ = some (.int .i64 x.n) := cells_of hb2 1
    have x2 : w2.cell? ⟨w.heap.size, 2, none⟩ = some (.float .f64 x.f) := cells_of hb2 2
    have x3 : w2.cell? ⟨w.heap.size, 3, none⟩ = some (.string x.s) := cells_of hb2 3
    have x4 : w2.cell? ⟨w.heap.size, 4, none⟩ = some (.slice x.ko x.kn x.kc) := cells_of hb2 4
    have x5 : w2.cell? ⟨w.heap.size, 5, none⟩ = some (.slice x.o x.m x.c) := cells_of hb2 5
    have hw2 : w.heap.size < w2.heap.size := by have := hE2.size; omega
    clear hb1
    cases b
    · go_wp2_with fail
      exact hR'.out _ hE3
    · go_wp2_with fail
      refine clean_all v w2 [w.heap.size] x.list (hv'.out.mv ((hE3.mv []).more (Nat.le_refl _))) (.cons hw2 (Old.nil _)) _ ?_
      intro w3 cs3 hE4 hu
      obtain ⟨y, rfl⟩ := hu.shape
      have hu' := Lib.hid hu
      have hb3 : w3.heap[w.heap.size]? = _ := (hE4.below.block _ hw2).trans hb2
      clear hu hb2 x0 x1 x2 x3 x4 x5
      have onec : y.list.toArray.all (·.oneCell') = true := by simp [Cells6.list, Value.oneCell']
      obtain ⟨k, n, f, s, keys, l, hcl, hkk⟩ := clean_kind v
      rw [hcl] at hu'
      obtain ⟨ko, kc, o, c, hcs, -, -, -⟩ := hu'.out.inv
      obtain ⟨yk, yn, yf, ys, yko, ykn, ykc, yo, ym, yc⟩ := y
      obtain rfl : yk = k := by simp [Cells6.list] at hcs; exact hcs.1
      dsimp only
      simp only [Cells6.list] at hb3 onec hu' ⊢
      rcases hkk with rfl | rfl | rfl | rfl | rfl | rfl | rfl
      all_goals clear hcs hcl
      all_goals have hX3 : Old [w.heap.size] w3 := .cons (Nat.lt_of_lt_of_le hw2 hE4.size) (Old.nil _)
      all_goals have hE5 := hE3.trans hE4
      · go_wp2_with (refine wpL_storeRow (cells := #[.int .i64 0, .int .i64 yn, .float .f64 yf, .string ys, .slice yko ykn ykc, .slice yo ym yc]) rfl _ _ _ rfl Try.size28 rfl rfl hb3 rfl onec ?_
                     intro w4 hh4 hg4
                     have z0 : w4.cell? ⟨w.heap.size, 0, none⟩ = some (.int .i64 0) := cells_of hh4 0
                     have z1 : w4.cell? ⟨w.heap.size, 1, none⟩ = some (.int .i64 yn) := cells_of hh4 1
                     have z2 : w4.cell? ⟨w.heap.size, 2, none⟩ = some (.float .f64 yf) := cells_of hh4 2
                     have z3 : w4.cell? ⟨w.heap.size, 3, none⟩ = some (.string ys) := cells_of hh4 3
                     have z4 : w4.cell? ⟨w.heap.size, 4, none⟩ = some (.slice yko ykn ykc) := cells_of hh4 4
                     have z5 : w4.cell? ⟨w.heap.size, 5, none⟩ = some (.slice yo ym yc) := cells_of hh4 5
                     have hu4 := Lib.hid (hu'.out.mv ((Mv.refl _ _).grown hg4 (fun j hj => by simp at hj; subst hj; simp)))
                     have hX4 := Old.le hX3 hg4.size
                     have hE6 : Ext w w4 := hE5.grown hg4 (fun j hj => by simp at hj; omega))
        all_goals (
          refine scalarFits_c hu4.out hX4 word _ ?_
          intro w5 hE7
          dsimp only
          go_wp2_with fail
          refine (hR'.out.bool ?_) _ (hE6.trans hE7)
          by_cases hq : word.toList = [117, 110, 116, 121, 112, 101, 100]
          · simp_all [scalarOk, V.plain, T.isNull, T.isInt, T.isFloat, T.isString, T.isBool]
          · simp_all [scalarOk, V.plain, T.isNull, T.isInt, T.isFloat, T.isString, T.isBool])
      · go_wp2_with (refine wpL_storeRow (cells := #[.int .i64 1, .int .i64 yn, .float .f64 yf, .string ys, .slice yko ykn ykc, .slice yo ym yc]) rfl _ _ _ rfl Try.size28 rfl rfl hb3 rfl onec ?_
                     intro w4 hh4 hg4
                     have z0 : w4.cell? ⟨w.heap.size, 0, none⟩ = some (.int .i64 1) := cells_of hh4 0
                     have z1 : w4.cell? ⟨w.heap.size, 1, none⟩ = some (.int .i64 yn) := cells_of hh4 1
                     have z2 : w4.cell? ⟨w.heap.size, 2, none⟩ = some (.float .f64 yf) := cells_of hh4 2
                     have z3 : w4.cell? ⟨w.heap.size, 3, none⟩ = some (.string ys) := cells_of hh4 3
                     have z4 : w4.cell? ⟨w.heap.size, 4, none⟩ = some (.slice yko ykn ykc) := cells_of hh4 4
                     have z5 : w4.cell? ⟨w.heap.size, 5, none⟩ = some (.slice yo ym yc) := cells_of hh4 5
                     have hu4 := Lib.hid (hu'.out.mv ((Mv.refl _ _).grown hg4 (fun j hj => by simp at hj; subst hj; simp)))
                     have hX4 := Old.le hX3 hg4.size
                     have hE6 : Ext w w4 := hE5.grown hg4 (fun j hj => by simp at hj; omega))
        all_goals (
          refine scalarFits_c hu4.out hX4 word _ ?_
          intro w5 hE7
          dsimp only
          go_wp2_with fail
          refine (hR'.out.bool ?_) _ (hE6.trans hE7)
          by_cases hq : word.toList = [117, 110, 116, 121, 112, 101, 100]
          · simp_all [scalarOk, V.plain, T.isNull, T.isInt, T.isFloat, T.isString, T.isBool]
          · simp_all [scalarOk, V.plain, T.isNull, T.isInt, T.isFloat, T.isString, T.isBool])
      · go_wp2_with (refine wpL_storeRow (cells := #[.int .i64 2, .int .i64 yn, .float .f64 yf, .string ys, .slice yko ykn ykc, .slice yo ym yc]) rfl _ _ _ rfl Try.size28 rfl rfl hb3 rfl onec ?_
                     intro w4 hh4 hg4
                     have z0 : w4.cell? ⟨w.heap.size, 0, none⟩ = some (.int .i64 2) := cells_of hh4 0
                     have z1 : w4.cell? ⟨w.heap.size, 1, none⟩ = some (.int .i64 yn) := cells_of hh4 1
                     have z2 : w4.cell? ⟨w.heap.size, 2, none⟩ = some (.float .f64 yf) := cells_of hh4 2
                     have z3 : w4.cell? ⟨w.heap.size, 3, none⟩ = some (.string ys) := cells_of hh4 3
                     have z4 : w4.cell? ⟨w.heap.size, 4, none⟩ = some (.slice yko ykn ykc) := cells_of hh4 4
                     have z5 : w4.cell? ⟨w.heap.size, 5, none⟩ = some (.slice yo ym yc) := cells_of hh4 5
                     have hu4 := Lib.hid (hu'.out.mv ((Mv.refl _ _).grown hg4 (fun j hj => by simp at hj; subst hj; simp)))
                     have hX4 := Old.le hX3 hg4.size
                     have hE6 : Ext w w4 := hE5.grown hg4 (fun j hj => by simp at hj; omega))
        all_goals (
          refine scalarFits_c hu4.out hX4 word _ ?_
          intro w5 hE7
          dsimp only
          go_wp2_with fail
          refine (hR'.out.bool ?_) _ (hE6.trans hE7)
          by_cases hq : word.toList = [117, 110, 116, 121, 112, 101, 100]
          · simp_all [scalarOk, V.plain, T.isNull, T.isInt, T.isFloat, T.isString, T.isBool]
          · simp_all [scalarOk, V.plain, T.isNull, T.isInt, T.isFloat, T.isString, T.isBool])
      · go_wp2_with (refine wpL_storeRow (cells := #[.int .i64 3, .int .i64 yn, .float .f64 yf, .string ys, .slice yko ykn ykc, .slice yo ym yc]) rfl _ _ _ rfl Try.size28 rfl rfl hb3 rfl onec ?_
                     intro w4 hh4 hg4
                     have z0 : w4.cell? ⟨w.heap.size, 0, none⟩ = some (.int .i64 3) := cells_of hh4 0
                     have z1 : w4.cell? ⟨w.heap.size, 1, none⟩ = some (.int .i64 yn) := cells_of hh4 1
                     have z2 : w4.cell? ⟨w.heap.size, 2, none⟩ = some (.float .f64 yf) := cells_of hh4 2
                     have z3 : w4.cell? ⟨w.heap.size, 3, none⟩ = some (.string ys) := cells_of hh4 3
                     have z4 : w4.cell? ⟨w.heap.size, 4, none⟩ = some (.slice yko ykn ykc) := cells_of hh4 4
                     have z5 : w4.cell? ⟨w.heap.size, 5, none⟩ = some (.slice yo ym yc) := cells_of hh4 5
                     have hu4 := Lib.hid (hu'.out.mv ((Mv.refl _ _).grown hg4 (fun j hj => by simp at hj; subst hj; simp)))
                     have hX4 := Old.le hX3 hg4.size
                     have hE6 : Ext w w4 := hE5.grown hg4 (fun j hj => by simp at hj; omega))
        all_goals (
          refine scalarFits_c hu4.out hX4 word _ ?_
          intro w5 hE7
          dsimp only
          go_wp2_with fail
          refine (hR'.out.bool ?_) _ (hE6.trans hE7)
          by_cases hq : word.toList = [117, 110, 116, 121, 112, 101, 100]
          · simp_all [scalarOk, V.plain, T.isNull, T.isInt, T.isFloat, T.isString, T.isBool]
          · simp_all [scalarOk, V.plain, T.isNull, T.isInt, T.isFloat, T.isString, T.isBool])
      · go_wp2_with (refine wpL_storeRow (cells := #[.int .i64 4, .int .i64 yn, .float .f64 yf, .string ys, .slice yko ykn ykc, .slice yo ym yc]) rfl _ _ _ rfl Try.size28 rfl rfl hb3 rfl onec ?_
                     intro w4 hh4 hg4
                     have z0 : w4.cell? ⟨w.heap.size, 0, none⟩ = some (.int .i64 4) := cells_of hh4 0
                     have z1 : w4.cell? ⟨w.heap.size, 1, none⟩ = some (.int .i64 yn) := cells_of hh4 1
                     have z2 : w4.cell? ⟨w.heap.size, 2, none⟩ = some (.float .f64 yf) := cells_of hh4 2
                     have z3 : w4.cell? ⟨w.heap.size, 3, none⟩ = some (.string ys) := cells_of hh4 3
                     have z4 : w4.cell? ⟨w.heap.size, 4, none⟩ = some (.slice yko ykn ykc) := cells_of hh4 4
                     have z5 : w4.cell? ⟨w.heap.size, 5, none⟩ = some (.slice yo ym yc) := cells_of hh4 5
                     have hu4 := Lib.hid (hu'.out.mv ((Mv.refl _ _).grown hg4 (fun j hj => by simp at hj; subst hj; simp)))
                     have hX4 := Old.le hX3 hg4.size
                     have hE6 : Ext w w4 := hE5.grown hg4 (fun j hj => by simp at hj; omega))
        all_goals (
          refine scalarFits_c hu4.out hX4 word _ ?_
          intro w5 hE7
          dsimp only
          go_wp2_with fail
          refine (hR'.out.bool ?_) _ (hE6.trans hE7)
          by_cases hq : word.toList = [117, 110, 116, 121, 112, 101, 100]
          · simp_all [scalarOk, V.plain, T.isNull, T.isInt, T.isFloat, T.isString, T.isBool]
          · simp_all [scalarOk, V.plain, T.isNull, T.isInt, T.isFloat, T.isString, T.isBool])
      · go_wp2_with (refine wpL_storeRow (cells := #[.int .i64 5, .int .i64 yn, .float .f64 yf, .string ys, .slice yko ykn ykc, .slice yo ym yc]) rfl _ _ _ rfl Try.size28 rfl rfl hb3 rfl onec ?_
                     intro w4 hh4 hg4
                     have z0 : w4.cell? ⟨w.heap.size, 0, none⟩ = some (.int .i64 5) := cells_of hh4 0
                     have z1 : w4.cell? ⟨w.heap.size, 1, none⟩ = some (.int .i64 yn) := cells_of hh4 1
                     have z2 : w4.cell? ⟨w.heap.size, 2, none⟩ = some (.float .f64 yf) := cells_of hh4 2
                     have z3 : w4.cell? ⟨w.heap.size, 3, none⟩ = some (.string ys) := cells_of hh4 3
                     have z4 : w4.cell? ⟨w.heap.size, 4, none⟩ = some (.slice yko ykn ykc) := cells_of hh4 4
                     have z5 : w4.cell? ⟨w.heap.size, 5, none⟩ = some (.slice yo ym yc) := cells_of hh4 5
                     have hu4 := Lib.hid (hu'.out.mv ((Mv.refl _ _).grown hg4 (fun j hj => by simp at hj; subst hj; simp)))
                     have hX4 := Old.le hX3 hg4.size
                     have hE6 : Ext w w4 := hE5.grown hg4 (fun j hj => by simp at hj; omega))
        all_goals (
          refine scalarFits_c hu4.out hX4 word _ ?_
          intro w5 hE7
          dsimp only
          go_wp2_with fail
          refine (hR'.out.bool ?_) _ (hE6.trans hE7)
          by_cases hq : word.toList = [117, 110, 116, 121, 112, 101, 100]
          · simp_all [scalarOk, V.plain, T.isNull, T.isInt, T.isFloat, T.isString, T.isBool]
          · simp_all [scalarOk, V.plain, T.isNull, T.isInt, T.isFloat, T.isString, T.isBool])
      · go_wp2_with (refine wpL_storeRow (cells := #[.int .i64 6, .int .i64 yn, .float .f64 yf, .string ys, .slice yko ykn ykc, .slice yo ym yc]) rfl _ _ _ rfl Try.size28 rfl rfl hb3 rfl onec ?_
                     intro w4 hh4 hg4
                     have z0 : w4.cell? ⟨w.heap.size, 0, none⟩ = some (.int .i64 6) := cells_of hh4 0
                     have z1 : w4.cell? ⟨w.heap.size, 1, none⟩ = some (.int .i64 yn) := cells_of hh4 1
                     have z2 : w4.cell? ⟨w.heap.size, 2, none⟩ = some (.float .f64 yf) := cells_of hh4 2
                     have z3 : w4.cell? ⟨w.heap.size, 3, none⟩ = some (.string ys) := cells_of hh4 3
                     have z4 : w4.cell? ⟨w.heap.size, 4, none⟩ = some (.slice yko ykn ykc) := cells_of hh4 4
                     have z5 : w4.cell? ⟨w.heap.size, 5, none⟩ = some (.slice yo ym yc) := cells_of hh4 5
                     have hu4 := Lib.hid (hu'.out.mv ((Mv.refl _ _).grown hg4 (fun j hj => by simp at hj; subst hj; simp)))
                     have hX4 := Old.le hX3 hg4.size
                     have hE6 : Ext w w4 := hE5.grown hg4 (fun j hj => by simp at hj; omega))
        all_goals (
          refine scalarFits_c hu4.out hX4 word _ ?_
          intro w5 hE7
          dsimp only
          go_wp2_with fail
          refine (hR'.out.bool ?_) _ (hE6.trans hE7)
          by_cases hq : word.toList = [117, 110, 116, 121, 112, 101, 100]
          · simp_all [scalarOk, V.plain, T.isNull, T.isInt, T.isFloat, T.isString, T.isBool]
          · simp_all [scalarOk, V.plain, T.isNull, T.isInt, T.isFloat, T.isString, T.isBool])

set_option maxRecDepth 100000 in
theorem scalarFits_walk : LawWalk 4 Try.f4 := by
  intro H enc W base args ds ps hA _ hw hval
  rw [Try.params4] at hA hw hval
  obtain ⟨v0, v1, d0, d1, p0, p1, hargs, rfl, rfl, h0, h1⟩ := trodAll_two hA
  obtain ⟨args⟩ := args
  obtain rfl : args = [v0, v1] := by simpa using hargs
  obtain ⟨word, rfl⟩ := okWide_string Try.underlying9 (hval 0 9 v0 rfl rfl)
  obtain ⟨cs, rfl, hcs⟩ := okWide_struct Try.underlying28 (hval 1 28 v1 rfl rfl)
  obtain ⟨fuel, h1⟩ := h1
  have hw1 : (d1.weights Try.prog 28).all (· ≤ reachBytes) = true := by
    simp only [DataW.weightsEach, List.all_append, Bool.and_eq_true] at hw
    exact hw.2.1
  obtain ⟨v, hv⟩ := read_v fuel _ _ h1 hw1
  exact scalarFits_law (cs := cs.toList) hv word

set_option maxRecDepth 100000 in
theorem scalarFits_lifted (os : Os) (started : os.Started) (H : Type) (enc : TypeId × Value → H) :
    ReturnsInHanded {} Try.checked os 4 .any (Rows.fnScalarFitsSpec.pre6 enc Try.prog Try.f4 Rows.fnScalarFitsRow.domain false) (Rows.fnScalarFitsSpec.post enc Try.prog Try.f4 false true false false) :=
  law_lift (s := Rows.fnScalarFitsSpec) started (by kernel_rfl) Try.func4 rfl rfl
    (by rw [Try.params4]; intro t ht; simp at ht; rcases ht with rfl | rfl <;> exact ⟨by kernel_rfl, of_decide_eq_true (by kernel_rfl)⟩)
    (by rw [Try.params4]; intro ds hd; match ds, hd with | [a, b], _ => rfl)
    (ChangeSpec.witness6 (enc := enc) (C := Try.checked) false ⟨#[], #[.string ⟨#[]⟩, .agg #[.int .i64 0, .int .i64 0, .float .f64 0, .string ⟨#[]⟩, .slice none 0 0, .slice none 0 0]], []⟩ 8 (by kernel_rfl) (by kernel_rfl) (by kernel_rfl) (by kernel_rfl))
    scalarFits_walk

theorem FnScalarFits_holds : Rows.FnScalarFitsSaid :=
  OpenClaim.holds_of_wide 4 Try.f4 rfl rfl rfl rfl rfl rfl rfl ⟨rfl, rfl, rfl, rfl, rfl⟩ rfl rfl rfl rfl rfl (by kernel_rfl) Try.func4 (by kernel_rfl)
    (of_decide_eq_true (by kernel_rfl)) (by unfold Func.isWrapper; first | (rw [if_pos (by decide +kernel)]; kernel_rfl) | (rw [if_neg (by decide +kernel)]; exact ⟨rfl, rfl⟩))
    (fun os started H enc _ => scalarFits_lifted os started H enc)

end Go.Proofs.Ytmihdlbcjiaibaa
