/- value.CompareUsing. (printed by gen_compare.py) -/
import Derived.Test.YtnndacgokehkpaaCmpZ
namespace Go.Proofs.Ytnndacgokehkpaa
open Go.RowKit
set_option linter.unusedSimpArgs false

theorem no_kind {a : T} (h1 : a.isFloat = false) (h2 : a.isInt = false) (h3 : a.isString = false) (h4 : a.isBool = false) (h5 : a.isList = false) (h6 : a.isMap = false) (h7 : a.isNull = false) : False := by
  cases a <;> simp_all [T.isFloat, T.isInt, T.isString, T.isBool, T.isList, T.isMap, T.isNull]
theorem rk_2 {a : T} (h0 : a.isFloat = false) (h1 : a.isInt = false) : 0 < a.rk := by
  cases a <;> simp_all [T.rk, T.isFloat, T.isInt, T.isString, T.isBool, T.isList, T.isMap]
theorem rk_3 {a : T} (h0 : a.isFloat = false) (h1 : a.isInt = false) (h2 : a.isString = false) : 1 < a.rk := by
  cases a <;> simp_all [T.rk, T.isFloat, T.isInt, T.isString, T.isBool, T.isList, T.isMap]
theorem rk_4 {a : T} (h0 : a.isFloat = false) (h1 : a.isInt = false) (h2 : a.isString = false) (h3 : a.isBool = false) : 2 < a.rk := by
  cases a <;> simp_all [T.rk, T.isFloat, T.isInt, T.isString, T.isBool, T.isList, T.isMap]
theorem rk_5 {a : T} (h0 : a.isFloat = false) (h1 : a.isInt = false) (h2 : a.isString = false) (h3 : a.isBool = false) (h4 : a.isList = false) : 3 < a.rk := by
  cases a <;> simp_all [T.rk, T.isFloat, T.isInt, T.isString, T.isBool, T.isList, T.isMap]
theorem rk_6 {a : T} (h0 : a.isFloat = false) (h1 : a.isInt = false) (h2 : a.isString = false) (h3 : a.isBool = false) (h4 : a.isList = false) (h5 : a.isMap = false) : 4 < a.rk := by
  cases a <;> simp_all [T.rk, T.isFloat, T.isInt, T.isString, T.isBool, T.isList, T.isMap]

end Go.Proofs.Ytnndacgokehkpaa
