/- value.EqualsUsing. (printed by gen_equals.py) -/
import Derived.Test.YtnndacgokehkpaaEqM
namespace Go.Proofs.Ytnndacgokehkpaa
open Go.RowKit
set_option linter.unusedSimpArgs false

theorem beq_bytes (m n : ByteArray) : (m == n) = (m.toList == n.toList) := by
  by_cases h : m = n
  · simp [h]
  · rw [beq_eq_false_iff_ne.2 h, eq_comm, beq_eq_false_iff_ne]
    exact fun e => h (toList_inj e)

theorem T.float_of {t : T} (h : t.isFloat = true) : ∃ f, t = .float f := by cases t <;> simp_all [T.isFloat]
theorem T.int_of {t : T} (h : t.isInt = true) : ∃ f, t = .int f := by cases t <;> simp_all [T.isInt]
theorem T.str_of {t : T} (h : t.isString = true) : ∃ f, t = .str f := by cases t <;> simp_all [T.isString]
theorem T.bool_of {t : T} (h : t.isBool = true) : ∃ f, t = .bool f := by cases t <;> simp_all [T.isBool]
theorem T.list_of {t : T} (h : t.isList = true) : ∃ f, t = .list f := by cases t <;> simp_all [T.isList]
theorem T.map_of {t : T} (h : t.isMap = true) : ∃ k f, t = .map k f := by cases t <;> simp_all [T.isMap]
theorem T.null_of {t : T} (h : t.isNull = true) : t = .null := by cases t <;> simp_all [T.isNull]

end Go.Proofs.Ytnndacgokehkpaa
