/- Type assertions to concrete types, and methods of values behind an interface. -/
import Derived.Test.YtnndacgokehkpaaTree
namespace Go.Proofs.Ytnndacgokehkpaa
open Go.RowKit

section
variable {P : Program}
theorem run_ta {asserted : TypeId} {d : TypeDesc} {z : Value} (hd : P.underlying asserted = some d) (hn : ∀ ms, d ≠ .interface ms) (hz : (P.info? asserted).bind (·.zero) = some z) (u xt : TypeId) (v : Value) (w : World) :
    (Instr.typeAssert (.iface u v) xt asserted true).run P w = .ok (if u = asserted then .tuple #[v, .bool true] else .tuple #[z, .bool false]) w := by
  obtain ⟨i, hi, hz⟩ := Option.bind_eq_some_iff.1 hz
  by_cases e : u = asserted
  · cases d <;> simp_all [Instr.typeAssert, run_underlying hd]
  · cases d <;> simp_all [Instr.typeAssert, run_underlying hd, zeroValue, typeInfo]
theorem run_ta_nil {asserted : TypeId} {d : TypeDesc} {z : Value} (hd : P.underlying asserted = some d) (hn : ∀ ms, d ≠ .interface ms) (hz : (P.info? asserted).bind (·.zero) = some z) (xt : TypeId) (w : World) :
    (Instr.typeAssert .nilIface xt asserted true).run P w = .ok (.tuple #[z, .bool false]) w := by
  obtain ⟨i, hi, hz⟩ := Option.bind_eq_some_iff.1 hz
  cases d <;> simp_all [Instr.typeAssert, run_underlying hd, zeroValue, typeInfo]
theorem run_ta1 {asserted : TypeId} {d : TypeDesc} (hd : P.underlying asserted = some d) (hn : ∀ ms, d ≠ .interface ms) (xt : TypeId) (v : Value) (w : World) :
    (Instr.typeAssert (.iface asserted v) xt asserted false).run P w = .ok v w := by
  cases d <;> simp_all [Instr.typeAssert, run_underlying hd]
end

@[go_sem] theorem ta_a0 (u xt : TypeId) (v : Value) (w : World) : (Instr.typeAssert (.iface u v) xt 3 true).run Try.prog w = .ok (if u = 3 then .tuple #[v, .bool true] else .tuple #[.int .i64 0, .bool false]) w := run_ta Try.underlying3 (by intro ms h; cases h) (by kernel_rfl) u xt v w
@[go_sem] theorem ta_b0 (xt : TypeId) (w : World) : (Instr.typeAssert .nilIface xt 3 true).run Try.prog w = .ok (.tuple #[.int .i64 0, .bool false]) w := run_ta_nil Try.underlying3 (by intro ms h; cases h) (by kernel_rfl) xt w
@[go_sem] theorem ta_c0 (xt : TypeId) (v : Value) (w : World) : (Instr.typeAssert (.iface 3 v) xt 3 false).run Try.prog w = .ok v w := run_ta1 Try.underlying3 (by intro ms h; cases h) xt v w
@[go_sem] theorem ta_a3 (u xt : TypeId) (v : Value) (w : World) : (Instr.typeAssert (.iface u v) xt 21 true).run Try.prog w = .ok (if u = 21 then .tuple #[v, .bool true] else .tuple #[.int .i32 0, .bool false]) w := run_ta Try.underlying21 (by intro ms h; cases h) (by kernel_rfl) u xt v w
@[go_sem] theorem ta_b3 (xt : TypeId) (w : World) : (Instr.typeAssert .nilIface xt 21 true).run Try.prog w = .ok (.tuple #[.int .i32 0, .bool false]) w := run_ta_nil Try.underlying21 (by intro ms h; cases h) (by kernel_rfl) xt w
@[go_sem] theorem ta_c3 (xt : TypeId) (v : Value) (w : World) : (Instr.typeAssert (.iface 21 v) xt 21 false).run Try.prog w = .ok v w := run_ta1 Try.underlying21 (by intro ms h; cases h) xt v w
@[go_sem] theorem ta_a4 (u xt : TypeId) (v : Value) (w : World) : (Instr.typeAssert (.iface u v) xt 2 true).run Try.prog w = .ok (if u = 2 then .tuple #[v, .bool true] else .tuple #[.int .i64 0, .bool false]) w := run_ta Try.underlying2 (by intro ms h; cases h) (by kernel_rfl) u xt v w
@[go_sem] theorem ta_b4 (xt : TypeId) (w : World) : (Instr.typeAssert .nilIface xt 2 true).run Try.prog w = .ok (.tuple #[.int .i64 0, .bool false]) w := run_ta_nil Try.underlying2 (by intro ms h; cases h) (by kernel_rfl) xt w
@[go_sem] theorem ta_c4 (xt : TypeId) (v : Value) (w : World) : (Instr.typeAssert (.iface 2 v) xt 2 false).run Try.prog w = .ok v w := run_ta1 Try.underlying2 (by intro ms h; cases h) xt v w
@[go_sem] theorem ta_a6 (u xt : TypeId) (v : Value) (w : World) : (Instr.typeAssert (.iface u v) xt 5 true).run Try.prog w = .ok (if u = 5 then .tuple #[v, .bool true] else .tuple #[.int .u8 0, .bool false]) w := run_ta Try.underlying5 (by intro ms h; cases h) (by kernel_rfl) u xt v w
@[go_sem] theorem ta_b6 (xt : TypeId) (w : World) : (Instr.typeAssert .nilIface xt 5 true).run Try.prog w = .ok (.tuple #[.int .u8 0, .bool false]) w := run_ta_nil Try.underlying5 (by intro ms h; cases h) (by kernel_rfl) xt w
@[go_sem] theorem ta_c6 (xt : TypeId) (v : Value) (w : World) : (Instr.typeAssert (.iface 5 v) xt 5 false).run Try.prog w = .ok v w := run_ta1 Try.underlying5 (by intro ms h; cases h) xt v w
@[go_sem] theorem ta_a8 (u xt : TypeId) (v : Value) (w : World) : (Instr.typeAssert (.iface u v) xt 155 true).run Try.prog w = .ok (if u = 155 then .tuple #[v, .bool true] else .tuple #[.int .u32 0, .bool false]) w := run_ta Try.underlying155 (by intro ms h; cases h) (by kernel_rfl) u xt v w
@[go_sem] theorem ta_b8 (xt : TypeId) (w : World) : (Instr.typeAssert .nilIface xt 155 true).run Try.prog w = .ok (.tuple #[.int .u32 0, .bool false]) w := run_ta_nil Try.underlying155 (by intro ms h; cases h) (by kernel_rfl) xt w
@[go_sem] theorem ta_c8 (xt : TypeId) (v : Value) (w : World) : (Instr.typeAssert (.iface 155 v) xt 155 false).run Try.prog w = .ok v w := run_ta1 Try.underlying155 (by intro ms h; cases h) xt v w
@[go_sem] theorem ta_a9 (u xt : TypeId) (v : Value) (w : World) : (Instr.typeAssert (.iface u v) xt 22 true).run Try.prog w = .ok (if u = 22 then .tuple #[v, .bool true] else .tuple #[.float .f64 0, .bool false]) w := run_ta Try.underlying22 (by intro ms h; cases h) (by kernel_rfl) u xt v w
@[go_sem] theorem ta_b9 (xt : TypeId) (w : World) : (Instr.typeAssert .nilIface xt 22 true).run Try.prog w = .ok (.tuple #[.float .f64 0, .bool false]) w := run_ta_nil Try.underlying22 (by intro ms h; cases h) (by kernel_rfl) xt w
@[go_sem] theorem ta_c9 (xt : TypeId) (v : Value) (w : World) : (Instr.typeAssert (.iface 22 v) xt 22 false).run Try.prog w = .ok v w := run_ta1 Try.underlying22 (by intro ms h; cases h) xt v w
@[go_sem] theorem ta_a11 (u xt : TypeId) (v : Value) (w : World) : (Instr.typeAssert (.iface u v) xt 9 true).run Try.prog w = .ok (if u = 9 then .tuple #[v, .bool true] else .tuple #[.string ⟨#[]⟩, .bool false]) w := run_ta Try.underlying9 (by intro ms h; cases h) (by kernel_rfl) u xt v w
@[go_sem] theorem ta_b11 (xt : TypeId) (w : World) : (Instr.typeAssert .nilIface xt 9 true).run Try.prog w = .ok (.tuple #[.string ⟨#[]⟩, .bool false]) w := run_ta_nil Try.underlying9 (by intro ms h; cases h) (by kernel_rfl) xt w
@[go_sem] theorem ta_c11 (xt : TypeId) (v : Value) (w : World) : (Instr.typeAssert (.iface 9 v) xt 9 false).run Try.prog w = .ok v w := run_ta1 Try.underlying9 (by intro ms h; cases h) xt v w
@[go_sem] theorem ta_a12 (u xt : TypeId) (v : Value) (w : World) : (Instr.typeAssert (.iface u v) xt 4 true).run Try.prog w = .ok (if u = 4 then .tuple #[v, .bool true] else .tuple #[.bool false, .bool false]) w := run_ta Try.underlying4 (by intro ms h; cases h) (by kernel_rfl) u xt v w
@[go_sem] theorem ta_b12 (xt : TypeId) (w : World) : (Instr.typeAssert .nilIface xt 4 true).run Try.prog w = .ok (.tuple #[.bool false, .bool false]) w := run_ta_nil Try.underlying4 (by intro ms h; cases h) (by kernel_rfl) xt w
@[go_sem] theorem ta_c12 (xt : TypeId) (v : Value) (w : World) : (Instr.typeAssert (.iface 4 v) xt 4 false).run Try.prog w = .ok v w := run_ta1 Try.underlying4 (by intro ms h; cases h) xt v w
@[go_sem] theorem ta_a13 (u xt : TypeId) (v : Value) (w : World) : (Instr.typeAssert (.iface u v) xt 117 true).run Try.prog w = .ok (if u = 117 then .tuple #[v, .bool true] else .tuple #[.slice none 0 0, .bool false]) w := run_ta Try.underlying117 (by intro ms h; cases h) (by kernel_rfl) u xt v w
@[go_sem] theorem ta_b13 (xt : TypeId) (w : World) : (Instr.typeAssert .nilIface xt 117 true).run Try.prog w = .ok (.tuple #[.slice none 0 0, .bool false]) w := run_ta_nil Try.underlying117 (by intro ms h; cases h) (by kernel_rfl) xt w
@[go_sem] theorem ta_c13 (xt : TypeId) (v : Value) (w : World) : (Instr.typeAssert (.iface 117 v) xt 117 false).run Try.prog w = .ok v w := run_ta1 Try.underlying117 (by intro ms h; cases h) xt v w
@[go_sem] theorem ta_a14 (u xt : TypeId) (v : Value) (w : World) : (Instr.typeAssert (.iface u v) xt 86 true).run Try.prog w = .ok (if u = 86 then .tuple #[v, .bool true] else .tuple #[.map none, .bool false]) w := run_ta Try.underlying86 (by intro ms h; cases h) (by kernel_rfl) u xt v w
@[go_sem] theorem ta_b14 (xt : TypeId) (w : World) : (Instr.typeAssert .nilIface xt 86 true).run Try.prog w = .ok (.tuple #[.map none, .bool false]) w := run_ta_nil Try.underlying86 (by intro ms h; cases h) (by kernel_rfl) xt w
@[go_sem] theorem ta_c14 (xt : TypeId) (v : Value) (w : World) : (Instr.typeAssert (.iface 86 v) xt 86 false).run Try.prog w = .ok v w := run_ta1 Try.underlying86 (by intro ms h; cases h) xt v w

section
variable {P : Program} {w : World}
theorem wrapNilChk_some (ts : Array TypeId) (t : TypeId) (p : Addr) (a b : String) : Builtin.ssaWrapNilChk_ ts t #[.pointer (some p), strVal a, strVal b] = pure (.pointer (some p)) := rfl
theorem run_method_val {t elem : TypeId} {name : String} {fid : FuncId} {p : Addr} {rv : Value} (n : Nat)
    (h1 : (P.info? t).bind (fun i => (i.methods.find? (·.name == name)).map (fun m => (m.path.toList, m.func))) = some ([], some (fid, false))) (hu : P.underlying t = some (.pointer elem))
    (hl : (loadVar elem p).run P w = .ok rv w) : (method (n + 1) t (.pointer (some p)) name).run P w = .ok (fid, rv) w := by
  obtain ⟨i, hi, h2⟩ := Option.bind_eq_some_iff.1 h1
  obtain ⟨m, hm, h3⟩ := Option.map_eq_some_iff.1 h2
  simp only [Prod.mk.injEq] at h3
  obtain ⟨h3, h4⟩ := h3
  rw [method]
  simp [typeInfo, hi, hm, h3, h4, follow, receiverAt, run_underlying hu, Place.get, wrapNilChk_some, asAddr]
  by_cases e : m.path = #[] <;> simp [e, hl]
end

theorem load_vu {b off : Nat} {x : Value} {w : World} (h : w.cell? ⟨b, off, none⟩ = some x) : (loadVar 135 ⟨b, off, none⟩).run Try.prog w = .ok (.agg #[x]) w := by
  have ha : (isAgg 135).run Try.prog w = .ok true w := by kernel_rfl
  simp [loadVar, ha, loadCells, loadCellsFrom, load, Sem.run, h, Addr.add]

@[go_sem] theorem meth_IsNull (n b off : Nat) (x : Value) (w : World) (h : w.cell? ⟨b, off, none⟩ = some x) : (method (n + 1) 114 (.pointer (some ⟨b, off, none⟩)) "IsNull").run Try.prog w = .ok (91, .agg #[x]) w := run_method_val n (by kernel_rfl) Try.underlying114 (load_vu h)
@[go_sem] theorem meth_IsFloat (n b off : Nat) (x : Value) (w : World) (h : w.cell? ⟨b, off, none⟩ = some x) : (method (n + 1) 114 (.pointer (some ⟨b, off, none⟩)) "IsFloat").run Try.prog w = .ok (87, .agg #[x]) w := run_method_val n (by kernel_rfl) Try.underlying114 (load_vu h)
@[go_sem] theorem meth_IsInt (n b off : Nat) (x : Value) (w : World) (h : w.cell? ⟨b, off, none⟩ = some x) : (method (n + 1) 114 (.pointer (some ⟨b, off, none⟩)) "IsInt").run Try.prog w = .ok (88, .agg #[x]) w := run_method_val n (by kernel_rfl) Try.underlying114 (load_vu h)
@[go_sem] theorem meth_IsString (n b off : Nat) (x : Value) (w : World) (h : w.cell? ⟨b, off, none⟩ = some x) : (method (n + 1) 114 (.pointer (some ⟨b, off, none⟩)) "IsString").run Try.prog w = .ok (92, .agg #[x]) w := run_method_val n (by kernel_rfl) Try.underlying114 (load_vu h)
@[go_sem] theorem meth_IsBool (n b off : Nat) (x : Value) (w : World) (h : w.cell? ⟨b, off, none⟩ = some x) : (method (n + 1) 114 (.pointer (some ⟨b, off, none⟩)) "IsBool").run Try.prog w = .ok (86, .agg #[x]) w := run_method_val n (by kernel_rfl) Try.underlying114 (load_vu h)
@[go_sem] theorem meth_IsList (n b off : Nat) (x : Value) (w : World) (h : w.cell? ⟨b, off, none⟩ = some x) : (method (n + 1) 114 (.pointer (some ⟨b, off, none⟩)) "IsList").run Try.prog w = .ok (89, .agg #[x]) w := run_method_val n (by kernel_rfl) Try.underlying114 (load_vu h)
@[go_sem] theorem meth_IsMap (n b off : Nat) (x : Value) (w : World) (h : w.cell? ⟨b, off, none⟩ = some x) : (method (n + 1) 114 (.pointer (some ⟨b, off, none⟩)) "IsMap").run Try.prog w = .ok (90, .agg #[x]) w := run_method_val n (by kernel_rfl) Try.underlying114 (load_vu h)
@[go_sem] theorem meth_AsList (n b off : Nat) (x : Value) (w : World) (h : w.cell? ⟨b, off, none⟩ = some x) : (method (n + 1) 114 (.pointer (some ⟨b, off, none⟩)) "AsList").run Try.prog w = .ok (81, .agg #[x]) w := run_method_val n (by kernel_rfl) Try.underlying114 (load_vu h)
@[go_sem] theorem meth_AsListUsing (n b off : Nat) (x : Value) (w : World) (h : w.cell? ⟨b, off, none⟩ = some x) : (method (n + 1) 114 (.pointer (some ⟨b, off, none⟩)) "AsListUsing").run Try.prog w = .ok (82, .agg #[x]) w := run_method_val n (by kernel_rfl) Try.underlying114 (load_vu h)
@[go_sem] theorem meth_AsMap (n b off : Nat) (x : Value) (w : World) (h : w.cell? ⟨b, off, none⟩ = some x) : (method (n + 1) 114 (.pointer (some ⟨b, off, none⟩)) "AsMap").run Try.prog w = .ok (83, .agg #[x]) w := run_method_val n (by kernel_rfl) Try.underlying114 (load_vu h)
@[go_sem] theorem meth_AsMapUsing (n b off : Nat) (x : Value) (w : World) (h : w.cell? ⟨b, off, none⟩ = some x) : (method (n + 1) 114 (.pointer (some ⟨b, off, none⟩)) "AsMapUsing").run Try.prog w = .ok (84, .agg #[x]) w := run_method_val n (by kernel_rfl) Try.underlying114 (load_vu h)
@[go_sem] theorem meth_AsBool (n b off : Nat) (x : Value) (w : World) (h : w.cell? ⟨b, off, none⟩ = some x) : (method (n + 1) 114 (.pointer (some ⟨b, off, none⟩)) "AsBool").run Try.prog w = .ok (78, .agg #[x]) w := run_method_val n (by kernel_rfl) Try.underlying114 (load_vu h)
@[go_sem] theorem meth_AsInt (n b off : Nat) (x : Value) (w : World) (h : w.cell? ⟨b, off, none⟩ = some x) : (method (n + 1) 114 (.pointer (some ⟨b, off, none⟩)) "AsInt").run Try.prog w = .ok (80, .agg #[x]) w := run_method_val n (by kernel_rfl) Try.underlying114 (load_vu h)
@[go_sem] theorem meth_AsFloat (n b off : Nat) (x : Value) (w : World) (h : w.cell? ⟨b, off, none⟩ = some x) : (method (n + 1) 114 (.pointer (some ⟨b, off, none⟩)) "AsFloat").run Try.prog w = .ok (79, .agg #[x]) w := run_method_val n (by kernel_rfl) Try.underlying114 (load_vu h)
@[go_sem] theorem meth_AsString (n b off : Nat) (x : Value) (w : World) (h : w.cell? ⟨b, off, none⟩ = some x) : (method (n + 1) 114 (.pointer (some ⟨b, off, none⟩)) "AsString").run Try.prog w = .ok (85, .agg #[x]) w := run_method_val n (by kernel_rfl) Try.underlying114 (load_vu h)
@[go_sem] theorem meth_Unstructured (n b off : Nat) (x : Value) (w : World) (h : w.cell? ⟨b, off, none⟩ = some x) : (method (n + 1) 114 (.pointer (some ⟨b, off, none⟩)) "Unstructured").run Try.prog w = .ok (93, .agg #[x]) w := run_method_val n (by kernel_rfl) Try.underlying114 (load_vu h)

end Go.Proofs.Ytnndacgokehkpaa
