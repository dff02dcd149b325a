/- Type assertions to concrete types, and methods of values behind an interface. -/
import Derived.Test.YtmihdlbcjiaibaaTree
namespace Go.Proofs.Ytmihdlbcjiaibaa
open Go.RowKit

section
variable {P : Program}
theorem run_ta {asserted : TypeId} {d : TypeDesc} {z : Value} (hd : P.underlying asserted = some d) (hn : ∀ ms, d ≠ .interface ms) (hz : (P.info? asserted).bind (·.zero) = some z) (u xt : TypeId) (v : Value) (w : World) :
    (Instr.typeAssert (.iface u v) xt asserted true).run P w = .ok (if u = asserted then .tuple #[v, .bool true] else .tuple #[z, .bool false]) w := by
  obtain ⟨i, hi, hz⟩ := Option.bind_eq_some_iff.1 hz
  by_cases e : u = asserted
  · cases d <;> simp_all [Instr.typeAssert, run_underlying hd]
  · cases d <;> simp_all [Instr.typeAssert, run_underlying hd, zeroValue, typeInfo]
theorem run_ta_nil {asserted : TypeId} {d : TypeDesc} {z : Value} (hd : P.underlying asserted = some d) (hn : ∀ ms, d ≠ .interface ms) (hz : (P.info? asserted).bind (·.zero) = some z) (xt : TypeId) (w : World) :
    (Instr.typeAssert .nilIface xt asserted true).run P w = .ok (.tuple #[z, .bool false]) w := by
  obtain ⟨i, hi, hz⟩ := Option.bind_eq_some_iff.1 hz
  cases d <;> simp_all [Instr.typeAssert, run_underlying hd, zeroValue, typeInfo]
theorem run_ta1 {asserted : TypeId} {d : TypeDesc} (hd : P.underlying asserted = some d) (hn : ∀ ms, d ≠ .interface ms) (xt : TypeId) (v : Value) (w : World) :
    (Instr.typeAssert (.iface asserted v) xt asserted false).run P w = .ok v w := by
  cases d <;> simp_all [Instr.typeAssert, run_underlying hd]
end

@[go_sem] theorem ta_a0 (u xt : TypeId) (v : Value) (w : World) : (Instr.typeAssert (.iface u v) xt 3 true).run Try.prog w = .ok (if u = 3 then .tuple #[v, .bool true] else .tuple #[.int .i64 0, .bool false]) w := run_ta Try.underlying3 (by intro ms h; cases h) (by kernel_rfl) u xt v w
@[go_sem] theorem ta_b0 (xt : TypeId) (w : World) : (Instr.typeAssert .nilIface xt 3 true).run Try.prog w = .ok (.tuple #[.int .i64 0, .bool false]) w := run_ta_nil Try.underlying3 (by intro ms h; cases h) (by kernel_rfl) xt w
@[go_sem] theorem ta_c0 (xt : TypeId) (v : Value) (w : World) : (Instr.typeAssert (.iface 3 v) xt 3 false).run Try.prog w = .ok v w := run_ta1 Try.underlying3 (by intro ms h; cases h) xt v w
@[go_sem] theorem ta_a1 (u xt : TypeId) (v : Value) (w : World) : (Instr.typeAssert (.iface u v) xt 258 true).run Try.prog w = .ok (if u = 258 then .tuple #[v, .bool true] else .tuple #[.int .i8 0, .bool false]) w := run_ta Try.underlying258 (by intro ms h; cases h) (by kernel_rfl) u xt v w
@[go_sem] theorem ta_b1 (xt : TypeId) (w : World) : (Instr.typeAssert .nilIface xt 258 true).run Try.prog w = .ok (.tuple #[.int .i8 0, .bool false]) w := run_ta_nil Try.underlying258 (by intro ms h; cases h) (by kernel_rfl) xt w
@[go_sem] theorem ta_c1 (xt : TypeId) (v : Value) (w : World) : (Instr.typeAssert (.iface 258 v) xt 258 false).run Try.prog w = .ok v w := run_ta1 Try.underlying258 (by intro ms h; cases h) xt v w
@[go_sem] theorem ta_a2 (u xt : TypeId) (v : Value) (w : World) : (Instr.typeAssert (.iface u v) xt 260 true).run Try.prog w = .ok (if u = 260 then .tuple #[v, .bool true] else .tuple #[.int .i16 0, .bool false]) w := run_ta Try.underlying260 (by intro ms h; cases h) (by kernel_rfl) u xt v w
@[go_sem] theorem ta_b2 (xt : TypeId) (w : World) : (Instr.typeAssert .nilIface xt 260 true).run Try.prog w = .ok (.tuple #[.int .i16 0, .bool false]) w := run_ta_nil Try.underlying260 (by intro ms h; cases h) (by kernel_rfl) xt w
@[go_sem] theorem ta_c2 (xt : TypeId) (v : Value) (w : World) : (Instr.typeAssert (.iface 260 v) xt 260 false).run Try.prog w = .ok v w := run_ta1 Try.underlying260 (by intro ms h; cases h) xt v w
@[go_sem] theorem ta_a3 (u xt : TypeId) (v : Value) (w : World) : (Instr.typeAssert (.iface u v) xt 21 true).run Try.prog w = .ok (if u = 21 then .tuple #[v, .bool true] else .tuple #[.int .i32 0, .bool false]) w := run_ta Try.underlying21 (by intro ms h; cases h) (by kernel_rfl) u xt v w
@[go_sem] theorem ta_b3 (xt : TypeId) (w : World) : (Instr.typeAssert .nilIface xt 21 true).run Try.prog w = .ok (.tuple #[.int .i32 0, .bool false]) w := run_ta_nil Try.underlying21 (by intro ms h; cases h) (by kernel_rfl) xt w
@[go_sem] theorem ta_c3 (xt : TypeId) (v : Value) (w : World) : (Instr.typeAssert (.iface 21 v) xt 21 false).run Try.prog w = .ok v w := run_ta1 Try.underlying21 (by intro ms h; cases h) xt v w
@[go_sem] theorem ta_a4 (u xt : TypeId) (v : Value) (w : World) : (Instr.typeAssert (.iface u v) xt 2 true).run Try.prog w = .ok (if u = 2 then .tuple #[v, .bool true] else .tuple #[.int .i64 0, .bool false]) w := run_ta Try.underlying2 (by intro ms h; cases h) (by kernel_rfl) u xt v w
@[go_sem] theorem ta_b4 (xt : TypeId) (w : World) : (Instr.typeAssert .nilIface xt 2 true).run Try.prog w = .ok (.tuple #[.int .i64 0, .bool false]) w := run_ta_nil Try.underlying2 (by intro ms h; cases h) (by kernel_rfl) xt w
@[go_sem] theorem ta_c4 (xt : TypeId) (v : Value) (w : World) : (Instr.typeAssert (.iface 2 v) xt 2 false).run Try.prog w = .ok v w := run_ta1 Try.underlying2 (by intro ms h; cases h) xt v w
@[go_sem] theorem ta_a5 (u xt : TypeId) (v : Value) (w : World) : (Instr.typeAssert (.iface u v) xt 263 true).run Try.prog w = .ok (if u = 263 then .tuple #[v, .bool true] else .tuple #[.int .u64 0, .bool false]) w := run_ta Try.underlying263 (by intro ms h; cases h) (by kernel_rfl) u xt v w
@[go_sem] theorem ta_b5 (xt : TypeId) (w : World) : (Instr.typeAssert .nilIface xt 263 true).run Try.prog w = .ok (.tuple #[.int .u64 0, .bool false]) w := run_ta_nil Try.underlying263 (by intro ms h; cases h) (by kernel_rfl) xt w
@[go_sem] theorem ta_c5 (xt : TypeId) (v : Value) (w : World) : (Instr.typeAssert (.iface 263 v) xt 263 false).run Try.prog w = .ok v w := run_ta1 Try.underlying263 (by intro ms h; cases h) xt v w
@[go_sem] theorem ta_a6 (u xt : TypeId) (v : Value) (w : World) : (Instr.typeAssert (.iface u v) xt 5 true).run Try.prog w = .ok (if u = 5 then .tuple #[v, .bool true] else .tuple #[.int .u8 0, .bool false]) w := run_ta Try.underlying5 (by intro ms h; cases h) (by kernel_rfl) u xt v w
@[go_sem] theorem ta_b6 (xt : TypeId) (w : World) : (Instr.typeAssert .nilIface xt 5 true).run Try.prog w = .ok (.tuple #[.int .u8 0, .bool false]) w := run_ta_nil Try.underlying5 (by intro ms h; cases h) (by kernel_rfl) xt w
@[go_sem] theorem ta_c6 (xt : TypeId) (v : Value) (w : World) : (Instr.typeAssert (.iface 5 v) xt 5 false).run Try.prog w = .ok v w := run_ta1 Try.underlying5 (by intro ms h; cases h) xt v w
@[go_sem] theorem ta_a7 (u xt : TypeId) (v : Value) (w : World) : (Instr.typeAssert (.iface u v) xt 266 true).run Try.prog w = .ok (if u = 266 then .tuple #[v, .bool true] else .tuple #[.int .u16 0, .bool false]) w := run_ta Try.underlying266 (by intro ms h; cases h) (by kernel_rfl) u xt v w
@[go_sem] theorem ta_b7 (xt : TypeId) (w : World) : (Instr.typeAssert .nilIface xt 266 true).run Try.prog w = .ok (.tuple #[.int .u16 0, .bool false]) w := run_ta_nil Try.underlying266 (by intro ms h; cases h) (by kernel_rfl) xt w
@[go_sem] theorem ta_c7 (xt : TypeId) (v : Value) (w : World) : (Instr.typeAssert (.iface 266 v) xt 266 false).run Try.prog w = .ok v w := run_ta1 Try.underlying266 (by intro ms h; cases h) xt v w
@[go_sem] theorem ta_a8 (u xt : TypeId) (v : Value) (w : World) : (Instr.typeAssert (.iface u v) xt 240 true).run Try.prog w = .ok (if u = 240 then .tuple #[v, .bool true] else .tuple #[.int .u32 0, .bool false]) w := run_ta Try.underlying240 (by intro ms h; cases h) (by kernel_rfl) u xt v w
@[go_sem] theorem ta_b8 (xt : TypeId) (w : World) : (Instr.typeAssert .nilIface xt 240 true).run Try.prog w = .ok (.tuple #[.int .u32 0, .bool false]) w := run_ta_nil Try.underlying240 (by intro ms h; cases h) (by kernel_rfl) xt w
@[go_sem] theorem ta_c8 (xt : TypeId) (v : Value) (w : World) : (Instr.typeAssert (.iface 240 v) xt 240 false).run Try.prog w = .ok v w := run_ta1 Try.underlying240 (by intro ms h; cases h) xt v w
@[go_sem] theorem ta_a9 (u xt : TypeId) (v : Value) (w : World) : (Instr.typeAssert (.iface u v) xt 24 true).run Try.prog w = .ok (if u = 24 then .tuple #[v, .bool true] else .tuple #[.float .f64 0, .bool false]) w := run_ta Try.underlying24 (by intro ms h; cases h) (by kernel_rfl) u xt v w
@[go_sem] theorem ta_b9 (xt : TypeId) (w : World) : (Instr.typeAssert .nilIface xt 24 true).run Try.prog w = .ok (.tuple #[.float .f64 0, .bool false]) w := run_ta_nil Try.underlying24 (by intro ms h; cases h) (by kernel_rfl) xt w
@[go_sem] theorem ta_c9 (xt : TypeId) (v : Value) (w : World) : (Instr.typeAssert (.iface 24 v) xt 24 false).run Try.prog w = .ok v w := run_ta1 Try.underlying24 (by intro ms h; cases h) xt v w
@[go_sem] theorem ta_a10 (u xt : TypeId) (v : Value) (w : World) : (Instr.typeAssert (.iface u v) xt 256 true).run Try.prog w = .ok (if u = 256 then .tuple #[v, .bool true] else .tuple #[.float .f32 0, .bool false]) w := run_ta Try.underlying256 (by intro ms h; cases h) (by kernel_rfl) u xt v w
@[go_sem] theorem ta_b10 (xt : TypeId) (w : World) : (Instr.typeAssert .nilIface xt 256 true).run Try.prog w = .ok (.tuple #[.float .f32 0, .bool false]) w := run_ta_nil Try.underlying256 (by intro ms h; cases h) (by kernel_rfl) xt w
@[go_sem] theorem ta_c10 (xt : TypeId) (v : Value) (w : World) : (Instr.typeAssert (.iface 256 v) xt 256 false).run Try.prog w = .ok v w := run_ta1 Try.underlying256 (by intro ms h; cases h) xt v w
@[go_sem] theorem ta_a11 (u xt : TypeId) (v : Value) (w : World) : (Instr.typeAssert (.iface u v) xt 9 true).run Try.prog w = .ok (if u = 9 then .tuple #[v, .bool true] else .tuple #[.string ⟨#[]⟩, .bool false]) w := run_ta Try.underlying9 (by intro ms h; cases h) (by kernel_rfl) u xt v w
@[go_sem] theorem ta_b11 (xt : TypeId) (w : World) : (Instr.typeAssert .nilIface xt 9 true).run Try.prog w = .ok (.tuple #[.string ⟨#[]⟩, .bool false]) w := run_ta_nil Try.underlying9 (by intro ms h; cases h) (by kernel_rfl) xt w
@[go_sem] theorem ta_c11 (xt : TypeId) (v : Value) (w : World) : (Instr.typeAssert (.iface 9 v) xt 9 false).run Try.prog w = .ok v w := run_ta1 Try.underlying9 (by intro ms h; cases h) xt v w
@[go_sem] theorem ta_a12 (u xt : TypeId) (v : Value) (w : World) : (Instr.typeAssert (.iface u v) xt 4 true).run Try.prog w = .ok (if u = 4 then .tuple #[v, .bool true] else .tuple #[.bool false, .bool false]) w := run_ta Try.underlying4 (by intro ms h; cases h) (by kernel_rfl) u xt v w
@[go_sem] theorem ta_b12 (xt : TypeId) (w : World) : (Instr.typeAssert .nilIface xt 4 true).run Try.prog w = .ok (.tuple #[.bool false, .bool false]) w := run_ta_nil Try.underlying4 (by intro ms h; cases h) (by kernel_rfl) xt w
@[go_sem] theorem ta_c12 (xt : TypeId) (v : Value) (w : World) : (Instr.typeAssert (.iface 4 v) xt 4 false).run Try.prog w = .ok v w := run_ta1 Try.underlying4 (by intro ms h; cases h) xt v w
@[go_sem] theorem ta_a13 (u xt : TypeId) (v : Value) (w : World) : (Instr.typeAssert (.iface u v) xt 181 true).run Try.prog w = .ok (if u = 181 then .tuple #[v, .bool true] else .tuple #[.slice none 0 0, .bool false]) w := run_ta Try.underlying181 (by intro ms h; cases h) (by kernel_rfl) u xt v w
@[go_sem] theorem ta_b13 (xt : TypeId) (w : World) : (Instr.typeAssert .nilIface xt 181 true).run Try.prog w = .ok (.tuple #[.slice none 0 0, .bool false]) w := run_ta_nil Try.underlying181 (by intro ms h; cases h) (by kernel_rfl) xt w
@[go_sem] theorem ta_c13 (xt : TypeId) (v : Value) (w : World) : (Instr.typeAssert (.iface 181 v) xt 181 false).run Try.prog w = .ok v w := run_ta1 Try.underlying181 (by intro ms h; cases h) xt v w
@[go_sem] theorem ta_a14 (u xt : TypeId) (v : Value) (w : World) : (Instr.typeAssert (.iface u v) xt 182 true).run Try.prog w = .ok (if u = 182 then .tuple #[v, .bool true] else .tuple #[.map none, .bool false]) w := run_ta Try.underlying182 (by intro ms h; cases h) (by kernel_rfl) u xt v w
@[go_sem] theorem ta_b14 (xt : TypeId) (w : World) : (Instr.typeAssert .nilIface xt 182 true).run Try.prog w = .ok (.tuple #[.map none, .bool false]) w := run_ta_nil Try.underlying182 (by intro ms h; cases h) (by kernel_rfl) xt w
@[go_sem] theorem ta_c14 (xt : TypeId) (v : Value) (w : World) : (Instr.typeAssert (.iface 182 v) xt 182 false).run Try.prog w = .ok v w := run_ta1 Try.underlying182 (by intro ms h; cases h) xt v w

section
variable {P : Program} {w : World}
theorem wrapNilChk_some (ts : Array TypeId) (t : TypeId) (p : Addr) (a b : String) : Builtin.ssaWrapNilChk_ ts t #[.pointer (some p), strVal a, strVal b] = pure (.pointer (some p)) := rfl
theorem run_method_val {t elem : TypeId} {name : String} {fid : FuncId} {p : Addr} {rv : Value} (n : Nat)
    (h1 : (P.info? t).bind (fun i => (i.methods.find? (·.name == name)).map (fun m => (m.path.toList, m.func))) = some ([], some (fid, false))) (hu : P.underlying t = some (.pointer elem))
    (hl : (loadVar elem p).run P w = .ok rv w) : (method (n + 1) t (.pointer (some p)) name).run P w = .ok (fid, rv) w := by
  obtain ⟨i, hi, h2⟩ := Option.bind_eq_some_iff.1 h1
  obtain ⟨m, hm, h3⟩ := Option.map_eq_some_iff.1 h2
  simp only [Prod.mk.injEq] at h3
  obtain ⟨h3, h4⟩ := h3
  rw [method]
  simp [typeInfo, hi, hm, h3, h4, follow, receiverAt, run_underlying hu, Place.get, wrapNilChk_some, asAddr]
  by_cases e : m.path = #[] <;> simp [e, hl]
end

theorem load_vu {b off : Nat} {x : Value} {w : World} (h : w.cell? ⟨b, off, none⟩ = some x) : (loadVar 204 ⟨b, off, none⟩).run Try.prog w = .ok (.agg #[x]) w := by
  have ha : (isAgg 204).run Try.prog w = .ok true w := by kernel_rfl
  simp [loadVar, ha, loadCells, loadCellsFrom, load, Sem.run, h, Addr.add]

@[go_sem] theorem meth_IsNull (n b off : Nat) (x : Value) (w : World) (h : w.cell? ⟨b, off, none⟩ = some x) : (method (n + 1) 176 (.pointer (some ⟨b, off, none⟩)) "IsNull").run Try.prog w = .ok (151, .agg #[x]) w := run_method_val n (by kernel_rfl) Try.underlying176 (load_vu h)
@[go_sem] theorem meth_IsFloat (n b off : Nat) (x : Value) (w : World) (h : w.cell? ⟨b, off, none⟩ = some x) : (method (n + 1) 176 (.pointer (some ⟨b, off, none⟩)) "IsFloat").run Try.prog w = .ok (147, .agg #[x]) w := run_method_val n (by kernel_rfl) Try.underlying176 (load_vu h)
@[go_sem] theorem meth_IsInt (n b off : Nat) (x : Value) (w : World) (h : w.cell? ⟨b, off, none⟩ = some x) : (method (n + 1) 176 (.pointer (some ⟨b, off, none⟩)) "IsInt").run Try.prog w = .ok (148, .agg #[x]) w := run_method_val n (by kernel_rfl) Try.underlying176 (load_vu h)
@[go_sem] theorem meth_IsString (n b off : Nat) (x : Value) (w : World) (h : w.cell? ⟨b, off, none⟩ = some x) : (method (n + 1) 176 (.pointer (some ⟨b, off, none⟩)) "IsString").run Try.prog w = .ok (152, .agg #[x]) w := run_method_val n (by kernel_rfl) Try.underlying176 (load_vu h)
@[go_sem] theorem meth_IsBool (n b off : Nat) (x : Value) (w : World) (h : w.cell? ⟨b, off, none⟩ = some x) : (method (n + 1) 176 (.pointer (some ⟨b, off, none⟩)) "IsBool").run Try.prog w = .ok (146, .agg #[x]) w := run_method_val n (by kernel_rfl) Try.underlying176 (load_vu h)
@[go_sem] theorem meth_IsList (n b off : Nat) (x : Value) (w : World) (h : w.cell? ⟨b, off, none⟩ = some x) : (method (n + 1) 176 (.pointer (some ⟨b, off, none⟩)) "IsList").run Try.prog w = .ok (149, .agg #[x]) w := run_method_val n (by kernel_rfl) Try.underlying176 (load_vu h)
@[go_sem] theorem meth_IsMap (n b off : Nat) (x : Value) (w : World) (h : w.cell? ⟨b, off, none⟩ = some x) : (method (n + 1) 176 (.pointer (some ⟨b, off, none⟩)) "IsMap").run Try.prog w = .ok (150, .agg #[x]) w := run_method_val n (by kernel_rfl) Try.underlying176 (load_vu h)
@[go_sem] theorem meth_AsList (n b off : Nat) (x : Value) (w : World) (h : w.cell? ⟨b, off, none⟩ = some x) : (method (n + 1) 176 (.pointer (some ⟨b, off, none⟩)) "AsList").run Try.prog w = .ok (141, .agg #[x]) w := run_method_val n (by kernel_rfl) Try.underlying176 (load_vu h)
@[go_sem] theorem meth_AsListUsing (n b off : Nat) (x : Value) (w : World) (h : w.cell? ⟨b, off, none⟩ = some x) : (method (n + 1) 176 (.pointer (some ⟨b, off, none⟩)) "AsListUsing").run Try.prog w = .ok (142, .agg #[x]) w := run_method_val n (by kernel_rfl) Try.underlying176 (load_vu h)
@[go_sem] theorem meth_AsMap (n b off : Nat) (x : Value) (w : World) (h : w.cell? ⟨b, off, none⟩ = some x) : (method (n + 1) 176 (.pointer (some ⟨b, off, none⟩)) "AsMap").run Try.prog w = .ok (143, .agg #[x]) w := run_method_val n (by kernel_rfl) Try.underlying176 (load_vu h)
@[go_sem] theorem meth_AsMapUsing (n b off : Nat) (x : Value) (w : World) (h : w.cell? ⟨b, off, none⟩ = some x) : (method (n + 1) 176 (.pointer (some ⟨b, off, none⟩)) "AsMapUsing").run Try.prog w = .ok (144, .agg #[x]) w := run_method_val n (by kernel_rfl) Try.underlying176 (load_vu h)
@[go_sem] theorem meth_AsBool (n b off : Nat) (x : Value) (w : World) (h : w.cell? ⟨b, off, none⟩ = some x) : (method (n + 1) 176 (.pointer (some ⟨b, off, none⟩)) "AsBool").run Try.prog w = .ok (138, .agg #[x]) w := run_method_val n (by kernel_rfl) Try.underlying176 (load_vu h)
@[go_sem] theorem meth_AsInt (n b off : Nat) (x : Value) (w : World) (h : w.cell? ⟨b, off, none⟩ = some x) : (method (n + 1) 176 (.pointer (some ⟨b, off, none⟩)) "AsInt").run Try.prog w = .ok (140, .agg #[x]) w := run_method_val n (by kernel_rfl) Try.underlying176 (load_vu h)
@[go_sem] theorem meth_AsFloat (n b off : Nat) (x : Value) (w : World) (h : w.cell? ⟨b, off, none⟩ = some x) : (method (n + 1) 176 (.pointer (some ⟨b, off, none⟩)) "AsFloat").run Try.prog w = .ok (139, .agg #[x]) w := run_method_val n (by kernel_rfl) Try.underlying176 (load_vu h)
@[go_sem] theorem meth_AsString (n b off : Nat) (x : Value) (w : World) (h : w.cell? ⟨b, off, none⟩ = some x) : (method (n + 1) 176 (.pointer (some ⟨b, off, none⟩)) "AsString").run Try.prog w = .ok (145, .agg #[x]) w := run_method_val n (by kernel_rfl) Try.underlying176 (load_vu h)
@[go_sem] theorem meth_Unstructured (n b off : Nat) (x : Value) (w : World) (h : w.cell? ⟨b, off, none⟩ = some x) : (method (n + 1) 176 (.pointer (some ⟨b, off, none⟩)) "Unstructured").run Try.prog w = .ok (153, .agg #[x]) w := run_method_val n (by kernel_rfl) Try.underlying176 (load_vu h)

end Go.Proofs.Ytmihdlbcjiaibaa
