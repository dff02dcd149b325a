/- Type assertions to concrete types, and methods of values behind an interface. impl.toValue and the methods of unstructured values. -/
import Derived.Test.YtihapgangilncaaGreatKGPlain
namespace Go.Proofs.YtihapgangilncaaGreat
open Go.RowKit

section
variable {P : Program}
theorem run_ta {asserted : TypeId} {d : TypeDesc} {z : Value} (hd : P.underlying asserted = some d) (hn : ∀ ms, d ≠ .interface ms) (hz : (P.info? asserted).bind (·.zero) = some z) (u xt : TypeId) (v : Value) (w : World) :
    (Instr.typeAssert (.iface u v) xt asserted true).run P w = .ok (if u = asserted then .tuple #[v, .bool true] else .tuple #[z, .bool false]) w := by
  obtain ⟨i, hi, hz⟩ := Option.bind_eq_some_iff.1 hz
  by_cases e : u = asserted
  · cases d <;> simp_all [Instr.typeAssert, run_underlying hd]
  · cases d <;> simp_all [Instr.typeAssert, run_underlying hd, zeroValue, typeInfo]
theorem run_ta_nil {asserted : TypeId} {d : TypeDesc} {z : Value} (hd : P.underlying asserted = some d) (hn : ∀ ms, d ≠ .interface ms) (hz : (P.info? asserted).bind (·.zero) = some z) (xt : TypeId) (w : World) :
    (Instr.typeAssert .nilIface xt asserted true).run P w = .ok (.tuple #[z, .bool false]) w := by
  obtain ⟨i, hi, hz⟩ := Option.bind_eq_some_iff.1 hz
  cases d <;> simp_all [Instr.typeAssert, run_underlying hd, zeroValue, typeInfo]
theorem run_ta1 {asserted : TypeId} {d : TypeDesc} (hd : P.underlying asserted = some d) (hn : ∀ ms, d ≠ .interface ms) (xt : TypeId) (v : Value) (w : World) :
    (Instr.typeAssert (.iface asserted v) xt asserted false).run P w = .ok v w := by
  cases d <;> simp_all [Instr.typeAssert, run_underlying hd]
end

@[go_sem] theorem ta_a0 (u xt : TypeId) (v : Value) (w : World) : (Instr.typeAssert (.iface u v) xt 3 true).run Tryz.prog w = .ok (if u = 3 then .tuple #[v, .bool true] else .tuple #[.int .i64 0, .bool false]) w := run_ta Tryz.underlying3 (by intro ms h; cases h) (by kernel_rfl) u xt v w
@[go_sem] theorem ta_b0 (xt : TypeId) (w : World) : (Instr.typeAssert .nilIface xt 3 true).run Tryz.prog w = .ok (.tuple #[.int .i64 0, .bool false]) w := run_ta_nil Tryz.underlying3 (by intro ms h; cases h) (by kernel_rfl) xt w
@[go_sem] theorem ta_c0 (xt : TypeId) (v : Value) (w : World) : (Instr.typeAssert (.iface 3 v) xt 3 false).run Tryz.prog w = .ok v w := run_ta1 Tryz.underlying3 (by intro ms h; cases h) xt v w
@[go_sem] theorem ta_a1 (u xt : TypeId) (v : Value) (w : World) : (Instr.typeAssert (.iface u v) xt 351 true).run Tryz.prog w = .ok (if u = 351 then .tuple #[v, .bool true] else .tuple #[.int .i8 0, .bool false]) w := run_ta Tryz.underlying351 (by intro ms h; cases h) (by kernel_rfl) u xt v w
@[go_sem] theorem ta_b1 (xt : TypeId) (w : World) : (Instr.typeAssert .nilIface xt 351 true).run Tryz.prog w = .ok (.tuple #[.int .i8 0, .bool false]) w := run_ta_nil Tryz.underlying351 (by intro ms h; cases h) (by kernel_rfl) xt w
@[go_sem] theorem ta_c1 (xt : TypeId) (v : Value) (w : World) : (Instr.typeAssert (.iface 351 v) xt 351 false).run Tryz.prog w = .ok v w := run_ta1 Tryz.underlying351 (by intro ms h; cases h) xt v w
@[go_sem] theorem ta_a2 (u xt : TypeId) (v : Value) (w : World) : (Instr.typeAssert (.iface u v) xt 353 true).run Tryz.prog w = .ok (if u = 353 then .tuple #[v, .bool true] else .tuple #[.int .i16 0, .bool false]) w := run_ta Tryz.underlying353 (by intro ms h; cases h) (by kernel_rfl) u xt v w
@[go_sem] theorem ta_b2 (xt : TypeId) (w : World) : (Instr.typeAssert .nilIface xt 353 true).run Tryz.prog w = .ok (.tuple #[.int .i16 0, .bool false]) w := run_ta_nil Tryz.underlying353 (by intro ms h; cases h) (by kernel_rfl) xt w
@[go_sem] theorem ta_c2 (xt : TypeId) (v : Value) (w : World) : (Instr.typeAssert (.iface 353 v) xt 353 false).run Tryz.prog w = .ok v w := run_ta1 Tryz.underlying353 (by intro ms h; cases h) xt v w
@[go_sem] theorem ta_a3 (u xt : TypeId) (v : Value) (w : World) : (Instr.typeAssert (.iface u v) xt 21 true).run Tryz.prog w = .ok (if u = 21 then .tuple #[v, .bool true] else .tuple #[.int .i32 0, .bool false]) w := run_ta Tryz.underlying21 (by intro ms h; cases h) (by kernel_rfl) u xt v w
@[go_sem] theorem ta_b3 (xt : TypeId) (w : World) : (Instr.typeAssert .nilIface xt 21 true).run Tryz.prog w = .ok (.tuple #[.int .i32 0, .bool false]) w := run_ta_nil Tryz.underlying21 (by intro ms h; cases h) (by kernel_rfl) xt w
@[go_sem] theorem ta_c3 (xt : TypeId) (v : Value) (w : World) : (Instr.typeAssert (.iface 21 v) xt 21 false).run Tryz.prog w = .ok v w := run_ta1 Tryz.underlying21 (by intro ms h; cases h) xt v w
@[go_sem] theorem ta_a4 (u xt : TypeId) (v : Value) (w : World) : (Instr.typeAssert (.iface u v) xt 2 true).run Tryz.prog w = .ok (if u = 2 then .tuple #[v, .bool true] else .tuple #[.int .i64 0, .bool false]) w := run_ta Tryz.underlying2 (by intro ms h; cases h) (by kernel_rfl) u xt v w
@[go_sem] theorem ta_b4 (xt : TypeId) (w : World) : (Instr.typeAssert .nilIface xt 2 true).run Tryz.prog w = .ok (.tuple #[.int .i64 0, .bool false]) w := run_ta_nil Tryz.underlying2 (by intro ms h; cases h) (by kernel_rfl) xt w
@[go_sem] theorem ta_c4 (xt : TypeId) (v : Value) (w : World) : (Instr.typeAssert (.iface 2 v) xt 2 false).run Tryz.prog w = .ok v w := run_ta1 Tryz.underlying2 (by intro ms h; cases h) xt v w
@[go_sem] theorem ta_a5 (u xt : TypeId) (v : Value) (w : World) : (Instr.typeAssert (.iface u v) xt 226 true).run Tryz.prog w = .ok (if u = 226 then .tuple #[v, .bool true] else .tuple #[.int .u64 0, .bool false]) w := run_ta Tryz.underlying226 (by intro ms h; cases h) (by kernel_rfl) u xt v w
@[go_sem] theorem ta_b5 (xt : TypeId) (w : World) : (Instr.typeAssert .nilIface xt 226 true).run Tryz.prog w = .ok (.tuple #[.int .u64 0, .bool false]) w := run_ta_nil Tryz.underlying226 (by intro ms h; cases h) (by kernel_rfl) xt w
@[go_sem] theorem ta_c5 (xt : TypeId) (v : Value) (w : World) : (Instr.typeAssert (.iface 226 v) xt 226 false).run Tryz.prog w = .ok v w := run_ta1 Tryz.underlying226 (by intro ms h; cases h) xt v w
@[go_sem] theorem ta_a6 (u xt : TypeId) (v : Value) (w : World) : (Instr.typeAssert (.iface u v) xt 5 true).run Tryz.prog w = .ok (if u = 5 then .tuple #[v, .bool true] else .tuple #[.int .u8 0, .bool false]) w := run_ta Tryz.underlying5 (by intro ms h; cases h) (by kernel_rfl) u xt v w
@[go_sem] theorem ta_b6 (xt : TypeId) (w : World) : (Instr.typeAssert .nilIface xt 5 true).run Tryz.prog w = .ok (.tuple #[.int .u8 0, .bool false]) w := run_ta_nil Tryz.underlying5 (by intro ms h; cases h) (by kernel_rfl) xt w
@[go_sem] theorem ta_c6 (xt : TypeId) (v : Value) (w : World) : (Instr.typeAssert (.iface 5 v) xt 5 false).run Tryz.prog w = .ok v w := run_ta1 Tryz.underlying5 (by intro ms h; cases h) xt v w
@[go_sem] theorem ta_a7 (u xt : TypeId) (v : Value) (w : World) : (Instr.typeAssert (.iface u v) xt 358 true).run Tryz.prog w = .ok (if u = 358 then .tuple #[v, .bool true] else .tuple #[.int .u16 0, .bool false]) w := run_ta Tryz.underlying358 (by intro ms h; cases h) (by kernel_rfl) u xt v w
@[go_sem] theorem ta_b7 (xt : TypeId) (w : World) : (Instr.typeAssert .nilIface xt 358 true).run Tryz.prog w = .ok (.tuple #[.int .u16 0, .bool false]) w := run_ta_nil Tryz.underlying358 (by intro ms h; cases h) (by kernel_rfl) xt w
@[go_sem] theorem ta_c7 (xt : TypeId) (v : Value) (w : World) : (Instr.typeAssert (.iface 358 v) xt 358 false).run Tryz.prog w = .ok v w := run_ta1 Tryz.underlying358 (by intro ms h; cases h) xt v w
@[go_sem] theorem ta_a8 (u xt : TypeId) (v : Value) (w : World) : (Instr.typeAssert (.iface u v) xt 331 true).run Tryz.prog w = .ok (if u = 331 then .tuple #[v, .bool true] else .tuple #[.int .u32 0, .bool false]) w := run_ta Tryz.underlying331 (by intro ms h; cases h) (by kernel_rfl) u xt v w
@[go_sem] theorem ta_b8 (xt : TypeId) (w : World) : (Instr.typeAssert .nilIface xt 331 true).run Tryz.prog w = .ok (.tuple #[.int .u32 0, .bool false]) w := run_ta_nil Tryz.underlying331 (by intro ms h; cases h) (by kernel_rfl) xt w
@[go_sem] theorem ta_c8 (xt : TypeId) (v : Value) (w : World) : (Instr.typeAssert (.iface 331 v) xt 331 false).run Tryz.prog w = .ok v w := run_ta1 Tryz.underlying331 (by intro ms h; cases h) xt v w
@[go_sem] theorem ta_a9 (u xt : TypeId) (v : Value) (w : World) : (Instr.typeAssert (.iface u v) xt 43 true).run Tryz.prog w = .ok (if u = 43 then .tuple #[v, .bool true] else .tuple #[.float .f64 0, .bool false]) w := run_ta Tryz.underlying43 (by intro ms h; cases h) (by kernel_rfl) u xt v w
@[go_sem] theorem ta_b9 (xt : TypeId) (w : World) : (Instr.typeAssert .nilIface xt 43 true).run Tryz.prog w = .ok (.tuple #[.float .f64 0, .bool false]) w := run_ta_nil Tryz.underlying43 (by intro ms h; cases h) (by kernel_rfl) xt w
@[go_sem] theorem ta_c9 (xt : TypeId) (v : Value) (w : World) : (Instr.typeAssert (.iface 43 v) xt 43 false).run Tryz.prog w = .ok v w := run_ta1 Tryz.underlying43 (by intro ms h; cases h) xt v w
@[go_sem] theorem ta_a10 (u xt : TypeId) (v : Value) (w : World) : (Instr.typeAssert (.iface u v) xt 349 true).run Tryz.prog w = .ok (if u = 349 then .tuple #[v, .bool true] else .tuple #[.float .f32 0, .bool false]) w := run_ta Tryz.underlying349 (by intro ms h; cases h) (by kernel_rfl) u xt v w
@[go_sem] theorem ta_b10 (xt : TypeId) (w : World) : (Instr.typeAssert .nilIface xt 349 true).run Tryz.prog w = .ok (.tuple #[.float .f32 0, .bool false]) w := run_ta_nil Tryz.underlying349 (by intro ms h; cases h) (by kernel_rfl) xt w
@[go_sem] theorem ta_c10 (xt : TypeId) (v : Value) (w : World) : (Instr.typeAssert (.iface 349 v) xt 349 false).run Tryz.prog w = .ok v w := run_ta1 Tryz.underlying349 (by intro ms h; cases h) xt v w
@[go_sem] theorem ta_a11 (u xt : TypeId) (v : Value) (w : World) : (Instr.typeAssert (.iface u v) xt 9 true).run Tryz.prog w = .ok (if u = 9 then .tuple #[v, .bool true] else .tuple #[.string ⟨#[]⟩, .bool false]) w := run_ta Tryz.underlying9 (by intro ms h; cases h) (by kernel_rfl) u xt v w
@[go_sem] theorem ta_b11 (xt : TypeId) (w : World) : (Instr.typeAssert .nilIface xt 9 true).run Tryz.prog w = .ok (.tuple #[.string ⟨#[]⟩, .bool false]) w := run_ta_nil Tryz.underlying9 (by intro ms h; cases h) (by kernel_rfl) xt w
@[go_sem] theorem ta_c11 (xt : TypeId) (v : Value) (w : World) : (Instr.typeAssert (.iface 9 v) xt 9 false).run Tryz.prog w = .ok v w := run_ta1 Tryz.underlying9 (by intro ms h; cases h) xt v w
@[go_sem] theorem ta_a12 (u xt : TypeId) (v : Value) (w : World) : (Instr.typeAssert (.iface u v) xt 4 true).run Tryz.prog w = .ok (if u = 4 then .tuple #[v, .bool true] else .tuple #[.bool false, .bool false]) w := run_ta Tryz.underlying4 (by intro ms h; cases h) (by kernel_rfl) u xt v w
@[go_sem] theorem ta_b12 (xt : TypeId) (w : World) : (Instr.typeAssert .nilIface xt 4 true).run Tryz.prog w = .ok (.tuple #[.bool false, .bool false]) w := run_ta_nil Tryz.underlying4 (by intro ms h; cases h) (by kernel_rfl) xt w
@[go_sem] theorem ta_c12 (xt : TypeId) (v : Value) (w : World) : (Instr.typeAssert (.iface 4 v) xt 4 false).run Tryz.prog w = .ok v w := run_ta1 Tryz.underlying4 (by intro ms h; cases h) xt v w
@[go_sem] theorem ta_a13 (u xt : TypeId) (v : Value) (w : World) : (Instr.typeAssert (.iface u v) xt 213 true).run Tryz.prog w = .ok (if u = 213 then .tuple #[v, .bool true] else .tuple #[.slice none 0 0, .bool false]) w := run_ta Tryz.underlying213 (by intro ms h; cases h) (by kernel_rfl) u xt v w
@[go_sem] theorem ta_b13 (xt : TypeId) (w : World) : (Instr.typeAssert .nilIface xt 213 true).run Tryz.prog w = .ok (.tuple #[.slice none 0 0, .bool false]) w := run_ta_nil Tryz.underlying213 (by intro ms h; cases h) (by kernel_rfl) xt w
@[go_sem] theorem ta_c13 (xt : TypeId) (v : Value) (w : World) : (Instr.typeAssert (.iface 213 v) xt 213 false).run Tryz.prog w = .ok v w := run_ta1 Tryz.underlying213 (by intro ms h; cases h) xt v w
@[go_sem] theorem ta_a14 (u xt : TypeId) (v : Value) (w : World) : (Instr.typeAssert (.iface u v) xt 214 true).run Tryz.prog w = .ok (if u = 214 then .tuple #[v, .bool true] else .tuple #[.map none, .bool false]) w := run_ta Tryz.underlying214 (by intro ms h; cases h) (by kernel_rfl) u xt v w
@[go_sem] theorem ta_b14 (xt : TypeId) (w : World) : (Instr.typeAssert .nilIface xt 214 true).run Tryz.prog w = .ok (.tuple #[.map none, .bool false]) w := run_ta_nil Tryz.underlying214 (by intro ms h; cases h) (by kernel_rfl) xt w
@[go_sem] theorem ta_c14 (xt : TypeId) (v : Value) (w : World) : (Instr.typeAssert (.iface 214 v) xt 214 false).run Tryz.prog w = .ok v w := run_ta1 Tryz.underlying214 (by intro ms h; cases h) xt v w

section
variable {P : Program} {w : World}
theorem wrapNilChk_some (ts : Array TypeId) (t : TypeId) (p : Addr) (a b : String) : Builtin.ssaWrapNilChk_ ts t #[.pointer (some p), strVal a, strVal b] = pure (.pointer (some p)) := rfl
theorem run_method_val {t elem : TypeId} {name : String} {fid : FuncId} {p : Addr} {rv : Value} (n : Nat)
    (h1 : (P.info? t).bind (fun i => (i.methods.find? (·.name == name)).map (fun m => (m.path.toList, m.func))) = some ([], some (fid, false))) (hu : P.underlying t = some (.pointer elem))
    (hl : (loadVar elem p).run P w = .ok rv w) : (method (n + 1) t (.pointer (some p)) name).run P w = .ok (fid, rv) w := by
  obtain ⟨i, hi, h2⟩ := Option.bind_eq_some_iff.1 h1
  obtain ⟨m, hm, h3⟩ := Option.map_eq_some_iff.1 h2
  simp only [Prod.mk.injEq] at h3
  obtain ⟨h3, h4⟩ := h3
  rw [method]
  simp [typeInfo, hi, hm, h3, h4, follow, receiverAt, run_underlying hu, Place.get, wrapNilChk_some, asAddr]
  by_cases e : m.path = #[] <;> simp [e, hl]
end

theorem load_vu {b off : Nat} {x : Value} {w : World} (h : w.cell? ⟨b, off, none⟩ = some x) : (loadVar 292 ⟨b, off, none⟩).run Tryz.prog w = .ok (.agg #[x]) w := by
  have ha : (isAgg 292).run Tryz.prog w = .ok true w := by kernel_rfl
  simp [loadVar, ha, loadCells, loadCellsFrom, load, Sem.run, h, Addr.add]

@[go_sem] theorem meth_IsNull (n b off : Nat) (x : Value) (w : World) (h : w.cell? ⟨b, off, none⟩ = some x) : (method (n + 1) 261 (.pointer (some ⟨b, off, none⟩)) "IsNull").run Tryz.prog w = .ok (256, .agg #[x]) w := run_method_val n (by kernel_rfl) Tryz.underlying261 (load_vu h)
@[go_sem] theorem meth_IsFloat (n b off : Nat) (x : Value) (w : World) (h : w.cell? ⟨b, off, none⟩ = some x) : (method (n + 1) 261 (.pointer (some ⟨b, off, none⟩)) "IsFloat").run Tryz.prog w = .ok (252, .agg #[x]) w := run_method_val n (by kernel_rfl) Tryz.underlying261 (load_vu h)
@[go_sem] theorem meth_IsInt (n b off : Nat) (x : Value) (w : World) (h : w.cell? ⟨b, off, none⟩ = some x) : (method (n + 1) 261 (.pointer (some ⟨b, off, none⟩)) "IsInt").run Tryz.prog w = .ok (253, .agg #[x]) w := run_method_val n (by kernel_rfl) Tryz.underlying261 (load_vu h)
@[go_sem] theorem meth_IsString (n b off : Nat) (x : Value) (w : World) (h : w.cell? ⟨b, off, none⟩ = some x) : (method (n + 1) 261 (.pointer (some ⟨b, off, none⟩)) "IsString").run Tryz.prog w = .ok (257, .agg #[x]) w := run_method_val n (by kernel_rfl) Tryz.underlying261 (load_vu h)
@[go_sem] theorem meth_IsBool (n b off : Nat) (x : Value) (w : World) (h : w.cell? ⟨b, off, none⟩ = some x) : (method (n + 1) 261 (.pointer (some ⟨b, off, none⟩)) "IsBool").run Tryz.prog w = .ok (251, .agg #[x]) w := run_method_val n (by kernel_rfl) Tryz.underlying261 (load_vu h)
@[go_sem] theorem meth_IsList (n b off : Nat) (x : Value) (w : World) (h : w.cell? ⟨b, off, none⟩ = some x) : (method (n + 1) 261 (.pointer (some ⟨b, off, none⟩)) "IsList").run Tryz.prog w = .ok (254, .agg #[x]) w := run_method_val n (by kernel_rfl) Tryz.underlying261 (load_vu h)
@[go_sem] theorem meth_IsMap (n b off : Nat) (x : Value) (w : World) (h : w.cell? ⟨b, off, none⟩ = some x) : (method (n + 1) 261 (.pointer (some ⟨b, off, none⟩)) "IsMap").run Tryz.prog w = .ok (255, .agg #[x]) w := run_method_val n (by kernel_rfl) Tryz.underlying261 (load_vu h)
@[go_sem] theorem meth_AsList (n b off : Nat) (x : Value) (w : World) (h : w.cell? ⟨b, off, none⟩ = some x) : (method (n + 1) 261 (.pointer (some ⟨b, off, none⟩)) "AsList").run Tryz.prog w = .ok (246, .agg #[x]) w := run_method_val n (by kernel_rfl) Tryz.underlying261 (load_vu h)
@[go_sem] theorem meth_AsListUsing (n b off : Nat) (x : Value) (w : World) (h : w.cell? ⟨b, off, none⟩ = some x) : (method (n + 1) 261 (.pointer (some ⟨b, off, none⟩)) "AsListUsing").run Tryz.prog w = .ok (247, .agg #[x]) w := run_method_val n (by kernel_rfl) Tryz.underlying261 (load_vu h)
@[go_sem] theorem meth_AsMap (n b off : Nat) (x : Value) (w : World) (h : w.cell? ⟨b, off, none⟩ = some x) : (method (n + 1) 261 (.pointer (some ⟨b, off, none⟩)) "AsMap").run Tryz.prog w = .ok (248, .agg #[x]) w := run_method_val n (by kernel_rfl) Tryz.underlying261 (load_vu h)
@[go_sem] theorem meth_AsMapUsing (n b off : Nat) (x : Value) (w : World) (h : w.cell? ⟨b, off, none⟩ = some x) : (method (n + 1) 261 (.pointer (some ⟨b, off, none⟩)) "AsMapUsing").run Tryz.prog w = .ok (249, .agg #[x]) w := run_method_val n (by kernel_rfl) Tryz.underlying261 (load_vu h)
@[go_sem] theorem meth_AsBool (n b off : Nat) (x : Value) (w : World) (h : w.cell? ⟨b, off, none⟩ = some x) : (method (n + 1) 261 (.pointer (some ⟨b, off, none⟩)) "AsBool").run Tryz.prog w = .ok (243, .agg #[x]) w := run_method_val n (by kernel_rfl) Tryz.underlying261 (load_vu h)
@[go_sem] theorem meth_AsInt (n b off : Nat) (x : Value) (w : World) (h : w.cell? ⟨b, off, none⟩ = some x) : (method (n + 1) 261 (.pointer (some ⟨b, off, none⟩)) "AsInt").run Tryz.prog w = .ok (245, .agg #[x]) w := run_method_val n (by kernel_rfl) Tryz.underlying261 (load_vu h)
@[go_sem] theorem meth_AsFloat (n b off : Nat) (x : Value) (w : World) (h : w.cell? ⟨b, off, none⟩ = some x) : (method (n + 1) 261 (.pointer (some ⟨b, off, none⟩)) "AsFloat").run Tryz.prog w = .ok (244, .agg #[x]) w := run_method_val n (by kernel_rfl) Tryz.underlying261 (load_vu h)
@[go_sem] theorem meth_AsString (n b off : Nat) (x : Value) (w : World) (h : w.cell? ⟨b, off, none⟩ = some x) : (method (n + 1) 261 (.pointer (some ⟨b, off, none⟩)) "AsString").run Tryz.prog w = .ok (250, .agg #[x]) w := run_method_val n (by kernel_rfl) Tryz.underlying261 (load_vu h)
@[go_sem] theorem meth_Unstructured (n b off : Nat) (x : Value) (w : World) (h : w.cell? ⟨b, off, none⟩ = some x) : (method (n + 1) 261 (.pointer (some ⟨b, off, none⟩)) "Unstructured").run Tryz.prog w = .ok (258, .agg #[x]) w := run_method_val n (by kernel_rfl) Tryz.underlying261 (load_vu h)

end Go.Proofs.YtihapgangilncaaGreat
namespace Go.Proofs.YtihapgangilncaaGreat
open Go.RowKit

theorem alloc_val {w w' : World} {X : List Nat} {x : Value} {t : T} (hE : Ext w w') (hx : IsT w X x t) (hX : Old X w) {b : Nat} (hb : w.heap.size ≤ b) (hh : w'.heap[b]? = some (.cells #[x] 292 (0, 0))) :
    IsVal w' X (.iface 261 (.pointer (some ⟨b, 0, none⟩))) t :=
  ⟨b, x, rfl, hh, fun h => by have := hX b h; omega, hx.mv (hE.mv X)⟩

set_option maxRecDepth 100000 in
set_option maxHeartbeats 1000000 in
theorem newValue_c {w : World} {X : List Nat} {x : Value} {t : T} (hx : IsT w X x t) (hX : Old X w) (R : Ending → World → Prop) (hR : ∀ w' v, Ext w w' → IsVal w' X v t → R (.returned v) w') :
    Calls Tryz.prog 140 #[x] w R := by
  have hone := hx.one
  have hx' := Lib.hid hx
  have hX' := Lib.hid hX
  have hR' := Lib.hid hR
  clear hx hX hR
  go_enter Tryz.func140, Tryz.ntmps140
  go_wp2_with (first | refine wpL_init1 rfl 20 _ _ rfl Tryz.info20 rfl (by simp) rfl hone (by decide) rfl ?_ | go_in)
  refine hR'.out _ _ ((Ext.alloc _ _).push _) (alloc_val ((Ext.alloc _ _).push _) hx'.out hX'.out (by omega) ?_)
  show ((w.heap.push _).push _)[_]? = _
  rw [push_get, if_pos (by simp)]

def T.isMap : T → Bool | .map _ _ => true | _ => false
def T.isList : T → Bool | .list _ => true | _ => false
def T.isBool : T → Bool | .bool _ => true | _ => false
def T.isInt : T → Bool | .int _ => true | _ => false
def T.isFloat : T → Bool | .float _ => true | _ => false
def T.isString : T → Bool | .str _ => true | _ => false
def T.isNull : T → Bool | .null => true | _ => false

set_option maxRecDepth 100000 in
set_option maxHeartbeats 1000000 in
theorem isNull_c {w0 w : World} {X : List Nat} {x : Value} {t : T} (hx : IsT w0 X x t) (R : Ending → World → Prop) (hR : Ends R w (.bool t.isNull)) :
    Calls Tryz.prog 256 #[.agg #[x]] w R := by
  have hR' := Lib.hid hR
  clear hR
  cases hx
  all_goals
    go_enter Tryz.func256, Tryz.ntmps256
    go_wp2_with fail
    exact hR'.out _ (.alloc _ _)

set_option maxRecDepth 100000 in
set_option maxHeartbeats 1000000 in
theorem isInt_c {w0 w : World} {X : List Nat} {x : Value} {t : T} (hx : IsT w0 X x t) (R : Ending → World → Prop) (hR : Ends R w (.bool t.isInt)) :
    Calls Tryz.prog 253 #[.agg #[x]] w R := by
  have hR' := Lib.hid hR
  clear hR
  cases hx
  all_goals
    go_enter Tryz.func253, Tryz.ntmps253
    go_wp2_with fail
    exact hR'.out _ (.alloc _ _)

set_option maxRecDepth 100000 in
set_option maxHeartbeats 1000000 in
theorem isFloat_c {w0 w : World} {X : List Nat} {x : Value} {t : T} (hx : IsT w0 X x t) (R : Ending → World → Prop) (hR : Ends R w (.bool t.isFloat)) :
    Calls Tryz.prog 252 #[.agg #[x]] w R := by
  have hR' := Lib.hid hR
  clear hR
  cases hx
  all_goals
    go_enter Tryz.func252, Tryz.ntmps252
    go_wp2_with fail
    exact hR'.out _ (.alloc _ _)

set_option maxRecDepth 100000 in
set_option maxHeartbeats 1000000 in
theorem isString_c {w0 w : World} {X : List Nat} {x : Value} {t : T} (hx : IsT w0 X x t) (R : Ending → World → Prop) (hR : Ends R w (.bool t.isString)) :
    Calls Tryz.prog 257 #[.agg #[x]] w R := by
  have hR' := Lib.hid hR
  clear hR
  cases hx
  all_goals
    go_enter Tryz.func257, Tryz.ntmps257
    go_wp2_with fail
    exact hR'.out _ (.alloc _ _)

set_option maxRecDepth 100000 in
set_option maxHeartbeats 1000000 in
theorem isBool_c {w0 w : World} {X : List Nat} {x : Value} {t : T} (hx : IsT w0 X x t) (R : Ending → World → Prop) (hR : Ends R w (.bool t.isBool)) :
    Calls Tryz.prog 251 #[.agg #[x]] w R := by
  have hR' := Lib.hid hR
  clear hR
  cases hx
  all_goals
    go_enter Tryz.func251, Tryz.ntmps251
    go_wp2_with fail
    exact hR'.out _ (.alloc _ _)

set_option maxRecDepth 100000 in
set_option maxHeartbeats 1000000 in
theorem isList_c {w0 w : World} {X : List Nat} {x : Value} {t : T} (hx : IsT w0 X x t) (R : Ending → World → Prop) (hR : Ends R w (.bool t.isList)) :
    Calls Tryz.prog 254 #[.agg #[x]] w R := by
  have hR' := Lib.hid hR
  clear hR
  cases hx
  all_goals
    go_enter Tryz.func254, Tryz.ntmps254
    go_wp2_with fail
    exact hR'.out _ (.alloc _ _)

set_option maxRecDepth 100000 in
set_option maxHeartbeats 1000000 in
theorem isMap_c {w0 w : World} {X : List Nat} {x : Value} {t : T} (hx : IsT w0 X x t) (R : Ending → World → Prop) (hR : Ends R w (.bool t.isMap)) :
    Calls Tryz.prog 255 #[.agg #[x]] w R := by
  have hR' := Lib.hid hR
  clear hR
  cases hx
  all_goals
    go_enter Tryz.func255, Tryz.ntmps255
    go_wp2_with fail
    exact hR'.out _ (.alloc _ _)

set_option maxRecDepth 100000 in
set_option maxHeartbeats 1000000 in
theorem toValue_c {w : World} {X : List Nat} {cs : List Value} {v : V} (hv : IsV w X cs v) (hX : Old X w) (R : Ending → World → Prop) (hR : ∀ w' y, Ext w w' → IsVal w' X y v.plain → R (.returned y) w') :
    Calls Tryz.prog 88 #[.agg cs.toArray] w R := by
  have hR' := Lib.hid hR
  have hX' := Lib.hid hX
  clear hR hX
  obtain ⟨x, rfl⟩ := hv.shape
  have hv' := Lib.hid hv
  clear hv
  simp only [Cells6.list]
  go_enter Tryz.func88, Tryz.ntmps88
  go_wp2_with fail
  refine plain_all v _ X x.list (hv'.out.mv ((Ext.alloc _ _).mv X)) (Old.le hX'.out (by simp)) _ ?_
  intro w1 y hE hy
  dsimp only
  go_wp2_with fail
  refine newValue_c hy (Old.le hX'.out ((Ext.alloc _ _).trans hE).size) _ ?_
  intro w2 z hE2 hz
  dsimp only
  go_wp2_with fail
  exact hR'.out _ _ (((Ext.alloc _ _).trans hE).trans hE2) hz

end Go.Proofs.YtihapgangilncaaGreat
