/- mapUnstructuredString.EqualsUsing. -/
import Derived.Test.YtnndacgokehkpaaIterate
namespace Go.Proofs.Ytnndacgokehkpaa
open Go.RowKit

def inMap (es : EntsOfT T) (p : ByteArray × T) : Bool := match getEnt p.1 es with
  | some x => eqT x p.2
  | none => false

theorem eqTm_iff {es : EntsOfT T} : ∀ {ks : List ByteArray} {l : List T}, eqTm es ks l = true ↔ ∀ i (h : i < (ks.zip l).length), inMap es (ks.zip l)[i] = true
  | [], l => by cases l <;> simp [eqTm]
  | k :: ks, [] => by simp [eqTm]
  | k :: ks, y :: l => by
    have ih := @eqTm_iff es ks l
    have e : eqTm es (k :: ks) (y :: l) = (inMap es (k, y) && eqTm es ks l) := by simp [eqTm, inMap]; rfl
    rw [e, Bool.and_eq_true, ih]
    constructor
    · rintro ⟨h1, h2⟩ i hi
      cases i with
      | zero => exact h1
      | succ i => exact h2 i (by simpa using hi)
    · intro h
      exact ⟨h 0 (by simp), fun i hi => h (i + 1) (by simpa using hi)⟩

set_option maxRecDepth 100000 in
theorem zero_any : ∀ w, (zeroValue 20).run Try.prog w = .ok .nilIface w := fun _ => by kernel_rfl

theorem mLength_c {w : World} {r : Nat} {es : Ents} (hm : IsMap w r es) (R : Ending → World → Prop) (hR : R (.returned (.int .i64 es.length)) w) : Calls Try.prog 104 #[.map (some r)] w R := by
  have hl := run_len_ents (P := Try.prog) Try.underlying183 3 hm
  have hR' := Lib.hid hR
  clear hR
  go_enter Try.func104, Try.ntmps104
  go_wp2_with fail
  exact hR'.out
@[go_sem] theorem meth_mIterateUsing (n r : Nat) (w : World) : (method (n + 1) 183 (.map (some r)) "IterateUsing").run Try.prog w = .ok (103, .map (some r)) w := by kernel_rfl
theorem IsTm.len {w : World} {X : List Nat} {r : Nat} {ts : EntsOfT T} (h : IsTm w X r ts) : ∃ es, IsMap w r es ∧ es.length = ts.length := by
  obtain ⟨⟨es, h1, h2⟩, _⟩ := h
  exact ⟨es, h1, h2.length⟩
theorem Try.info114 : (Try.prog.info? 114).map (fun i => (i.zero, i.size, i.bytes)) = some (some (.pointer none), 1, 8) := by kernel_rfl

@[go_sem] theorem meth_lEqualsUsing (n c m : Nat) (o : Option Addr) (w : World) : (method (n + 1) 197 (.slice o m c) "EqualsUsing").run Try.prog w = .ok (119, .slice o m c) w := by kernel_rfl
@[go_sem] theorem meth_mEqualsUsing (n r : Nat) (w : World) : (method (n + 1) 183 (.map (some r)) "EqualsUsing").run Try.prog w = .ok (98, .map (some r)) w := by kernel_rfl
end Go.Proofs.Ytnndacgokehkpaa
