/- Lists over trees and the walk over them: value.List, value.ListRange. -/
import Derived.Test.YtnndacgokehkpaaFrom
namespace Go.Proofs.Ytnndacgokehkpaa
open Go.RowKit

/-- w' is w with more blocks, and with whatever in the blocks B -/
structure Mut (w : World) (B : List Nat) (w' : World) : Prop where
  os : w'.os = w.os
  tape : w'.tape = w.tape
  output : w'.output = w.output
  size : w.heap.size ≤ w'.heap.size
  block : ∀ k, k < w.heap.size → k ∉ B → w'.heap[k]? = w.heap[k]?

theorem Ext.mut {w w' : World} (h : Ext w w') (B : List Nat) : Mut w B w' := ⟨h.below.os, h.below.tape, h.below.output, h.size, fun k hk _ => h.below.block k hk⟩
theorem grown_mut {w w' : World} {b : Nat} {B : List Nat} (h : w.grownBy w' (some b)) (hb : b ∈ B) : Mut w B w' := ⟨h.os, h.tape, h.output, h.size, fun k hk hn => h.block k hk (fun e => by cases e; exact hn hb)⟩
theorem Mut.trans {a b c : World} {B : List Nat} (h : Mut a B b) (k : Mut b B c) : Mut a B c :=
  ⟨k.os.trans h.os, k.tape.trans h.tape, k.output.trans h.output, Nat.le_trans h.size k.size, fun i hi hn => (k.block i (Nat.lt_of_lt_of_le hi h.size) hn).trans (h.block i hi hn)⟩
theorem Mut.more {w w' : World} {B C : List Nat} (h : Mut w B w') (hB : ∀ b ∈ B, b ∈ C) : Mut w C w' := ⟨h.os, h.tape, h.output, h.size, fun k hk hn => h.block k hk (fun hb => hn (hB k hb))⟩
theorem Mut.mv {w w' : World} {B X : List Nat} (h : Mut w B w') (hB : ∀ b ∈ B, b ∈ X) : Mv w X w' X := ⟨h.size, fun k hk hx => ⟨h.block k hk (fun hb => hx (hB k hb)), hx⟩⟩
/-- what is written into blocks that are newer than all that a held -/
theorem Ext.mutated {a b c : World} {B : List Nat} (h : Ext a b) (m : Mut b B c) (hB : ∀ k ∈ B, a.heap.size ≤ k) : Ext a c :=
  ⟨m.os.trans h.below.os, m.tape.trans h.below.tape, m.output.trans h.below.output, Nat.le_trans h.size m.size, fun k hk => (m.block k (Nat.lt_of_lt_of_le hk h.size) (fun hb => by have := hB k hb; omega)).trans (h.below.block k hk)⟩

theorem run_method_ptr {P : Program} {w : World} {t elem : TypeId} {name : String} {fid : FuncId} {p : Addr} (n : Nat)
    (h1 : (P.info? t).bind (fun i => (i.methods.find? (·.name == name)).map (fun m => (m.path.toList, m.func))) = some ([], some (fid, true))) (hu : P.underlying t = some (.pointer elem)) :
    (method (n + 1) t (.pointer (some p)) name).run P w = .ok (fid, .pointer (some p)) w := by
  obtain ⟨i, hi, h2⟩ := Option.bind_eq_some_iff.1 h1
  obtain ⟨m, hm, h3⟩ := Option.map_eq_some_iff.1 h2
  simp only [Prod.mk.injEq] at h3
  obtain ⟨h3, h4⟩ := h3
  rw [method]
  simp [typeInfo, hi, hm, h3, h4, follow, receiverAt, run_underlying hu, Place.get, asAddr]

@[go_sem] theorem meth_rangeNext (n b off : Nat) (w : World) : (method (n + 1) 188 (.pointer (some ⟨b, off, none⟩)) "Next").run Try.prog w = .ok (115, .pointer (some ⟨b, off, none⟩)) w := run_method_ptr n (by kernel_rfl) Try.underlying188
@[go_sem] theorem meth_rangeItem (n b off : Nat) (w : World) : (method (n + 1) 188 (.pointer (some ⟨b, off, none⟩)) "Item").run Try.prog w = .ok (124, .pointer (some ⟨b, off, none⟩)) w := run_method_ptr n (by kernel_rfl) Try.underlying188

theorem Try.info197 : (Try.prog.info? 197).map (fun i => (i.zero, i.size, i.bytes)) = some (some (.slice none 0 0), 1, 24) := by kernel_rfl
theorem Try.info3 : (Try.prog.info? 3).map (fun i => (i.zero, i.size, i.bytes)) = some (some (.int .i64 0), 1, 8) := by kernel_rfl

set_option maxRecDepth 100000 in
set_option maxHeartbeats 1000000 in
theorem reuse_c {w : World} {ib : Nat} {x y : Value} (h2 : w.heap[ib]? = some (.cells #[x] 135 (0, 0))) (hone : y.oneCell' = true) (R : Ending → World → Prop)
    (hR : ∀ w', w'.heap[ib]? = some (.cells #[y] 135 (0, 0)) → w.grownBy w' (some ib) → R (.returned (.iface 114 (.pointer (some ⟨ib, 0, none⟩)))) w') :
    Calls Try.prog 50 #[.pointer (some ⟨ib, 0, none⟩), y] w R := by
  have hR' := Lib.hid hR
  clear hR
  have c0 : w.cell? ⟨ib, 0, none⟩ = some x := cells_of h2 0
  go_enter Try.func50, Try.ntmps50
  go_wp2_with (refine wpL_store1 rfl _ _ _ rfl Try.info20 (p := ⟨ib, 0, none⟩) (v := y) rfl rfl hone (by rw [c0]; rfl) (frozen_of_row _ _ _ _ _ h2) ?_)
  obtain ⟨hh3, hg3, hs3⟩ := set_facts (off := 0) y h2
  exact hR'.out _ hh3 hg3

end Go.Proofs.Ytnndacgokehkpaa
