/- impl.toAtom and its kin: types handed to the package. -/
import Derived.Test.YtamcgcncghabhaaSTypes
import Derived.Test.YtamcgcncghabhaaPlain
namespace Go.Proofs.Ytamcgcncghabhaa
open Go.RowKit

theorem empty_eq {s : ByteArray} (h : s.toList.isEmpty = true) : s = ⟨#[]⟩ := toList_inj (by simpa using h)

theorem empty_ne {s : ByteArray} (h : s.toList.isEmpty = false) : ¬ s = ⟨#[]⟩ := fun e => by
  have h2 : (⟨#[]⟩ : ByteArray).toList.isEmpty = true := by simp
  rw [e, h2] at h
  cases h
theorem alloc_old (w : World) (o : Obj) {k : Nat} (h : k < w.heap.size) : (w.alloc o).heap[k]? = w.heap[k]? := by show (w.heap.push _)[_]? = _; rw [push_get, if_neg (by omega)]
theorem alloc_new (w : World) (o : Obj) {k : Nat} (h : k = w.heap.size) : (w.alloc o).heap[k]? = some o := by show (w.heap.push _)[_]? = _; rw [push_get, if_pos h]
theorem alloc_get (w : World) (o : Obj) (k : Nat) : (w.alloc o).heap[k]? = if k = w.heap.size then some o else w.heap[k]? := push_get _ _ _

theorem ptr_one (a : Option Addr) : (Value.pointer a).oneCell' = true := rfl
theorem str_one (s : ByteArray) : (Value.string s).oneCell' = true := rfl
theorem slice_one (a : Option Addr) (n c : Nat) : (Value.slice a n c).oneCell' = true := rfl
theorem nil_one : Value.nilIface.oneCell' = true := rfl
theorem bool_one (b : Bool) : (Value.bool b).oneCell' = true := rfl

theorem kA_three {d : Nat} {w : World} {X : List Nat} {cs : List Value} {a : A} (h : (kA d).is w X cs a) : ∃ a0 a1 a2, cs = [a0, a1, a2] ∧ a0.oneCell' = true ∧ a1.oneCell' = true ∧ a2.oneCell' = true := by
  obtain ⟨a0, a1, a2, rfl⟩ := three_of (by rw [(kA d).len h, kA_size])
  have h1 := (kA d).one h
  exact ⟨a0, a1, a2, rfl, h1 _ (by simp), h1 _ (by simp), h1 _ (by simp)⟩
theorem ksA_three {d : Nat} {w : World} {X : List Nat} {cs : List Value} {a : SA} (h : (ksA d).is w X cs a) : ∃ a0 a1 a2, cs = [a0, a1, a2] ∧ a0.oneCell' = true ∧ a1.oneCell' = true ∧ a2.oneCell' = true := by
  obtain ⟨a0, a1, a2, rfl⟩ := three_of (by rw [(ksA d).len h, ksA_size])
  have h1 := (ksA d).one h
  exact ⟨a0, a1, a2, rfl, h1 _ (by simp), h1 _ (by simp), h1 _ (by simp)⟩

theorem Try.info88 : (Try.prog.info? 88).map (fun i => (i.zero, i.size, i.bytes)) = some (some (.pointer none), 1, 8) := by kernel_rfl
theorem kRf_six {d : Nat} {w : World} {X : List Nat} {cs : List Value} {r : RfOf A} (h : (kRf (kA d)).is w X cs r) : ∃ a0 a1 a2 a3 a4 a5, cs = [a0, a1, a2, a3, a4, a5] ∧ a0.oneCell' = true ∧ a1.oneCell' = true ∧ a2.oneCell' = true ∧ a3.oneCell' = true ∧ a4.oneCell' = true ∧ a5.oneCell' = true := by
  obtain ⟨a0, a1, a2, a3, a4, a5, rfl⟩ := six_of (by rw [(kRf (kA d)).len h]; simp [kRf, kA_size])
  have h1 := (kRf (kA d)).one h
  exact ⟨a0, a1, a2, a3, a4, a5, rfl, h1 _ (by simp), h1 _ (by simp), h1 _ (by simp), h1 _ (by simp), h1 _ (by simp), h1 _ (by simp)⟩
theorem ksRf_six {d : Nat} {w : World} {X : List Nat} {cs : List Value} {r : SRf SA} (h : (ksRf (ksA d)).is w X cs r) : ∃ a0 a1 a2 a3 a4 a5, cs = [a0, a1, a2, a3, a4, a5] ∧ a0.oneCell' = true ∧ a1.oneCell' = true ∧ a2.oneCell' = true ∧ a3.oneCell' = true ∧ a4.oneCell' = true ∧ a5.oneCell' = true := by
  obtain ⟨a0, a1, a2, a3, a4, a5, rfl⟩ := six_of (by rw [(ksRf (ksA d)).len h]; simp [ksRf, ksA_size])
  have h1 := (ksRf (ksA d)).one h
  exact ⟨a0, a1, a2, a3, a4, a5, rfl, h1 _ (by simp), h1 _ (by simp), h1 _ (by simp), h1 _ (by simp), h1 _ (by simp), h1 _ (by simp)⟩

section
variable {P : Program}
/-- append(nil, x..) of a slice of strings -/
theorem wp_strsCopy {w : World} {X : List Nat} {v : Value} {ss : List ByteArray} {o : Oper} {a : Act} {K : Act → World → Prop} {Q : Exit → Act → World → Prop} (hss : IsStrs w X v ss) (hX : Old X w) (s x : Operand) (t te : TypeId) (hte : te = 9)
    (ho : o.op = .call { callee := .builtin .append, args := #[s, x], argTypes := #[t, t] }) (ht : P.underlying t = some (.slice te)) (hi : (P.info? te).map (fun i => (i.zero, i.size, i.bytes)) = some (some (.string ⟨#[]⟩), 1, 16))
    (hs : a.eval s = .slice none 0 0) (hx : a.eval x = v) (h : ∀ v' w', Ext w w' → IsStrs w' X v' ss → K (a.put o.dst v') w') : o.wp P a w K Q := by
  subst hte
  obtain ⟨so, c, b, off, rfl, h1, h2, h3, h4⟩ := hss.ex
  obtain ⟨i, hi1, hz, hsize, hby⟩ := info_parts hi
  obtain ⟨v', w', hr, ho', hg', hn', hd'⟩ := run_append_gen (P := P) w t o.type 9 ht hi rfl (by decide) (Own.nil w 9 1) so ss.length c (ss.map Value.string) (by simp) (fun e => by
      rcases Nat.eq_zero_or_pos ss.length with h0 | h0
      · exact h0
      · have := (h3 h0).1; rw [this] at e; cases e) (fun ad e j u hj => by
      have hj' : j < ss.length := by
        have := (List.getElem?_eq_some_iff.1 hj).1
        simpa using this
      have h5 := (h3 (by omega)).1
      rw [e] at h5
      cases h5
      rw [addr_add]
      have := (h4 j hj').1
      rw [this]
      simp only [List.getElem?_map, List.getElem?_eq_getElem hj', Option.map_some, Option.some.injEq] at hj
      rw [← hj]
      simp [hj']) (fun u hu => by obtain ⟨q, _, rfl⟩ := List.mem_map.1 hu; rfl) (by rw [maxLen_eq]; omega) (by omega)
  unfold Oper.wp execOp
  simp only [ho, resolve, invoke, builtin, Sem.run_bind, Sem.run_pure, Result.andThen_ok, List.map_toArray, List.map_cons, List.map_nil, hs, hx, hr]
  have hE : Ext w w' := (Ext.refl w).grown hg' (fun k hk => by simp [Value.ownBlock] at hk)
  refine h v' w' hE (IsStrs.of_own (by simpa using ho') (fun g hg hx => ?_) h2 hss.small)
  rcases hd' g hg with h | h
  · simp [Value.ownBlock] at h
  · have := hX g hx; omega
end

end Go.Proofs.Ytamcgcncghabhaa
