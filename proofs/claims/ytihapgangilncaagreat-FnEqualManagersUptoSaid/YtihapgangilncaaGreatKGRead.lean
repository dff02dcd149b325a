/- What an argument reads as is a value. -/
import Derived.Test.YtihapgangilncaaGreatKGRep
import Derived.Deep.Strs
namespace Go.Proofs.YtihapgangilncaaGreat
open Go.RowKit Go.Deep Go.ChangeShapes Go.WideShapes

instance : Inhabited V := ⟨.mk 0 0 0 ⟨#[]⟩ [] []⟩

theorem trod_float {H : Type} {enc : TypeId × Value → H} {P : Program} {w : World} {base : Nat} {spare : Nat → Bool} {held : Bool} {t : TypeId} {fuel : Nat} {cs : List Value} {x : DataW H × List MemPlace} {k : FloatKind} (ht : P.underlying t = some (.float k))
    (h : DataW.trod enc P w base spare held fuel t cs = some x) : ∃ n, cs = [.float k n] ∧ x = (.lit (.float k n), []) ∧ (Lit.float k n).wf = true := by
  cases fuel with
  | zero => simp [DataW.trod] at h
  | succ n =>
    unfold DataW.trod at h
    rw [ht] at h
    split at h <;> simp_all

theorem weightsAll_mem {H : Type} {P : Program} {e : TypeId} {p : Nat → Bool} {d : DataW H} {l : List (DataW H)} (hd : d ∈ l) (h : (DataW.weightsAll P e l).all p = true) : (d.weights P e).all p = true := by
  induction l with
  | nil => simp at hd
  | cons a l ih =>
    rw [DataW.weightsAll, List.all_append, Bool.and_eq_true] at h
    rcases List.mem_cons.1 hd with rfl | hd
    · exact h.1
    · exact ih hd h.2

theorem spot_none {w : World} {a : Addr} {v : Value} (h : w.cell? a = some v) : a = ⟨a.block, a.off, none⟩ := by
  obtain ⟨b, off, sp⟩ := a
  cases sp with
  | none => rfl
  | some s =>
    exfalso
    unfold World.cell? at h
    split at h <;> simp at h

theorem spot_add {w : World} {a : Addr} {v : Value} (h : w.cell? a = some v) (i : Nat) : a.add i = ⟨a.block, a.off + i, none⟩ := by
  have e := spot_none h
  obtain ⟨b, off, sp⟩ := a
  simp only [Addr.mk.injEq, true_and] at e
  subst e
  exact addr_add b off i
theorem reach_eq : reachBytes = 140737488351232 := by decide

section
variable {H : Type} {enc : TypeId × Value → H} {w : World} {base : Nat} {spare : Nat → Bool} {held : Bool}

set_option maxRecDepth 100000 in
theorem read_strs {fuel : Nat} {cs : List Value} {x : DataW H × List MemPlace} (h : DataW.trod enc Tryz.prog w base spare held fuel 41 cs = some x) (hw : (x.1.weights Tryz.prog 41).all (· ≤ reachBytes) = true) :
    ∃ v ss, cs = [v] ∧ IsStrs w [] v ss := by
  rcases open_strs Tryz.underlying41 Tryz.underlying9 (by kernel_rfl) h with ⟨rfl, rfl⟩ | ⟨a, len, cap, m, Sx, rfl, hb, hl, hm, hmm, rfl, hx⟩
  · exact ⟨_, [], rfl, none, 0, 0, 0, rfl, by simp, by simp, fun h => by simp at h, fun i hi => by simp at hi⟩
  · have hlm : len ≤ m := by rw [hmm]; split <;> omega
    rw [DataW.weights, Tryz.underlying41] at hw
    simp only [List.all_cons, List.all_append, Bool.and_eq_true, decide_eq_true_eq, List.length_map, List.length_range] at hw
    have hby : Tryz.prog.bytesOf 9 = 16 := by kernel_rfl
    rw [hby] at hw
    refine ⟨_, (List.range len).map Sx, rfl, some a, cap, a.block, a.off, by simp, by simpa using hl, ?_, fun hp => ?_, fun i hi => ?_⟩
    · have h2 := hw.1
      rw [reach_eq] at h2
      simp only [List.length_map, List.length_range]
      exact Nat.le_trans (Nat.mul_le_mul_right 16 (by omega)) h2
    · have h0 := (hx 0 (by simp at hp; omega)).1
      have e : a.add 0 = a := by simp [Addr.add]
      rw [e] at h0
      exact ⟨congrArg some (spot_none h0), by simp⟩
    · simp only [List.length_map, List.length_range] at hi
      have h0 := (hx 0 (by omega)).1
      have e : a.add 0 = a := by simp [Addr.add]
      rw [e] at h0
      have hi' := (hx i (by omega)).1
      rw [spot_add h0] at hi'
      have hg : ((List.range len).map Sx).getD i ByteArray.empty = Sx i := by simp [List.getD_eq_getElem?_getD, hi]
      rw [hg]
      refine ⟨hi', ?_⟩
      have hs := weightsAll_mem (P := Tryz.prog) (e := 9) (p := fun x => decide (x ≤ reachBytes)) (d := .lit (.string (Sx i).data.toList)) (l := (List.range len).map fun i => .lit (.string (Sx i).data.toList)) (List.mem_map.2 ⟨i, List.mem_range.2 hi, rfl⟩) hw.2.1
      rw [DataW.weights] at hs
      rw [reach_eq] at hs
      have h2 : (Sx i).data.toList.length ≤ 140737488351232 := by simpa using hs
      exact h2

set_option maxRecDepth 100000 in
set_option maxHeartbeats 1000000 in
theorem read_v : ∀ (fuel : Nat) (cs : List Value) (x : DataW H × List MemPlace), DataW.trod enc Tryz.prog w base spare held fuel 45 cs = some x → (x.1.weights Tryz.prog 45).all (· ≤ reachBytes) = true → ∃ v, IsV w [] cs v := by
  intro fuel
  induction fuel using Nat.strongRecOn with
  | ind fuel IH =>
  intro cs x h hw
  obtain ⟨xs, n, rfl, rfl, hlen, hxl, hel⟩ := DataW.trod_struct Tryz.underlying45 h
  have q6 : Tryz.prog.cellsOf 45 = 6 := by kernel_rfl
  have q0 : Tryz.prog.cellsOf 3 = 1 := by kernel_rfl
  have q1 : Tryz.prog.cellsOf 2 = 1 := by kernel_rfl
  have q2 : Tryz.prog.cellsOf 43 = 1 := by kernel_rfl
  have q3 : Tryz.prog.cellsOf 9 = 1 := by kernel_rfl
  have q4 : Tryz.prog.cellsOf 41 = 1 := by kernel_rfl
  have q5 : Tryz.prog.cellsOf 42 = 1 := by kernel_rfl
  rw [q6] at hlen
  have e0 := hel 0
  have e1 := hel 1
  have e2 := hel 2
  have e3 := hel 3
  have e4 := hel 4
  have e5 := hel 5
  clear hel h
  simp only [List.getElem?_toArray, List.getElem?_cons_zero, List.getElem?_cons_succ, Option.some.injEq, forall_eq'] at e0 e1 e2 e3 e4 e5
  rw [q0] at e0
  rw [q1] at e1
  rw [q2] at e2
  rw [q3] at e3
  rw [q4] at e4
  rw [q5] at e5
  obtain ⟨c0, c1, c2, c3, c4, c5, rfl⟩ : ∃ c0 c1 c2 c3 c4 c5, cs = [c0, c1, c2, c3, c4, c5] := by
    match cs, hlen with
    | [c0, c1, c2, c3, c4, c5], _ => exact ⟨_, _, _, _, _, _, rfl⟩
  obtain ⟨a0, a1, a2, a3, a4, a5, rfl⟩ : ∃ a0 a1 a2 a3 a4 a5, xs = [a0, a1, a2, a3, a4, a5] := by
    match xs, hxl with
    | [c0, c1, c2, c3, c4, c5], _ => exact ⟨_, _, _, _, _, _, rfl⟩
  simp only [List.drop_zero, List.drop_succ_cons, List.take_succ_cons, List.take_zero, List.getElem?_cons_zero, List.getElem?_cons_succ] at e0 e1 e2 e3 e4 e5
  rw [DataW.weights, Tryz.underlying45] at hw
  simp only [List.map_cons, List.map_nil, DataW.weightsEach, List.all_append, Bool.and_eq_true] at hw
  obtain ⟨-, -, -, w3, w4, w5, -⟩ := hw
  obtain ⟨k0, h0, rfl, wf0⟩ := DataW.trod_int Tryz.underlying3 e0
  obtain ⟨k1, h1, rfl, wf1⟩ := DataW.trod_int Tryz.underlying2 e1
  obtain ⟨k2, h2, rfl, wf2⟩ := trod_float Tryz.underlying43 e2
  obtain ⟨s, h3, rfl, -⟩ := DataW.trod_string Tryz.underlying9 e3
  obtain ⟨v4, keys, h4, hks⟩ := read_strs e4 w4
  simp only [List.cons.injEq, and_true] at h0 h1 h2 h3 h4
  subst h0 h1 h2 h3 h4
  have hs : s.size ≤ 140737488351232 := by
    rw [DataW.weights, reach_eq] at w3
    have h2 : s.data.toList.length ≤ 140737488351232 := by simpa using w3
    exact h2
  have hls : ∃ l, IsVs w [] c5 l := by
    rcases DataW.trod_slice Tryz.underlying42 e5 with ⟨h5, -⟩ | ⟨a, len, cap, elems, rest, n', rfl, h5, rfl, -, hl, hm, hen, hel, -, -⟩
    · simp only [List.cons.injEq, and_true] at h5
      subst h5
      exact ⟨[], IsVs.nil _ _⟩
    · simp only [List.cons.injEq, and_true] at h5
      subst h5
      rw [DataW.weights, Tryz.underlying42] at w5
      simp only [List.all_cons, List.all_append, Bool.and_eq_true, decide_eq_true_eq, List.length_map] at w5
      have hby : Tryz.prog.bytesOf 45 = 88 := by kernel_rfl
      rw [hby, reach_eq] at w5
      have hall : ∀ i, i < len → ∃ v : V, ∃ y : Cells6, IsV w [] y.list v ∧ ∀ j, j < 6 → w.cell? ((a.add (i * 6)).add j) = y.list[j]? := fun i hi => by
        have h6 := hel i hi
        rw [q6, List.getElem?_eq_getElem (by omega)] at h6
        obtain ⟨cs', hc1, hc2⟩ := Option.bind_eq_some_iff.1 h6
        obtain ⟨-, -, hcc⟩ := World.cells?_some hc1
        have hwe := weightsAll_mem (P := Tryz.prog) (e := 45) (p := fun x => decide (x ≤ reachBytes)) (d := (elems[i]'(by omega)).1) (l := elems.map (·.1)) (List.mem_map.2 ⟨_, List.getElem_mem _, rfl⟩) (by rw [reach_eq]; exact w5.2.1)
        obtain ⟨v, hv⟩ := IH n' (by omega) cs' _ hc2 hwe
        obtain ⟨y, rfl⟩ := hv.shape
        exact ⟨v, y, hv, hcc⟩
      obtain ⟨f, hf⟩ := choose_lt hall
      refine ⟨(List.range len).map f, some a, cap, a.block, a.off, by simp, by simpa using hl, ?_, fun hp => ?_, fun i hi => ?_⟩
      · simp only [List.length_map, List.length_range]
        exact Nat.le_trans (Nat.mul_le_mul_right 88 (by omega)) w5.1
      · obtain ⟨y, -, hy⟩ := hf 0 (by simpa using hp)
        have h0 := hy 0 (by omega)
        have e : (a.add (0 * 6)).add 0 = a := by simp [Addr.add]
        rw [e] at h0
        exact ⟨congrArg some (spot_none h0), by simp⟩
      · simp only [List.length_map, List.length_range] at hi
        obtain ⟨y0, -, hy0⟩ := hf 0 (by omega)
        have h0 := hy0 0 (by omega)
        have e : (a.add (0 * 6)).add 0 = a := by simp [Addr.add]
        rw [e] at h0
        obtain ⟨y, hv, hy⟩ := hf i hi
        simp only [spot_add h0, addr_add] at hy
        refine ⟨y, hy 0 (by omega), hy 1 (by omega), hy 2 (by omega), hy 3 (by omega), hy 4 (by omega), hy 5 (by omega), ?_⟩
        simpa using hv
  obtain ⟨l, hls⟩ := hls
  exact ⟨_, IsV.of wf0 wf1 wf2 hs hks hls⟩

end

end Go.Proofs.YtihapgangilncaaGreat
