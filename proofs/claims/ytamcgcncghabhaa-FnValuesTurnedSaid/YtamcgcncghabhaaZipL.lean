/- Insertion sort of keys, and what is asked of a function that is called along two maps: no code yet. -/
import Derived.Test.YtamcgcncghabhaaCmpF
namespace Go.Proofs.Ytamcgcncghabhaa
open Go.RowKit

/-- e, which stood behind ks, moved down to place j -/
def mvd (ks : List ByteArray) (e : ByteArray) (rest : List ByteArray) (j : Nat) : List ByteArray := (ks.take j ++ e :: ks.drop j) ++ rest

theorem mvd_top (ks : List ByteArray) (e : ByteArray) (rest : List ByteArray) : mvd ks e rest ks.length = ks ++ e :: rest := by simp [mvd]
theorem mvd_perm (ks : List ByteArray) (e : ByteArray) (rest : List ByteArray) (j : Nat) : (mvd ks e rest j).Perm (ks ++ e :: rest) := by
  have h1 : (ks.take j ++ e :: ks.drop j).Perm (e :: ks) := by
    have := List.perm_middle (a := e) (l₁ := ks.take j) (l₂ := ks.drop j)
    rwa [List.take_append_drop] at this
  exact (h1.append_right rest).trans (List.perm_middle (a := e) (l₁ := ks) (l₂ := rest)).symm
theorem mvd_length (ks : List ByteArray) (e : ByteArray) (rest : List ByteArray) (j : Nat) : (mvd ks e rest j).length = ks.length + 1 + rest.length := by
  rw [(mvd_perm ks e rest j).length_eq]; simp; omega
theorem mvd_at {ks : List ByteArray} {e : ByteArray} {rest : List ByteArray} {j : Nat} (hj : j ≤ ks.length) : (mvd ks e rest j)[j]? = some e := by
  have : (ks.take j).length = j := by simp; omega
  rw [mvd, List.append_assoc, List.getElem?_append_right (by omega), this, Nat.sub_self]
  rfl
theorem mvd_below {ks : List ByteArray} {e : ByteArray} {rest : List ByteArray} {m : Nat} (hm : m < ks.length) : (mvd ks e rest (m + 1))[m]? = some ks[m] := by
  have : (ks.take (m + 1)).length = m + 1 := by simp; omega
  rw [mvd, List.append_assoc, List.getElem?_append_left (by omega), List.getElem?_take_of_lt (by omega), List.getElem?_eq_getElem hm]
theorem mvd_swap (ks : List ByteArray) (e : ByteArray) (rest : List ByteArray) (m : Nat) (h : m < ks.length) :
    (((mvd ks e rest (m + 1)).map Value.string).set (m + 1) (.string (ks[m]))).set m (.string e) = (mvd ks e rest m).map Value.string := by
  have h3 : (ks.take (m + 1) ++ e :: ks.drop (m + 1)).length = ks.length + 1 := by simp; omega
  rw [← List.map_set, ← List.map_set, mvd, mvd, List.set_append_left _ _ (by rw [h3]; omega), List.set_append_left _ _ (by rw [List.length_set, h3]; omega), swap_put ks e m h]
theorem mvd_done {ks : List ByteArray} {e : ByteArray} {rest : List ByteArray} {j : Nat} (hn : (ks ++ e :: rest).Nodup) (hr : Rising ks) (hgt : ∀ x ∈ ks.drop j, slt e x = true) (hlo : j = 0 ∨ ∃ m, ∃ h : m < ks.length, j = m + 1 ∧ slt e (ks[m]) = false) :
    (mvd ks e rest j).Nodup ∧ Rising ((mvd ks e rest j).take (ks.length + 1)) ∧ ∀ k, k ∈ mvd ks e rest j ↔ k ∈ ks ++ e :: rest := by
  have hp := mvd_perm ks e rest j
  refine ⟨hp.nodup_iff.2 hn, ?_, fun k => hp.mem_iff⟩
  have hl : (ks.take j ++ e :: ks.drop j).length = ks.length + 1 := by simp; omega
  rw [mvd, ← hl, List.take_left]
  refine put_rising hr (fun hm => ?_) hgt hlo
  rw [List.nodup_append] at hn
  exact hn.2.2 e hm e (by simp) rfl

/-- a value or nil -/
def OptVal (w : World) (X : List Nat) (v : Value) : Option T → Prop
  | none => v = .nilIface
  | some t => IsVal w X v t

/-- what is asked of the function that is called along the sorted keys O of two maps -/
structure ZipV (w : World) (X : List Nat) (P Q : EntsOfT T) (O : List ByteArray) (F : FuncId) (cap : Array Value) (Inv : Nat → World → Prop) (Stop : World → Prop) : Prop where
  start : Inv 0 w
  keep : ∀ j B w1 w2, w.heap.size ≤ w1.heap.size → Inv j w1 → Mut w1 B w2 → (∀ b ∈ B, w.heap.size ≤ b) → Inv j w2
  step : ∀ j (hj : j < O.length) w1 va vb, Mut w X w1 → Inv j w1 → OptVal w1 X va (getEnt O[j] P) → OptVal w1 X vb (getEnt O[j] Q) → ∀ K : Ending → World → Prop,
    (∀ w2 b, Mut w1 X w2 → (b = true → Inv (j + 1) w2) → (b = false → Stop w2) → K (.returned (.bool b)) w2) → Calls Try.prog F (#[.string O[j], va, vb] ++ cap) w1 K
  enter : ∀ (args : Array Value) (w : World), (callFunc F args).run Try.prog w = .ok (.enter F args) w

/-- the keys that a walk over a map's entries ts has put behind those of pre: those of the visited ones for which app holds -/
structure Keys (pre : List ByteArray) (ts : EntsOfT T) (app : ByteArray → Bool) (don : List Nat) (ks : List ByteArray) : Prop where
  nodup : ks.Nodup
  m : ∀ k, k ∈ ks ↔ k ∈ pre ∨ ∃ i, ∃ h : i < ts.length, i ∈ don ∧ app (ts[i]).1 = true ∧ (ts[i]).1 = k

theorem Keys.zero {pre : List ByteArray} {ts : EntsOfT T} {app : ByteArray → Bool} (h : pre.Nodup) : Keys pre ts app [] pre := ⟨h, by simp⟩
theorem keysT_inj {ts : EntsOfT T} (h : (ts.map (·.1)).Nodup) {i j : Nat} (hi : i < ts.length) (hj : j < ts.length) (e : (ts[i]).1 = (ts[j]).1) : i = j := by
  have h1 : i < (ts.map (·.1)).length := by simpa using hi
  have h2 : j < (ts.map (·.1)).length := by simpa using hj
  exact (List.getElem_inj (h₀ := h1) (h₁ := h2) h).1 (by simpa using e)
theorem Keys.skip {pre : List ByteArray} {ts : EntsOfT T} {app : ByteArray → Bool} {don : List Nat} {ks : List ByteArray} (h : Keys pre ts app don ks) {i : Nat} (hi : i < ts.length) (ha : app (ts[i]).1 = false) : Keys pre ts app (don ++ [i]) ks := by
  refine ⟨h.nodup, fun k => ?_⟩
  rw [h.m]
  constructor
  · rintro (h1 | ⟨i', h1, h2, h3⟩)
    · exact .inl h1
    · exact .inr ⟨i', h1, by simp [h2], h3⟩
  · rintro (h1 | ⟨i', h1, h2, h3, h4⟩)
    · exact .inl h1
    · rcases List.mem_append.1 h2 with h2 | h2
      · exact .inr ⟨i', h1, h2, h3, h4⟩
      · rw [List.mem_singleton] at h2; subst h2; rw [ha] at h3; cases h3
theorem Keys.new {pre : List ByteArray} {ts : EntsOfT T} {app : ByteArray → Bool} {don : List Nat} {ks : List ByteArray} (h : Keys pre ts app don ks) (hnd : (ts.map (·.1)).Nodup) {i : Nat} (hi : i < ts.length) (hd : i ∉ don) (hp : (ts[i]).1 ∉ pre) : (ts[i]).1 ∉ ks := fun hk => by
  rcases (h.m _).1 hk with h1 | ⟨i', h1, h2, -, h4⟩
  · exact hp h1
  · exact hd (keysT_inj hnd h1 hi h4 ▸ h2)
theorem Keys.put {pre : List ByteArray} {ts : EntsOfT T} {app : ByteArray → Bool} {don : List Nat} {ks : List ByteArray} (h : Keys pre ts app don ks) (hnd : (ts.map (·.1)).Nodup) {i : Nat} (hi : i < ts.length) (hd : i ∉ don) (hp : (ts[i]).1 ∉ pre) (ha : app (ts[i]).1 = true) : Keys pre ts app (don ++ [i]) (ks ++ [(ts[i]).1]) := by
  have hnew := h.new hnd hi hd hp
  refine ⟨?_, fun k => ?_⟩
  · rw [List.nodup_append]
    refine ⟨h.nodup, by simp, fun a ha b hb e => ?_⟩
    rw [List.mem_singleton] at hb
    exact hnew (hb ▸ e ▸ ha)
  · rw [List.mem_append, h.m, List.mem_singleton]
    constructor
    · rintro ((h1 | ⟨i', h1, h2, h3⟩) | rfl)
      · exact .inl h1
      · exact .inr ⟨i', h1, by simp [h2], h3⟩
      · exact .inr ⟨i, hi, by simp, ha, rfl⟩
    · rintro (h1 | ⟨i', h1, h2, h3, h4⟩)
      · exact .inl (.inl h1)
      · rcases List.mem_append.1 h2 with h2 | h2
        · exact .inl (.inr ⟨i', h1, h2, h3, h4⟩)
        · rw [List.mem_singleton] at h2; subst h2; exact .inr h4.symm
theorem Keys.count {pre : List ByteArray} {ts : EntsOfT T} {app : ByteArray → Bool} {don : List Nat} {ks : List ByteArray} (h : Keys pre ts app don ks) : ks.length ≤ pre.length + ts.length := by
  have := nodup_le (G := pre ++ ts.map (·.1)) h.nodup (fun k hk => by
    rcases (h.m k).1 hk with h1 | ⟨i, h1, -, -, rfl⟩
    · exact List.mem_append_left _ h1
    · exact List.mem_append_right _ (List.mem_map.2 ⟨_, List.getElem_mem h1, rfl⟩))
  simpa using this
theorem Keys.all {pre : List ByteArray} {ts : EntsOfT T} {app : ByteArray → Bool} {don : List Nat} {ks : List ByteArray} (h : Keys pre ts app don ks) (hall : ∀ i, i < ts.length → i ∈ don) (happ : ∀ k, app k = true ∨ k ∈ pre) : ∀ k, k ∈ ks ↔ k ∈ pre ∨ k ∈ ts.map (·.1) := by
  intro k
  rw [h.m]
  constructor
  · rintro (h1 | ⟨i, h1, -, -, rfl⟩)
    · exact .inl h1
    · exact .inr (List.mem_map.2 ⟨_, List.getElem_mem h1, rfl⟩)
  · rintro (h1 | h1)
    · exact .inl h1
    · rcases happ k with ha | ha
      · obtain ⟨p, hp, rfl⟩ := List.mem_map.1 h1
        obtain ⟨i, hi, rfl⟩ := List.getElem_of_mem hp
        exact .inr ⟨i, hi, hall i hi, ha, rfl⟩
      · exact .inl ha
end Go.Proofs.Ytamcgcncghabhaa
