/- The order of strings by their bytes, and lists of fields in that order: plain Lean. -/
import Derived.Test.YtnndacgokehkpaaMap
namespace Go.Proofs.Ytnndacgokehkpaa

theorem bl_irrefl : ∀ x : List UInt8, Op.bytesLess x x = false
  | [] => rfl
  | a :: x => by simp [Op.bytesLess, bl_irrefl x]
theorem bl_trans : ∀ {x y z : List UInt8}, Op.bytesLess x y = true → Op.bytesLess y z = true → Op.bytesLess x z = true
  | _, [], _, h, _ => by simp [Op.bytesLess] at h
  | _, _ :: _, [], _, h => by simp [Op.bytesLess] at h
  | [], _ :: _, _ :: _, _, _ => by simp [Op.bytesLess]
  | a :: x, b :: y, c :: z, h1, h2 => by
    simp only [Op.bytesLess, Bool.or_eq_true, decide_eq_true_eq, Bool.and_eq_true, beq_iff_eq] at h1 h2 ⊢
    rcases h1 with h1 | ⟨rfl, h1⟩
    · rcases h2 with h2 | ⟨rfl, h2⟩
      · exact .inl (UInt8.lt_trans h1 h2)
      · exact .inl h1
    · rcases h2 with h2 | ⟨rfl, h2⟩
      · exact .inl h2
      · exact .inr ⟨rfl, bl_trans h1 h2⟩
theorem bl_total : ∀ {x y : List UInt8}, Op.bytesLess x y = false → Op.bytesLess y x = false → x = y
  | [], [], _, _ => rfl
  | [], _ :: _, h, _ => by simp [Op.bytesLess] at h
  | _ :: _, [], _, h => by simp [Op.bytesLess] at h
  | a :: x, b :: y, h1, h2 => by
    simp only [Op.bytesLess, Bool.or_eq_false_iff, decide_eq_false_iff_not, Bool.and_eq_false_iff, beq_eq_false_iff_ne] at h1 h2
    have hab : a = b := by
      have := h1.1; have := h2.1
      exact UInt8.le_antisymm (by simpa using h2.1) (by simpa using h1.1)
    subst hab
    have h3 : Op.bytesLess x y = false := by simpa using h1.2
    have h4 : Op.bytesLess y x = false := by simpa using h2.2
    rw [bl_total h3 h4]

theorem toList_inj {a b : ByteArray} (h : a.toList = b.toList) : a = b := by
  have : (a == b) = true := by rw [beq_toListBytes, h]; simp
  simpa using this

/-- a comes before b -/
def slt (a b : ByteArray) : Bool := Op.bytesLess a.toList b.toList
theorem slt_irrefl (a : ByteArray) : slt a a = false := bl_irrefl _
theorem slt_trans {a b c : ByteArray} (h1 : slt a b = true) (h2 : slt b c = true) : slt a c = true := bl_trans h1 h2
theorem slt_total {a b : ByteArray} (h1 : slt a b = false) (h2 : slt b a = false) : a = b := toList_inj (bl_total h1 h2)
theorem slt_asymm {a b : ByteArray} (h : slt a b = true) : slt b a = false := by
  rw [Bool.eq_false_iff]
  intro h2
  have := slt_trans h h2
  rw [slt_irrefl] at this
  cases this
theorem slt_ne {a b : ByteArray} (h : slt a b = true) : a ≠ b := by
  rintro rfl
  rw [slt_irrefl] at h
  cases h

/-- keys in increasing order, each once -/
def Rising : List ByteArray → Prop
  | [] => True
  | k :: ks => (∀ x ∈ ks, slt k x = true) ∧ Rising ks
theorem Rising.lt {ks : List ByteArray} (h : Rising ks) : ∀ i j (hij : i < j) (hj : j < ks.length), slt (ks[i]) (ks[j]) = true := by
  induction ks with
  | nil => intro i j hij hj; simp at hj
  | cons k ks ih =>
    intro i j hij hj
    cases j with
    | zero => omega
    | succ j =>
      cases i with
      | zero => exact h.1 _ (List.getElem_mem _)
      | succ i => exact ih h.2 i j (by omega) (by simpa using hj)

/-- the number of keys ahead of key -/
def lowB (key : ByteArray) : List ByteArray → Nat
  | [] => 0
  | k :: ks => if slt k key then lowB key ks + 1 else 0
theorem lowB_le (key : ByteArray) (ks : List ByteArray) : lowB key ks ≤ ks.length := by
  induction ks with
  | nil => simp [lowB]
  | cons k ks ih => simp only [lowB]; split <;> simp; omega
theorem lowB_eq (key : ByteArray) : ∀ (ks : List ByteArray) (n : Nat), n ≤ ks.length → (∀ j (h : j < ks.length), j < n → slt (ks[j]) key = true) → (∀ h : n < ks.length, slt (ks[n]) key = false) → lowB key ks = n
  | [], n, hn, _, _ => by simp at hn; simp [lowB, hn]
  | k :: ks, n, hn, h1, h2 => by
    simp only [lowB]
    cases n with
    | zero =>
      have := h2 (by simp)
      simp at this
      simp [this]
    | succ n =>
      have h0 := h1 0 (by simp) (by omega)
      simp at h0
      simp only [h0, if_true]
      rw [lowB_eq key ks n (by simpa using hn) (fun j h hj => h1 (j + 1) (by simpa using h) (by omega)) (fun h => h2 (by simpa using h))]

/-- is key among the keys (in increasing order) -/
def hasB (key : ByteArray) (ks : List ByteArray) : Bool := if h : lowB key ks < ks.length then ks[lowB key ks] == key else false

/-- the field key with the value v in a list of fields in order -/
def insK {α : Type} (key : ByteArray) (v : α) : EntsOfT α → EntsOfT α
  | [] => [(key, v)]
  | e :: es => if slt e.1 key then e :: insK key v es else if e.1 == key then (key, v) :: es else (key, v) :: e :: es

theorem insK_eq {α : Type} (key : ByteArray) (v : α) (es : EntsOfT α) :
    insK key v es = es.take (lowB key (es.map (·.1))) ++ (key, v) :: es.drop (lowB key (es.map (·.1)) + if hasB key (es.map (·.1)) then 1 else 0) := by
  induction es with
  | nil => simp [insK, lowB, hasB]
  | cons e es ih =>
    simp only [insK, List.map_cons, lowB]
    cases hs : slt e.1 key with
    | true =>
      simp only [if_true, List.take_succ_cons, List.cons_append]
      rw [ih]
      have : hasB key (e.1 :: es.map (·.1)) = hasB key (es.map (·.1)) := by
        simp only [hasB, lowB, hs, if_true, List.length_cons]
        by_cases h : lowB key (es.map (·.1)) < (es.map (·.1)).length
        · rw [dif_pos (by omega), dif_pos h]; simp
        · rw [dif_neg (by omega), dif_neg h]
      rw [this]
      congr 2
      rw [show lowB key (es.map (·.1)) + 1 + (if hasB key (es.map (·.1)) = true then 1 else 0) = (lowB key (es.map (·.1)) + if hasB key (es.map (·.1)) = true then 1 else 0) + 1 from by omega]
      simp
    | false =>
      have : hasB key (e.1 :: es.map (·.1)) = (e.1 == key) := by simp [hasB, lowB, hs]
      rw [this]
      cases hk : e.1 == key <;> simp

theorem insK_mem {α : Type} {key : ByteArray} {v : α} {es : EntsOfT α} {p : ByteArray × α} (h : p ∈ insK key v es) : p = (key, v) ∨ p ∈ es := by
  induction es with
  | nil => simpa [insK] using h
  | cons e es ih =>
    simp only [insK] at h
    split at h
    · simp only [List.mem_cons] at h ⊢
      rcases h with h | h
      · exact .inr (.inl h)
      · rcases ih h with h | h
        · exact .inl h
        · exact .inr (.inr h)
    · split at h
      · simp only [List.mem_cons] at h ⊢
        rcases h with h | h
        · exact .inl h
        · exact .inr (.inr h)
      · simpa using h

theorem insK_rising {α : Type} {key : ByteArray} {v : α} {es : EntsOfT α} (h : Rising (es.map (·.1))) : Rising ((insK key v es).map (·.1)) := by
  induction es with
  | nil => simp [insK, Rising]
  | cons e es ih =>
    simp only [List.map_cons, Rising] at h
    simp only [insK]
    cases hs : slt e.1 key with
    | true =>
      simp only [if_true, List.map_cons, Rising]
      refine ⟨fun x hx => ?_, ih h.2⟩
      obtain ⟨p, hp, rfl⟩ := List.mem_map.1 hx
      rcases insK_mem hp with rfl | hp
      · exact hs
      · exact h.1 _ (List.mem_map.2 ⟨p, hp, rfl⟩)
    | false =>
      simp only [Bool.false_eq_true, if_false]
      cases hk : e.1 == key with
      | true =>
        have : e.1 = key := by simpa using hk
        subst this
        simpa [Rising] using h
      | false =>
        have hne : ¬ e.1 = key := by simpa using hk
        have hlt : slt key e.1 = true := by
          cases h3 : slt key e.1 with
          | true => rfl
          | false => exact absurd (slt_total hs h3) hne
        simp only [Bool.false_eq_true, if_false, List.map_cons, Rising]
        refine ⟨fun x hx => ?_, h.1, h.2⟩
        simp only [List.mem_cons] at hx
        rcases hx with rfl | hx
        · exact hlt
        · exact slt_trans hlt (h.1 x hx)

theorem insK_length {α : Type} (key : ByteArray) (v : α) (es : EntsOfT α) : (insK key v es).length ≤ es.length + 1 := by
  induction es with
  | nil => simp [insK]
  | cons e es ih => simp only [insK]; split <;> (try split) <;> simp; omega

end Go.Proofs.Ytnndacgokehkpaa
