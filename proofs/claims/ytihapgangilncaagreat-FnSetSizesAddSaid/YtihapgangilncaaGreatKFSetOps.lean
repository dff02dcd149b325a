/- Unions and intersections of sets of paths (plain). -/
import Derived.Test.YtihapgangilncaaGreatKFSetL
namespace Go.Proofs.YtihapgangilncaaGreat
open Go.RowKit
set_option linter.unusedSimpArgs false
set_option linter.unusedVariables false

section
variable {α : Type} {c : α → α → Int} {G : α → Prop}
/-- no two are equal -/
def Dst (c : α → α → Int) (l : List α) : Prop := l.Pairwise (fun a b => c a b ≠ 0)
theorem SrtC.dst {l : List α} (h : SrtC c l) : Dst c l := h.imp fun h => by omega
/-- a list without equal ones, all of which another one has, is not the longer one -/
theorem pigeon (h : Cmpr c G) : ∀ {l m : List α}, Dst c l → (∀ x ∈ l, G x) → (∀ x ∈ m, G x) → (∀ x ∈ l, hasC c m x) → l.length ≤ m.length
  | [], _, _, _, _, _ => by simp
  | x :: l, m, hd, hl, hm, hh => by
    obtain ⟨y, hy, h0⟩ := hh x (by simp)
    obtain ⟨m1, m2, rfl⟩ := List.append_of_mem hy
    have hd1 := List.pairwise_cons.1 hd
    have := pigeon h (l := l) (m := m1 ++ m2) hd1.2 (fun z hz => hl z (by simp [hz])) (fun z hz => hm z (by
      rcases List.mem_append.1 hz with hz | hz <;> simp [hz])) (fun z hz => by
      obtain ⟨q, hq, q0⟩ := hh z (by simp [hz])
      rcases List.mem_append.1 hq with hq | hq
      · exact ⟨q, by simp [hq], q0⟩
      · rcases List.mem_cons.1 hq with e | hq
        · subst e
          have := h.congr (hm q (by simp)) (hl x (by simp)) (hl z (by simp [hz])) h0
          exact absurd (this ▸ q0) (hd1.1 z hz)
        · exact ⟨q, by simp [hq], q0⟩)
    simp only [List.length_cons, List.length_append] at this ⊢
    omega
theorem dst_len (h : Cmpr c G) {l m : List α} (dl : Dst c l) (dm : Dst c m) (gl : ∀ x ∈ l, G x) (gm : ∀ x ∈ m, G x) (hh : ∀ p, G p → (hasC c l p ↔ hasC c m p)) : l.length = m.length :=
  Nat.le_antisymm (pigeon h dl gl gm fun x hx => (hh x (gl x hx)).1 (hasC_self h hx)) (pigeon h dm gm gl fun x hx => (hh x (gm x hx)).2 (hasC_self h hx))
theorem mem_has_mem {l : List α} (P : α → Bool) {p : α} : hasC c (l.filter P) p ↔ ∃ q ∈ l, P q = true ∧ c q p = 0 := by
  simp only [hasC, List.mem_filter]
  constructor
  · rintro ⟨q, ⟨h1, h2⟩, h3⟩; exact ⟨q, h1, h2, h3⟩
  · rintro ⟨q, h1, h2, h3⟩; exact ⟨q, ⟨h1, h2⟩, h3⟩
def hasBl (c : α → α → Int) (l : List α) (p : α) : Bool := l.any fun q => decide (c q p = 0)
theorem hasBl_iff {l : List α} {p : α} : hasBl c l p = true ↔ hasC c l p := by simp [hasBl, hasC]
/-- the sizes of a union and of an intersection -/
theorem sizes_add (h : Cmpr c G) {a b u i : List α} (da : Dst c a) (db : Dst c b) (du : Dst c u) (di : Dst c i) (ga : ∀ x ∈ a, G x) (gb : ∀ x ∈ b, G x) (gu : ∀ x ∈ u, G x) (gi : ∀ x ∈ i, G x)
    (hu : ∀ p, G p → (hasC c u p ↔ hasC c a p ∨ hasC c b p)) (hi : ∀ p, G p → (hasC c i p ↔ hasC c a p ∧ hasC c b p)) : u.length + i.length = a.length + b.length := by
  have h1 : i.length = (a.filter (hasBl c b)).length := dst_len h di (List.Pairwise.filter _ da) gi (fun x hx => ga x (List.mem_filter.1 hx).1) fun p hp => by
    rw [hi p hp, mem_has_mem]
    constructor
    · rintro ⟨⟨q, hq, q0⟩, hb⟩
      refine ⟨q, hq, ?_, q0⟩
      rw [hasBl_iff]
      exact (hasC_congr h gb (ga q hq) hp q0).2 hb
    · rintro ⟨q, hq, hb, q0⟩
      rw [hasBl_iff] at hb
      exact ⟨⟨q, hq, q0⟩, (hasC_congr h gb (ga q hq) hp q0).1 hb⟩
  have h2 : u.length = (b ++ a.filter (fun x => !hasBl c b x)).length := by
    refine dst_len h du (List.pairwise_append.2 ⟨db, List.Pairwise.filter _ da, fun x hx y hy e => ?_⟩) gu (fun x hx => ?_) fun p hp => ?_
    · have := (List.mem_filter.1 hy).2
      rw [Bool.not_eq_true', ← Bool.not_eq_true, hasBl_iff] at this
      exact this ⟨x, hx, e⟩
    · rcases List.mem_append.1 hx with hx | hx
      · exact gb x hx
      · exact ga x (List.mem_filter.1 hx).1
    · rw [hu p hp, hasC_app, mem_has_mem]
      constructor
      · rintro (⟨q, hq, q0⟩ | hb)
        · by_cases hb : hasC c b q
          · exact .inl ((hasC_congr h gb (ga q hq) hp q0).1 hb)
          · refine .inr ⟨q, hq, ?_, q0⟩
            rw [Bool.not_eq_true', ← Bool.not_eq_true, hasBl_iff]
            exact hb
        · exact .inl hb
      · rintro (hb | ⟨q, hq, -, q0⟩)
        · exact .inr hb
        · exact .inl ⟨q, hq, q0⟩
  have h3 : a.length = (a.filter (hasBl c b)).length + (a.filter (fun x => !hasBl c b x)).length := by
    have := List.length_eq_countP_add_countP (hasBl c b) (l := a)
    rw [List.countP_eq_length_filter, List.countP_eq_length_filter] at this
    simpa using this
  rw [h1, h2, h3, List.length_append]
  omega

/-- the members of a union, as the program merges them -/
def unionM (c : α → α → Int) : List α → List α → List α
  | [], l => l
  | x :: xs, [] => x :: xs
  | x :: xs, y :: ys => if c x y < 0 then x :: unionM c xs (y :: ys) else if c y x < 0 then y :: unionM c (x :: xs) ys else y :: unionM c xs ys
termination_by a b => a.length + b.length
def interM (c : α → α → Int) : List α → List α → List α
  | [], _ => []
  | _ :: _, [] => []
  | x :: xs, y :: ys => if c x y < 0 then interM c xs (y :: ys) else if c y x < 0 then interM c (x :: xs) ys else x :: interM c xs ys
termination_by a b => a.length + b.length
theorem unionM_mem {z : α} : ∀ {a b : List α}, z ∈ unionM c a b → z ∈ a ∨ z ∈ b
  | [], b, h => .inr (by simpa [unionM] using h)
  | x :: xs, [], h => .inl (by simpa [unionM] using h)
  | x :: xs, y :: ys, h => by
    rw [unionM] at h
    split at h
    · rcases List.mem_cons.1 h with h | h
      · exact .inl (by simp [h])
      · rcases unionM_mem h with h | h
        · exact .inl (by simp [h])
        · exact .inr h
    · split at h
      · rcases List.mem_cons.1 h with h | h
        · exact .inr (by simp [h])
        · rcases unionM_mem h with h | h
          · exact .inl h
          · exact .inr (by simp [h])
      · rcases List.mem_cons.1 h with h | h
        · exact .inr (by simp [h])
        · rcases unionM_mem h with h | h
          · exact .inl (by simp [h])
          · exact .inr (by simp [h])
termination_by a b => a.length + b.length
theorem unionM_has (h : Cmpr c G) {p : α} (hp : G p) : ∀ {a b : List α}, (∀ x ∈ a, G x) → (∀ x ∈ b, G x) → (hasC c (unionM c a b) p ↔ hasC c a p ∨ hasC c b p)
  | [], b, _, _ => by simp [unionM, hasC_nil]
  | x :: xs, [], _, _ => by simp [unionM, hasC_nil]
  | x :: xs, y :: ys, ga, gb => by
    have ga' : ∀ z ∈ xs, G z := fun z hz => ga z (by simp [hz])
    have gb' : ∀ z ∈ ys, G z := fun z hz => gb z (by simp [hz])
    rw [unionM]
    split
    · rw [hasC_cons, unionM_has h hp ga' gb, hasC_cons (x := x), or_assoc]
    · split
      · rw [hasC_cons, unionM_has h hp ga gb', hasC_cons (x := y)]
        constructor
        · rintro (h | h | h) <;> simp [h]
        · rintro (h | h | h) <;> simp [h]
      · rename_i n1 n2
        have e : c x y = 0 := by have := h.neg x y; omega
        have := h.congr (ga x (by simp)) (gb y (by simp)) hp e
        rw [hasC_cons, unionM_has h hp ga' gb', hasC_cons (x := x), hasC_cons (x := y), this]
        constructor
        · rintro (h | h | h) <;> simp [h]
        · rintro ((h | h) | h | h) <;> simp [h]
termination_by a b => a.length + b.length
theorem unionM_srt (h : Cmpr c G) : ∀ {a b : List α}, SrtC c a → SrtC c b → (∀ x ∈ a, G x) → (∀ x ∈ b, G x) → SrtC c (unionM c a b)
  | [], b, _, sb, _, _ => by simpa [unionM] using sb
  | x :: xs, [], sa, _, _, _ => by simpa [unionM] using sa
  | x :: xs, y :: ys, sa, sb, ga, gb => by
    have ga' : ∀ z ∈ xs, G z := fun z hz => ga z (by simp [hz])
    have gb' : ∀ z ∈ ys, G z := fun z hz => gb z (by simp [hz])
    have gx := ga x (by simp)
    have gy := gb y (by simp)
    have sa1 := List.pairwise_cons.1 sa
    have sb1 := List.pairwise_cons.1 sb
    rw [unionM]
    split
    · rename_i hlt
      refine List.pairwise_cons.2 ⟨fun z hz => ?_, unionM_srt h sa1.2 sb ga' gb⟩
      rcases unionM_mem hz with hz | hz
      · exact sa1.1 z hz
      · rcases List.mem_cons.1 hz with e | hz
        · rw [e]; exact hlt
        · exact h.lt_tr gx gy (gb' z hz) hlt (sb1.1 z hz)
    · split
      · rename_i hlt
        refine List.pairwise_cons.2 ⟨fun z hz => ?_, unionM_srt h sa sb1.2 ga gb'⟩
        rcases unionM_mem hz with hz | hz
        · rcases List.mem_cons.1 hz with e | hz
          · rw [e]; exact hlt
          · exact h.lt_tr gy gx (ga' z hz) hlt (sa1.1 z hz)
        · exact sb1.1 z hz
      · rename_i n1 n2
        have e : c x y = 0 := by have := h.neg x y; omega
        refine List.pairwise_cons.2 ⟨fun z hz => ?_, unionM_srt h sa1.2 sb1.2 ga' gb'⟩
        rcases unionM_mem hz with hz | hz
        · rw [← h.congr gx gy (ga' z hz) e]; exact sa1.1 z hz
        · exact sb1.1 z hz
termination_by a b => a.length + b.length
theorem interM_mem {z : α} : ∀ {a b : List α}, z ∈ interM c a b → z ∈ a
  | [], b, h => by simp [interM] at h
  | x :: xs, [], h => by simp [interM] at h
  | x :: xs, y :: ys, h => by
    rw [interM] at h
    split at h
    · exact List.mem_cons_of_mem _ (interM_mem h)
    · split at h
      · exact interM_mem h
      · rcases List.mem_cons.1 h with h | h
        · simp [h]
        · exact List.mem_cons_of_mem _ (interM_mem h)
termination_by a b => a.length + b.length
theorem interM_srt : ∀ {a b : List α}, SrtC c a → SrtC c (interM c a b)
  | [], b, _ => by simp [interM, SrtC]
  | x :: xs, [], _ => by simp [interM, SrtC]
  | x :: xs, y :: ys, sa => by
    have sa1 := List.pairwise_cons.1 sa
    rw [interM]
    split
    · exact interM_srt sa1.2
    · split
      · exact interM_srt sa
      · exact List.pairwise_cons.2 ⟨fun z hz => sa1.1 z (interM_mem hz), interM_srt sa1.2⟩
termination_by a b => a.length + b.length
theorem not_has (h : Cmpr c G) {x p : α} {l : List α} (hx : G x) (hp : G p) (hl : ∀ z ∈ l, G z) (hlt : ∀ z ∈ l, c x z < 0) (e : c x p = 0) : ¬ hasC c l p := fun ⟨q, hq, q0⟩ => by
  have h1 := h.congr' (hl q hq) hp hx q0
  have := hlt q hq
  omega
theorem srt_lt (h : Cmpr c G) {x y : α} {ys : List α} (sb : SrtC c (y :: ys)) (gx : G x) (gb : ∀ z ∈ y :: ys, G z) (hlt : c x y < 0) : ∀ z ∈ y :: ys, c x z < 0 := fun z hz => by
  rcases List.mem_cons.1 hz with e | hz
  · rw [e]; exact hlt
  · exact h.lt_tr gx (gb y (by simp)) (gb z (by simp [hz])) hlt ((List.pairwise_cons.1 sb).1 z hz)
theorem interM_has (h : Cmpr c G) {p : α} (hp : G p) : ∀ {a b : List α}, SrtC c a → SrtC c b → (∀ x ∈ a, G x) → (∀ x ∈ b, G x) → (hasC c (interM c a b) p ↔ hasC c a p ∧ hasC c b p)
  | [], b, _, _, _, _ => by simp [interM, hasC_nil]
  | x :: xs, [], _, _, _, _ => by simp [interM, hasC_nil]
  | x :: xs, y :: ys, sa, sb, ga, gb => by
    have ga' : ∀ z ∈ xs, G z := fun z hz => ga z (by simp [hz])
    have gb' : ∀ z ∈ ys, G z := fun z hz => gb z (by simp [hz])
    have gx := ga x (by simp)
    have gy := gb y (by simp)
    have sa1 := List.pairwise_cons.1 sa
    have sb1 := List.pairwise_cons.1 sb
    rw [interM]
    split
    · rename_i hlt
      rw [interM_has h hp sa1.2 sb ga' gb, hasC_cons (x := x)]
      constructor
      · rintro ⟨h1, h2⟩; exact ⟨.inr h1, h2⟩
      · rintro ⟨h1 | h1, h2⟩
        · exact absurd h2 (not_has h gx hp gb (srt_lt h sb gx gb hlt) h1)
        · exact ⟨h1, h2⟩
    · split
      · rename_i hlt
        rw [interM_has h hp sa sb1.2 ga gb', hasC_cons (x := y)]
        constructor
        · rintro ⟨h1, h2⟩; exact ⟨h1, .inr h2⟩
        · rintro ⟨h1, h2 | h2⟩
          · exact absurd h1 (not_has h gy hp ga (srt_lt h sa gy ga hlt) h2)
          · exact ⟨h1, h2⟩
      · rename_i n1 n2
        have e : c x y = 0 := by have := h.neg x y; omega
        have e2 := h.congr gx gy hp e
        rw [hasC_cons, interM_has h hp sa1.2 sb1.2 ga' gb', hasC_cons, hasC_cons, ← e2]
        constructor
        · rintro (h | ⟨h1, h2⟩)
          · exact ⟨.inl h, .inl h⟩
          · exact ⟨.inr h1, .inr h2⟩
        · rintro ⟨h1 | h1, h2 | h2⟩
          · exact .inl h1
          · exact .inl h1
          · exact .inl h2
          · exact .inr ⟨h1, h2⟩
termination_by a b => a.length + b.length
end

section
variable {α σ : Type} {c : α → α → Int} {G : α → Prop}
def unionN (c : α → α → Int) (f : σ → σ → σ) : List (α × σ) → List (α × σ) → List (α × σ)
  | [], l => l
  | x :: xs, [] => x :: xs
  | x :: xs, y :: ys => if c x.1 y.1 < 0 then x :: unionN c f xs (y :: ys) else if c y.1 x.1 < 0 then y :: unionN c f (x :: xs) ys else (x.1, f x.2 y.2) :: unionN c f xs ys
termination_by a b => a.length + b.length
def interN (c : α → α → Int) (f : σ → σ → σ) (em : σ → Bool) : List (α × σ) → List (α × σ) → List (α × σ)
  | [], _ => []
  | _ :: _, [] => []
  | x :: xs, y :: ys => if c x.1 y.1 < 0 then interN c f em xs (y :: ys) else if c y.1 x.1 < 0 then interN c f em (x :: xs) ys else if em (f x.2 y.2) then interN c f em xs ys else (x.1, f x.2 y.2) :: interN c f em xs ys
termination_by a b => a.length + b.length
theorem unionN_mem {f : σ → σ → σ} (h : Cmpr c G) {z : α × σ} : ∀ {a b : List (α × σ)}, z ∈ unionN c f a b → z ∈ a ∨ z ∈ b ∨ ∃ x ∈ a, ∃ y ∈ b, c x.1 y.1 = 0 ∧ z = (x.1, f x.2 y.2)
  | [], b, hz => .inr (.inl (by simpa [unionN] using hz))
  | x :: xs, [], hz => .inl (by simpa [unionN] using hz)
  | x :: xs, y :: ys, hz => by
    rw [unionN] at hz
    split at hz
    · rcases List.mem_cons.1 hz with e | hz
      · exact .inl (by simp [e])
      · rcases unionN_mem h hz with hz | hz | ⟨u, hu, v, hv, e⟩
        · exact .inl (by simp [hz])
        · exact .inr (.inl hz)
        · exact .inr (.inr ⟨u, by simp [hu], v, hv, e⟩)
    · split at hz
      · rcases List.mem_cons.1 hz with e | hz
        · exact .inr (.inl (by simp [e]))
        · rcases unionN_mem h hz with hz | hz | ⟨u, hu, v, hv, e⟩
          · exact .inl hz
          · exact .inr (.inl (by simp [hz]))
          · exact .inr (.inr ⟨u, hu, v, by simp [hv], e⟩)
      · rename_i n1 n2
        have e0 : c x.1 y.1 = 0 := by have := h.neg x.1 y.1; omega
        rcases List.mem_cons.1 hz with e | hz
        · exact .inr (.inr ⟨x, by simp, y, by simp, e0, e⟩)
        · rcases unionN_mem h hz with hz | hz | ⟨u, hu, v, hv, e⟩
          · exact .inl (by simp [hz])
          · exact .inr (.inl (by simp [hz]))
          · exact .inr (.inr ⟨u, by simp [hu], v, by simp [hv], e⟩)
termination_by a b => a.length + b.length
theorem unionN_key {f : σ → σ → σ} (h : Cmpr c G) {z : α × σ} {a b : List (α × σ)} (hz : z ∈ unionN c f a b) : z.1 ∈ a.map (·.1) ∨ z.1 ∈ b.map (·.1) := by
  rcases unionN_mem h hz with hz | hz | ⟨x, hx, y, hy, _, e⟩
  · exact .inl (List.mem_map.2 ⟨z, hz, rfl⟩)
  · exact .inr (List.mem_map.2 ⟨z, hz, rfl⟩)
  · exact .inl (List.mem_map.2 ⟨x, hx, by rw [e]⟩)
theorem unionN_ex {f : σ → σ → σ} (h : Cmpr c G) {P : α × σ → Prop} : ∀ {a b : List (α × σ)}, (∀ x ∈ a, ∀ y ∈ b, c x.1 y.1 = 0 → (P (x.1, f x.2 y.2) ↔ P x ∨ P y)) → ((∃ p ∈ unionN c f a b, P p) ↔ (∃ p ∈ a, P p) ∨ ∃ p ∈ b, P p)
  | [], b, _ => by simp [unionN]
  | x :: xs, [], _ => by simp [unionN]
  | x :: xs, y :: ys, hP => by
    have ec : ∀ (z : α × σ) (l : List (α × σ)), (∃ p ∈ z :: l, P p) ↔ P z ∨ ∃ p ∈ l, P p := fun z l => by simp
    rw [unionN]
    split
    · rw [ec, unionN_ex h (fun u hu v hv => hP u (by simp [hu]) v hv), ec x, or_assoc]
    · split
      · rw [ec, unionN_ex h (fun u hu v hv => hP u hu v (by simp [hv])), ec y]
        constructor
        · rintro (h | h | h) <;> simp only [h, true_or, or_true]
        · rintro (h | h | h) <;> simp only [h, true_or, or_true]
      · rename_i n1 n2
        have e0 : c x.1 y.1 = 0 := by have := h.neg x.1 y.1; omega
        rw [ec, unionN_ex h (fun u hu v hv => hP u (by simp [hu]) v (by simp [hv])), ec x, ec y, hP x (by simp) y (by simp) e0]
        constructor
        · rintro ((h | h) | h | h) <;> simp only [h, true_or, or_true]
        · rintro ((h | h) | h | h) <;> simp only [h, true_or, or_true]
termination_by a b => a.length + b.length
theorem unionN_srt {f : σ → σ → σ} (h : Cmpr c G) : ∀ {a b : List (α × σ)}, SrtC c (a.map (·.1)) → SrtC c (b.map (·.1)) → (∀ x ∈ a, G x.1) → (∀ x ∈ b, G x.1) → SrtC c ((unionN c f a b).map (·.1))
  | [], b, _, sb, _, _ => by simpa [unionN] using sb
  | x :: xs, [], sa, _, _, _ => by simpa [unionN] using sa
  | x :: xs, y :: ys, sa, sb, ga, gb => by
    have ga' : ∀ z ∈ xs, G z.1 := fun z hz => ga z (by simp [hz])
    have gb' : ∀ z ∈ ys, G z.1 := fun z hz => gb z (by simp [hz])
    have gx := ga x (by simp)
    have gy := gb y (by simp)
    have gam : ∀ z ∈ xs.map (·.1), G z := fun z hz => by obtain ⟨q, hq, rfl⟩ := List.mem_map.1 hz; exact ga' q hq
    have gbm : ∀ z ∈ ys.map (·.1), G z := fun z hz => by obtain ⟨q, hq, rfl⟩ := List.mem_map.1 hz; exact gb' q hq
    rw [List.map_cons] at sa sb
    have sa1 := List.pairwise_cons.1 sa
    have sb1 := List.pairwise_cons.1 sb
    rw [unionN]
    split
    · rename_i hlt
      refine List.pairwise_cons.2 ⟨fun z hz => ?_, unionN_srt h sa1.2 (by rw [List.map_cons]; exact sb) ga' gb⟩
      obtain ⟨q, hq, rfl⟩ := List.mem_map.1 hz
      rcases unionN_key h hq with hz | hz
      · exact sa1.1 _ hz
      · rw [List.map_cons] at hz
        rcases List.mem_cons.1 hz with e | hz
        · rw [e]; exact hlt
        · exact h.lt_tr gx gy (gbm _ hz) hlt (sb1.1 _ hz)
    · split
      · rename_i hlt
        refine List.pairwise_cons.2 ⟨fun z hz => ?_, unionN_srt h (by rw [List.map_cons]; exact sa) sb1.2 ga gb'⟩
        obtain ⟨q, hq, rfl⟩ := List.mem_map.1 hz
        rcases unionN_key h hq with hz | hz
        · rw [List.map_cons] at hz
          rcases List.mem_cons.1 hz with e | hz
          · rw [e]; exact hlt
          · exact h.lt_tr gy gx (gam _ hz) hlt (sa1.1 _ hz)
        · exact sb1.1 _ hz
      · rename_i n1 n2
        have e : c x.1 y.1 = 0 := by have := h.neg x.1 y.1; omega
        refine List.pairwise_cons.2 ⟨fun z hz => ?_, unionN_srt h sa1.2 sb1.2 ga' gb'⟩
        obtain ⟨q, hq, rfl⟩ := List.mem_map.1 hz
        rcases unionN_key h hq with hz | hz
        · exact sa1.1 _ hz
        · show c x.1 q.1 < 0
          rw [h.congr gx gy (gbm _ hz) e]; exact sb1.1 _ hz
termination_by a b => a.length + b.length
theorem interN_mem {f : σ → σ → σ} {em : σ → Bool} (h : Cmpr c G) {z : α × σ} : ∀ {a b : List (α × σ)}, z ∈ interN c f em a b → ∃ x ∈ a, ∃ y ∈ b, c x.1 y.1 = 0 ∧ z = (x.1, f x.2 y.2) ∧ em (f x.2 y.2) = false
  | [], b, hz => by simp [interN] at hz
  | x :: xs, [], hz => by simp [interN] at hz
  | x :: xs, y :: ys, hz => by
    rw [interN] at hz
    split at hz
    · obtain ⟨u, hu, v, hv, e⟩ := interN_mem h hz
      exact ⟨u, by simp [hu], v, hv, e⟩
    · split at hz
      · obtain ⟨u, hu, v, hv, e⟩ := interN_mem h hz
        exact ⟨u, hu, v, by simp [hv], e⟩
      · rename_i n1 n2
        have e0 : c x.1 y.1 = 0 := by have := h.neg x.1 y.1; omega
        split at hz
        · obtain ⟨u, hu, v, hv, e⟩ := interN_mem h hz
          exact ⟨u, by simp [hu], v, by simp [hv], e⟩
        · rename_i hem
          rcases List.mem_cons.1 hz with e | hz
          · exact ⟨x, by simp, y, by simp, e0, e, by simpa using hem⟩
          · obtain ⟨u, hu, v, hv, e⟩ := interN_mem h hz
            exact ⟨u, by simp [hu], v, by simp [hv], e⟩
termination_by a b => a.length + b.length
theorem interN_srt {f : σ → σ → σ} {em : σ → Bool} (h : Cmpr c G) : ∀ {a b : List (α × σ)}, SrtC c (a.map (·.1)) → SrtC c ((interN c f em a b).map (·.1))
  | [], b, _ => by simp [interN, SrtC]
  | x :: xs, [], _ => by simp [interN, SrtC]
  | x :: xs, y :: ys, sa => by
    have sa' := sa
    rw [List.map_cons] at sa
    have sa1 := List.pairwise_cons.1 sa
    rw [interN]
    split
    · exact interN_srt h sa1.2
    · split
      · exact interN_srt h sa'
      · split
        · exact interN_srt h sa1.2
        · refine List.pairwise_cons.2 ⟨fun z hz => ?_, interN_srt h sa1.2⟩
          obtain ⟨q, hq, rfl⟩ := List.mem_map.1 hz
          obtain ⟨u, hu, v, hv, _, e, _⟩ := interN_mem h hq
          rw [e]
          exact sa1.1 _ (List.mem_map.2 ⟨u, hu, rfl⟩)
termination_by a b => a.length + b.length
theorem interN_ex {f : σ → σ → σ} {em : σ → Bool} (h : Cmpr c G) {P : α × σ → Prop} (hem : ∀ z, em z.2 = true → ¬ P z) : ∀ {a b : List (α × σ)}, SrtC c (a.map (·.1)) → SrtC c (b.map (·.1)) → (∀ x ∈ a, G x.1) → (∀ x ∈ b, G x.1) → ((∃ p ∈ interN c f em a b, P p) ↔ ∃ x ∈ a, ∃ y ∈ b, c x.1 y.1 = 0 ∧ P (x.1, f x.2 y.2))
  | [], b, _, _, _, _ => by simp [interN]
  | x :: xs, [], _, _, _, _ => by simp [interN]
  | x :: xs, y :: ys, sa, sb, ga, gb => by
    have ga' : ∀ z ∈ xs, G z.1 := fun z hz => ga z (by simp [hz])
    have gb' : ∀ z ∈ ys, G z.1 := fun z hz => gb z (by simp [hz])
    have gx := ga x (by simp)
    have gy := gb y (by simp)
    have sa0 := sa
    have sb0 := sb
    rw [List.map_cons] at sa sb
    have sa1 := List.pairwise_cons.1 sa
    have sb1 := List.pairwise_cons.1 sb
    have gam : ∀ z ∈ x.1 :: xs.map (·.1), G z := fun z hz => by
      rcases List.mem_cons.1 hz with e | hz
      · rw [e]; exact gx
      · obtain ⟨q, hq, rfl⟩ := List.mem_map.1 hz; exact ga' q hq
    have gbm : ∀ z ∈ y.1 :: ys.map (·.1), G z := fun z hz => by
      rcases List.mem_cons.1 hz with e | hz
      · rw [e]; exact gy
      · obtain ⟨q, hq, rfl⟩ := List.mem_map.1 hz; exact gb' q hq
    rw [interN]
    split
    · rename_i hlt
      rw [interN_ex h hem sa1.2 sb0 ga' gb]
      constructor
      · rintro ⟨u, hu, v⟩; exact ⟨u, by simp [hu], v⟩
      · rintro ⟨u, hu, v, hv, e, hp⟩
        rcases List.mem_cons.1 hu with e1 | hu
        · rw [e1] at e
          have := srt_lt h sb gx gbm hlt v.1 (by rw [← List.map_cons (f := (·.1)) (a := y)]; exact List.mem_map.2 ⟨v, hv, rfl⟩)
          omega
        · exact ⟨u, hu, v, hv, e, hp⟩
    · split
      · rename_i hlt
        rw [interN_ex h hem sa0 sb1.2 ga gb']
        constructor
        · rintro ⟨u, hu, v, hv, r⟩; exact ⟨u, hu, v, by simp [hv], r⟩
        · rintro ⟨u, hu, v, hv, e, hp⟩
          rcases List.mem_cons.1 hv with e1 | hv
          · rw [e1] at e
            have := srt_lt h sa gy gam hlt u.1 (by rw [← List.map_cons (f := (·.1)) (a := x)]; exact List.mem_map.2 ⟨u, hu, rfl⟩)
            have := h.neg u.1 y.1
            omega
          · exact ⟨u, hu, v, hv, e, hp⟩
      · rename_i n1 n2
        have e0 : c x.1 y.1 = 0 := by have := h.neg x.1 y.1; omega
        have key : (∃ u ∈ x :: xs, ∃ v ∈ y :: ys, c u.1 v.1 = 0 ∧ P (u.1, f u.2 v.2)) ↔ P (x.1, f x.2 y.2) ∨ ∃ u ∈ xs, ∃ v ∈ ys, c u.1 v.1 = 0 ∧ P (u.1, f u.2 v.2) := by
          constructor
          · rintro ⟨u, hu, v, hv, e, hp⟩
            rcases List.mem_cons.1 hu with e1 | hu
            · rcases List.mem_cons.1 hv with e2 | hv
              · subst e1; subst e2; exact .inl hp
              · rw [e1, h.congr gx gy (gb' v hv) e0] at e
                have := sb1.1 v.1 (List.mem_map.2 ⟨v, hv, rfl⟩)
                omega
            · rcases List.mem_cons.1 hv with e2 | hv
              · rw [e2, ← h.congr' gx gy (ga' u hu) e0] at e
                have := sa1.1 u.1 (List.mem_map.2 ⟨u, hu, rfl⟩)
                have := h.neg u.1 x.1
                omega
              · exact .inr ⟨u, hu, v, hv, e, hp⟩
          · rintro (hp | ⟨u, hu, v, hv, e, hp⟩)
            · exact ⟨x, by simp, y, by simp, e0, hp⟩
            · exact ⟨u, by simp [hu], v, by simp [hv], e, hp⟩
        rw [key]
        split
        · rename_i hm
          rw [interN_ex h hem sa1.2 sb1.2 ga' gb']
          have := hem (x.1, f x.2 y.2) hm
          simp [this]
        · have ec : ∀ (z : α × σ) (l : List (α × σ)), (∃ p ∈ z :: l, P p) ↔ P z ∨ ∃ p ∈ l, P p := fun z l => by simp
          rw [ec, interN_ex h hem sa1.2 sb1.2 ga' gb']
termination_by a b => a.length + b.length
end

/-- a tree of at most so many levels -/
def Tr.dep {β α : Type} : Nat → Tr β α → Prop
  | 0, _ => False
  | d + 1, s => ∀ p ∈ s.cs, Tr.dep d p.2
section
variable {α : Type} {c : α → α → Int} {G : α → Prop}
def unionT (c : α → α → Int) : Nat → Tr Unit α → Tr Unit α → Tr Unit α
  | 0, s, _ => s
  | d + 1, s, t => .mk () (unionM c s.ms t.ms) (unionN c (unionT c d) s.cs t.cs)
def emT (s : Tr Unit α) : Bool := s.paths.isEmpty
def interT (c : α → α → Int) : Nat → Tr Unit α → Tr Unit α → Tr Unit α
  | 0, s, _ => s
  | d + 1, s, t => .mk () (interM c s.ms t.ms) (interN c (interT c d) emT s.cs t.cs)
theorem Tr.wf_parts {β : Type} {s : Tr β α} (h : s.Wf c G) : SrtC c s.ms ∧ (∀ x ∈ s.ms, G x) ∧ SrtC c (s.cs.map (·.1)) ∧ (∀ p ∈ s.cs, G p.1) ∧ (∀ p ∈ s.cs, p.2.paths ≠ []) ∧ ∀ p ∈ s.cs, Tr.Wf c G p.2 := by
  cases h with
  | mk h1 h2 h3 h4 h5 h6 => exact ⟨h1, h2, h3, h4, h5, h6⟩
theorem paths_has {β : Type} {s : Tr β α} (ho : Cmpr c G) : s.paths ≠ [] ↔ ∃ q, s.has c q := by
  constructor
  · intro h
    obtain ⟨q, hq⟩ := List.exists_mem_of_ne_nil _ h
    exact ⟨q, q, hq, (wc_ord ho).self q⟩
  · rintro ⟨q, r, hr, _⟩ e
    rw [e] at hr
    simp at hr
theorem has_good {β : Type} {s : Tr β α} (ho : Cmpr c G) (h : s.Wf c G) (hne : s.paths ≠ []) : ∃ q, GP G q ∧ s.has c q := by
  obtain ⟨q, hq⟩ := List.exists_mem_of_ne_nil _ hne
  exact ⟨q, Tr.paths_good h q hq, q, hq, (wc_ord ho).self q⟩
theorem unionT_law (ho : Cmpr c G) : ∀ (d : Nat) {s t : Tr Unit α}, s.dep d → s.Wf c G → t.Wf c G → (unionT c d s t).Wf c G ∧ ∀ q, GP G q → ((unionT c d s t).has c q ↔ s.has c q ∨ t.has c q)
  | 0, _, _, hd, _, _ => hd.elim
  | d + 1, s, t, hd, hs, ht => by
    obtain ⟨s1, s2, s3, s4, s5, s6⟩ := Tr.wf_parts hs
    obtain ⟨t1, t2, t3, t4, t5, t6⟩ := Tr.wf_parts ht
    have ih := fun x (hx : x ∈ s.cs) y (hy : y ∈ t.cs) => unionT_law ho d (hd x hx) (s6 x hx) (t6 y hy)
    refine ⟨.mk (unionM_srt ho s1 t1 s2 t2) (fun x hx => (unionM_mem hx).elim (s2 x) (t2 x)) (unionN_srt ho s3 t3 s4 t4) (fun p hp => ?_) (fun p hp => ?_) (fun p hp => ?_), fun q hq => ?_⟩
    · rcases unionN_mem ho hp with hp | hp | ⟨x, hx, y, hy, _, e⟩
      · exact s4 p hp
      · exact t4 p hp
      · rw [e]; exact s4 x hx
    · rcases unionN_mem ho hp with hp | hp | ⟨x, hx, y, hy, _, e⟩
      · exact s5 p hp
      · exact t5 p hp
      · rw [e]
        obtain ⟨q, gq, hq⟩ := has_good ho (s6 x hx) (s5 x hx)
        exact (paths_has ho).2 ⟨q, ((ih x hx y hy).2 q gq).2 (.inl hq)⟩
    · rcases unionN_mem ho hp with hp | hp | ⟨x, hx, y, hy, _, e⟩
      · exact s6 p hp
      · exact t6 p hp
      · rw [e]; exact (ih x hx y hy).1
    · match q, hq with
      | [], _ => simp [Tr.has_nil]
      | [e], hq =>
        rw [Tr.has_one, Tr.has_one, Tr.has_one]
        exact unionM_has ho (hq e (by simp)) s2 t2
      | e :: f :: q, hq =>
        rw [Tr.has_cons (by simp), Tr.has_cons (by simp), Tr.has_cons (by simp)]
        have ge := hq e (by simp)
        refine unionN_ex ho fun x hx y hy h0 => ?_
        have h1 := (ih x hx y hy).2 (f :: q) (fun z hz => hq z (by simp [hz]))
        have h2 := ho.congr (s4 x hx) (t4 y hy) ge h0
        simp only [h1, h2, and_or_left]
theorem interT_law (ho : Cmpr c G) : ∀ (d : Nat) {s t : Tr Unit α}, s.dep d → s.Wf c G → t.Wf c G → (interT c d s t).Wf c G ∧ ∀ q, GP G q → ((interT c d s t).has c q ↔ s.has c q ∧ t.has c q)
  | 0, _, _, hd, _, _ => hd.elim
  | d + 1, s, t, hd, hs, ht => by
    obtain ⟨s1, s2, s3, s4, s5, s6⟩ := Tr.wf_parts hs
    obtain ⟨t1, t2, t3, t4, t5, t6⟩ := Tr.wf_parts ht
    have ih := fun x (hx : x ∈ s.cs) y (hy : y ∈ t.cs) => interT_law ho d (hd x hx) (s6 x hx) (t6 y hy)
    refine ⟨.mk (interM_srt s1) (fun x hx => s2 x (interM_mem hx)) (interN_srt ho s3) (fun p hp => ?_) (fun p hp => ?_) (fun p hp => ?_), fun q hq => ?_⟩
    · obtain ⟨x, hx, y, hy, _, e, _⟩ := interN_mem ho hp
      rw [e]; exact s4 x hx
    · obtain ⟨x, hx, y, hy, _, e, he⟩ := interN_mem ho hp
      rw [e]
      simpa [emT] using he
    · obtain ⟨x, hx, y, hy, _, e, _⟩ := interN_mem ho hp
      rw [e]; exact (ih x hx y hy).1
    · match q, hq with
      | [], _ => simp [Tr.has_nil]
      | [e], hq =>
        rw [Tr.has_one, Tr.has_one, Tr.has_one]
        exact interM_has ho (hq e (by simp)) s1 t1 s2 t2
      | e :: f :: q, hq =>
        rw [Tr.has_cons (by simp), Tr.has_cons (by simp), Tr.has_cons (by simp)]
        have ge := hq e (by simp)
        have gfq : GP G (f :: q) := fun z hz => hq z (by simp [hz])
        show (∃ p ∈ interN c (interT c d) emT s.cs t.cs, _) ↔ _
        rw [interN_ex ho (fun z hz hP => by
          obtain ⟨r, hr, _⟩ := hP.2
          simp only [emT, List.isEmpty_iff] at hz
          rw [hz] at hr
          simp at hr) s3 t3 s4 t4]
        constructor
        · rintro ⟨x, hx, y, hy, h0, h1, h2⟩
          have h3 := ((ih x hx y hy).2 _ gfq).1 h2
          have h4 := ho.congr (s4 x hx) (t4 y hy) ge h0
          exact ⟨⟨x, hx, h1, h3.1⟩, y, hy, h4 ▸ h1, h3.2⟩
        · rintro ⟨⟨x, hx, h1, h2⟩, y, hy, h3, h4⟩
          have h0 : c x.1 y.1 = 0 := by
            have h5 := ho.congr' (t4 y hy) ge (s4 x hx) h3
            rw [h5]; exact h1
          exact ⟨x, hx, y, hy, h0, h1, ((ih x hx y hy).2 _ gfq).2 ⟨h2, h4⟩⟩
end
end Go.Proofs.YtihapgangilncaaGreat
