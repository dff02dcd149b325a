/- Sets of paths as trees and as sorted lists (plain). -/
import Derived.Test.YtihapgangilncaaGreatKGPeGood
namespace Go.Proofs.YtihapgangilncaaGreat
open Go.RowKit
set_option linter.unusedSimpArgs false

/-- comparisons that order what G takes -/
structure Cmpr {α : Type} (c : α → α → Int) (G : α → Prop) : Prop where
  neg : ∀ a b, c b a = - c a b
  rng : ∀ a b, c a b = -1 ∨ c a b = 0 ∨ c a b = 1
  tr : ∀ {a b d}, G a → G b → G d → tr (c a b) (c b d) (c a d)

def SrtC {α : Type} (c : α → α → Int) (l : List α) : Prop := l.Pairwise (fun a b => c a b < 0)
def hasC {α : Type} (c : α → α → Int) (l : List α) (p : α) : Prop := ∃ q ∈ l, c q p = 0
def insC {α : Type} (c : α → α → Int) : List α → α → List α
  | [], t => [t]
  | x :: us, t => if c x t < 0 then x :: insC c us t else if c x t = 0 then x :: us else t :: x :: us
def hasAtC {α : Type} (c : α → α → Int) (us : List α) (t : α) (i : Nat) : Bool := match us[i]? with
  | some x => decide (c x t = 0)
  | none => false

section
variable {α : Type} {c : α → α → Int} {G : α → Prop}
theorem Cmpr.self (h : Cmpr c G) (a : α) : c a a = 0 := by have := h.neg a a; omega
theorem Cmpr.sym (h : Cmpr c G) {a b : α} (e : c a b = 0) : c b a = 0 := by have := h.neg a b; omega
theorem Cmpr.congr (h : Cmpr c G) {a b d : α} (ha : G a) (hb : G b) (hd : G d) (e : c a b = 0) : c a d = c b d := by
  have h1 := h.tr ha hb hd
  have h2 := h.tr hb ha hd
  have h3 := h.sym e
  have r1 := h.rng a d
  have r2 := h.rng b d
  have f1 : c b d ≤ 0 → c a d ≤ 0 := h1.1 (by omega)
  have f2 : c b d < 0 → c a d < 0 := h1.2.2 (by omega)
  have g1 : c a d ≤ 0 → c b d ≤ 0 := h2.1 (by omega)
  have g2 : c a d < 0 → c b d < 0 := h2.2.2 (by omega)
  clear h1 h2 h3 e
  rcases r1 with r1 | r1 | r1 <;> rcases r2 with r2 | r2 | r2 <;> simp [r1, r2] at f1 f2 g1 g2 ⊢
theorem Cmpr.congr' (h : Cmpr c G) {a b d : α} (ha : G a) (hb : G b) (hd : G d) (e : c a b = 0) : c d a = c d b := by
  rw [h.neg a d, h.neg b d, h.congr ha hb hd e]
theorem Cmpr.lt_tr (h : Cmpr c G) {a b d : α} (ha : G a) (hb : G b) (hd : G d) (h1 : c a b < 0) (h2 : c b d < 0) : c a d < 0 := (h.tr ha hb hd).2.1 h1 (by omega)

theorem hasC_nil {p : α} : ¬ hasC c [] p := fun ⟨q, hq, _⟩ => by simp at hq
theorem hasC_cons {x : α} {l : List α} {p : α} : hasC c (x :: l) p ↔ c x p = 0 ∨ hasC c l p := by simp [hasC]
theorem hasC_self (h : Cmpr c G) {l : List α} {p : α} (hp : p ∈ l) : hasC c l p := ⟨p, hp, h.self p⟩
theorem insC_mem {x t : α} : ∀ {us : List α}, x ∈ insC c us t → x = t ∨ x ∈ us
  | [], h => .inl (by simpa [insC] using h)
  | y :: us, h => by
    unfold insC at h
    split at h
    · rcases List.mem_cons.1 h with h | h
      · exact .inr (by simp [h])
      · exact (insC_mem h).imp id (fun h => by simp [h])
    · split at h
      · exact .inr h
      · rcases List.mem_cons.1 h with h | h
        · exact .inl h
        · exact .inr h
theorem insC_G {t : α} {us : List α} (hG : ∀ x ∈ us, G x) (ht : G t) : ∀ x ∈ insC c us t, G x := fun x hx => (insC_mem hx).elim (fun e => e ▸ ht) (hG x)
theorem insC_len {t : α} : ∀ {us : List α}, (insC c us t).length ≤ us.length + 1
  | [] => by simp [insC]
  | y :: us => by
    unfold insC
    have := insC_len (t := t) (us := us)
    split
    · simp; omega
    · split <;> simp
theorem insC_srt (h : Cmpr c G) {t : α} : ∀ {us : List α}, SrtC c us → (∀ x ∈ us, G x) → G t → SrtC c (insC c us t)
  | [], _, _, _ => by simp [insC, SrtC]
  | x :: us, hs, hG, ht => by
    have h1 := List.pairwise_cons.1 hs
    have hx := hG x (by simp)
    have ih := insC_srt h (us := us) h1.2 (fun y hy => hG y (by simp [hy])) ht
    unfold insC
    split
    · refine List.pairwise_cons.2 ⟨fun y hy => ?_, ih⟩
      rcases insC_mem hy with e | hy
      · rw [e]; assumption
      · exact h1.1 y hy
    · split
      · exact hs
      · rename_i n1 n2
        have hlt : c t x < 0 := by have := h.neg x t; omega
        refine List.pairwise_cons.2 ⟨fun y hy => ?_, hs⟩
        rcases List.mem_cons.1 hy with e | hy
        · rw [e]; exact hlt
        · exact h.lt_tr ht hx (hG y (by simp [hy])) hlt (h1.1 y hy)
theorem insC_has (h : Cmpr c G) {t p : α} (ht : G t) (hp : G p) : ∀ {us : List α}, (∀ x ∈ us, G x) → (hasC c (insC c us t) p ↔ hasC c us p ∨ c t p = 0)
  | [], _ => by simp [insC, hasC]
  | x :: us, hG => by
    have ih := insC_has h ht hp (us := us) (fun y hy => hG y (by simp [hy]))
    unfold insC
    split
    · rw [hasC_cons, hasC_cons, ih, or_assoc]
    · split
      · rename_i e
        rw [hasC_cons, h.congr (hG x (by simp)) ht hp e]
        constructor
        · exact .inl
        · rintro (h | h)
          · exact h
          · exact .inl h
      · rw [hasC_cons, or_comm]
theorem insC_at {t : α} : ∀ {us : List α} {i : Nat}, i ≤ us.length → (∀ j (h : j < us.length), j < i → c us[j] t < 0) → (∀ j (h : j < us.length), i ≤ j → 0 ≤ c us[j] t) → insC c us t = if hasAtC c us t i then us else us.take i ++ t :: us.drop i
  | [], i, hi, _, _ => by simp [insC, hasAtC]
  | x :: us, 0, _, _, hhi => by
    have h0 : 0 ≤ c x t := hhi 0 (by simp) (Nat.le_refl _)
    unfold insC
    rw [if_neg (by omega)]
    by_cases e : c x t = 0 <;> simp [hasAtC, e]
  | x :: us, i + 1, hi, hlo, hhi => by
    have h0 : c x t < 0 := hlo 0 (by simp) (by omega)
    have ih := insC_at (t := t) (us := us) (i := i) (by simpa using hi) (fun j h hj => hlo (j + 1) (by simpa using h) (by omega)) (fun j h hj => hhi (j + 1) (by simpa using h) (by omega))
    unfold insC
    rw [if_pos h0, ih]
    have e : hasAtC c (x :: us) t (i + 1) = hasAtC c us t i := by simp [hasAtC]
    rw [e]
    split <;> simp

/-- two sorted lists that have the same are equal in pairs -/
theorem srt_uniq (h : Cmpr c G) : ∀ {l m : List α}, SrtC c l → SrtC c m → (∀ x ∈ l, G x) → (∀ x ∈ m, G x) → (∀ x ∈ l, hasC c m x) → (∀ x ∈ m, hasC c l x) → All2 (fun a b => c a b = 0) l m
  | [], [], _, _, _, _, _, _ => .nil
  | [], y :: m, _, _, _, _, _, h2 => absurd (h2 y (by simp)) hasC_nil
  | x :: l, [], _, _, _, _, h1, _ => absurd (h1 x (by simp)) hasC_nil
  | x :: l, y :: m, sl, sm, gl, gm, h1, h2 => by
    have sl1 := List.pairwise_cons.1 sl
    have sm1 := List.pairwise_cons.1 sm
    have gx := gl x (by simp)
    have gy := gm y (by simp)
    have hxy : c x y = 0 := by
      obtain ⟨q, hq, q0⟩ := h1 x (by simp)
      obtain ⟨r, hr, r0⟩ := h2 y (by simp)
      rcases List.mem_cons.1 hq with e | hq
      · exact h.sym (e ▸ q0)
      rcases List.mem_cons.1 hr with e | hr
      · exact e ▸ r0
      have a1 := sm1.1 q hq
      have a2 := sl1.1 r hr
      have b1 := h.congr' (gm q (by simp [hq])) gx gy q0
      have b2 := h.congr' (gl r (by simp [hr])) gy gx r0
      have := h.neg x y
      omega
    refine .cons hxy (srt_uniq h sl1.2 sm1.2 (fun z hz => gl z (by simp [hz])) (fun z hz => gm z (by simp [hz])) (fun z hz => ?_) (fun z hz => ?_))
    · obtain ⟨q, hq, q0⟩ := h1 z (by simp [hz])
      rcases List.mem_cons.1 hq with e | hq
      · have a1 := sl1.1 z hz
        have := h.congr gx gy (gl z (by simp [hz])) hxy
        rw [e] at q0
        omega
      · exact ⟨q, hq, q0⟩
    · obtain ⟨q, hq, q0⟩ := h2 z (by simp [hz])
      rcases List.mem_cons.1 hq with e | hq
      · have a1 := sm1.1 z hz
        have := h.congr gx gy (gm z (by simp [hz])) hxy
        rw [e] at q0
        omega
      · exact ⟨q, hq, q0⟩
end

/-- which of two paths ends here -/
def fl {α : Type} : List α → List α → Int
  | [], [] => 0
  | [], _ :: _ => -1
  | _ :: _, [] => 1
  | _ :: _, _ :: _ => 0
/-- the order of a walk -/
def wc {α : Type} (c : α → α → Int) : List α → List α → Int
  | [], [] => 0
  | [], _ :: _ => -1
  | _ :: _, [] => 1
  | x :: xs, y :: ys => if fl xs ys ≠ 0 then fl xs ys else if c x y ≠ 0 then c x y else wc c xs ys

section
variable {α : Type} {c : α → α → Int} {G : α → Prop}
theorem fl_neg (a b : List α) : fl b a = - fl a b := by cases a <;> cases b <;> simp [fl]
theorem fl_rng (a b : List α) : fl a b = -1 ∨ fl a b = 0 ∨ fl a b = 1 := by cases a <;> cases b <;> simp [fl]
theorem fl_tr (a b d : List α) : tr (fl a b) (fl b d) (fl a d) := by cases a <;> cases b <;> cases d <;> simp [fl, tr]
theorem wc_neg (h : Cmpr c G) : ∀ a b : List α, wc c b a = - wc c a b
  | [], [] => by simp [wc]
  | [], _ :: _ => by simp [wc]
  | _ :: _, [] => by simp [wc]
  | x :: xs, y :: ys => by
    have h1 := fl_neg xs ys
    have h2 := h.neg x y
    have ih := wc_neg h xs ys
    simp only [wc]
    repeat' split
    all_goals omega
theorem wc_rng (h : Cmpr c G) : ∀ a b : List α, wc c a b = -1 ∨ wc c a b = 0 ∨ wc c a b = 1
  | [], [] => by simp [wc]
  | [], _ :: _ => by simp [wc]
  | _ :: _, [] => by simp [wc]
  | x :: xs, y :: ys => by
    have h1 := fl_rng xs ys
    have h2 := h.rng x y
    have ih := wc_rng h xs ys
    simp only [wc]
    repeat' split
    all_goals assumption
theorem wc_tr (h : Cmpr c G) : ∀ {a b d : List α}, (∀ x ∈ a, G x) → (∀ x ∈ b, G x) → (∀ x ∈ d, G x) → tr (wc c a b) (wc c b d) (wc c a d)
  | [], [], [], _, _, _ => by simp [wc, tr]
  | [], [], _ :: _, _, _, _ => by simp [wc, tr]
  | [], _ :: _, [], _, _, _ => by simp [wc, tr]
  | [], y :: ys, z :: zs, _, _, _ => by simp [wc, tr]
  | _ :: _, [], [], _, _, _ => by simp [wc, tr]
  | _ :: _, [], _ :: _, _, _, _ => by simp [wc, tr]
  | x :: xs, y :: ys, [], _, _, _ => by simp [wc, tr]
  | x :: xs, y :: ys, z :: zs, ha, hb, hd => by
    have ih := wc_tr h (a := xs) (b := ys) (d := zs) (fun t ht => ha t (by simp [ht])) (fun t ht => hb t (by simp [ht])) (fun t ht => hd t (by simp [ht]))
    simp only [wc]
    exact tr_lex (fl_tr _ _ _) fun _ _ _ => tr_lex (h.tr (ha x (by simp)) (hb y (by simp)) (hd z (by simp))) fun _ _ _ => ih
def GP (G : α → Prop) (p : List α) : Prop := ∀ x ∈ p, G x
theorem wc_ord (h : Cmpr c G) : Cmpr (wc c) (GP G) := ⟨wc_neg h, wc_rng h, wc_tr h⟩
theorem wc_one (e f : α) : wc c [e] [f] = c e f := by simp [wc, fl]; intro h; exact h.symm
theorem wc_lt (e f : α) {q : List α} (hq : q ≠ []) : wc c [e] (f :: q) = -1 := by cases q with
  | nil => exact absurd rfl hq
  | cons => simp [wc, fl]
theorem wc_gt (e f : α) {q : List α} (hq : q ≠ []) : wc c (e :: q) [f] = 1 := by cases q with
  | nil => exact absurd rfl hq
  | cons => simp [wc, fl]
theorem wc_two (e f : α) {p q : List α} (hp : p ≠ []) (hq : q ≠ []) : wc c (e :: p) (f :: q) = if c e f ≠ 0 then c e f else wc c p q := by
  cases p with
  | nil => exact absurd rfl hp
  | cons => cases q with
    | nil => exact absurd rfl hq
    | cons => rw [wc]; simp [fl]
theorem wc_len : ∀ {p q : List α}, wc c p q = 0 → p.length = q.length
  | [], [], _ => rfl
  | [], _ :: _, h => by simp [wc] at h
  | _ :: _, [], h => by simp [wc] at h
  | x :: xs, y :: ys, h => by
    simp only [wc] at h
    have ih := wc_len (p := xs) (q := ys)
    repeat' split at h
    · contradiction
    · contradiction
    · simp [ih h]
theorem wc_zero : ∀ {p q : List α}, wc c p q = 0 ↔ All2 (fun a b => c a b = 0) p q
  | [], [] => by simp [wc]; exact .nil
  | [], _ :: _ => by simp [wc]; intro h; cases h
  | _ :: _, [] => by simp [wc]; intro h; cases h
  | x :: xs, y :: ys => by
    have ih := wc_zero (p := xs) (q := ys)
    constructor
    · intro h
      simp only [wc] at h
      repeat' split at h
      · contradiction
      · contradiction
      · rename_i h1 h2
        exact .cons (by simpa using h2) (ih.1 h)
    · intro h
      cases h with
      | cons h1 h2 =>
        have hl : fl xs ys = 0 := by
          have := h2.length
          cases xs <;> cases ys <;> simp_all [fl]
        simp [wc, hl, h1, ih.2 h2]
end

/-- a set of paths: what ends here, and what goes on; t is what a node bears besides -/
inductive Tr (β α : Type) where
  | mk (t : β) (ms : List α) (cs : List (α × Tr β α))
def Tr.tag {β α : Type} : Tr β α → β
  | .mk t _ _ => t
def Tr.ms {β α : Type} : Tr β α → List α
  | .mk _ ms _ => ms
def Tr.cs {β α : Type} : Tr β α → List (α × Tr β α)
  | .mk _ _ cs => cs
mutual
def Tr.paths {β α : Type} : Tr β α → List (List α)
  | .mk _ ms cs => ms.map (fun e => [e]) ++ Tr.pathsL cs
def Tr.pathsL {β α : Type} : List (α × Tr β α) → List (List α)
  | [] => []
  | p :: cs => Tr.pathsP p ++ Tr.pathsL cs
def Tr.pathsP {β α : Type} : α × Tr β α → List (List α)
  | (e, s) => (Tr.paths s).map (e :: ·)
end
theorem Tr.ind {β α : Type} {P : Tr β α → Prop} (h : ∀ t ms cs, (∀ p ∈ cs, P p.2) → P (.mk t ms cs)) (s : Tr β α) : P s :=
  Tr.rec (motive_1 := P) (motive_2 := fun cs => ∀ p ∈ cs, P p.2) (motive_3 := fun p => P p.2) (fun t ms cs ih => h t ms cs ih) (fun p hp => by simp at hp) (fun p cs h1 h2 q hq => by
    rcases List.mem_cons.1 hq with e | hq
    · exact e ▸ h1
    · exact h2 q hq) (fun e s h => h) s
theorem Tr.pathsL_eq {β α : Type} (cs : List (α × Tr β α)) : Tr.pathsL cs = cs.flatMap (fun p => p.2.paths.map (p.1 :: ·)) := by
  induction cs with
  | nil => simp [Tr.pathsL]
  | cons p cs ih => obtain ⟨e, s⟩ := p; simp [Tr.pathsL, ih, Tr.pathsP]
theorem Tr.paths_eq {β α : Type} (s : Tr β α) : s.paths = s.ms.map (fun e => [e]) ++ s.cs.flatMap (fun p => p.2.paths.map (p.1 :: ·)) := by
  cases s with
  | mk t ms cs => rw [Tr.paths, Tr.pathsL_eq]; rfl

/-- a tree in order -/
inductive Tr.Wf {β α : Type} (c : α → α → Int) (G : α → Prop) : Tr β α → Prop
  | mk {t : β} {ms : List α} {cs : List (α × Tr β α)} (h1 : SrtC c ms) (h2 : ∀ x ∈ ms, G x) (h3 : SrtC c (cs.map (·.1))) (h4 : ∀ p ∈ cs, G p.1) (h5 : ∀ p ∈ cs, p.2.paths ≠ []) (h6 : ∀ p ∈ cs, Tr.Wf c G p.2) : Tr.Wf c G (.mk t ms cs)
def Tr.has {β α : Type} (c : α → α → Int) (s : Tr β α) (q : List α) : Prop := hasC (wc c) s.paths q

section
variable {β α : Type} {c : α → α → Int} {G : α → Prop}
theorem Tr.paths_ne {s : Tr β α} {p : List α} (h : p ∈ s.paths) : p ≠ [] := by
  rw [Tr.paths_eq] at h
  rcases List.mem_append.1 h with h | h
  · obtain ⟨e, _, rfl⟩ := List.mem_map.1 h; simp
  · obtain ⟨q, _, h⟩ := List.mem_flatMap.1 h
    obtain ⟨r, _, rfl⟩ := List.mem_map.1 h; simp
theorem Tr.has_nil {s : Tr β α} : ¬ s.has c [] := fun ⟨q, hq, h0⟩ => by
  have := Tr.paths_ne hq
  have := wc_len h0
  cases q <;> simp_all
theorem Tr.has_one {s : Tr β α} {e : α} : s.has c [e] ↔ hasC c s.ms e := by
  unfold Tr.has
  rw [Tr.paths_eq]
  constructor
  · rintro ⟨q, hq, h0⟩
    rcases List.mem_append.1 hq with h | h
    · obtain ⟨x, hx, rfl⟩ := List.mem_map.1 h
      exact ⟨x, hx, by rwa [wc_one] at h0⟩
    · obtain ⟨p, _, h⟩ := List.mem_flatMap.1 h
      obtain ⟨r, hr, rfl⟩ := List.mem_map.1 h
      rw [wc_gt _ _ (Tr.paths_ne hr)] at h0
      omega
  · rintro ⟨x, hx, h0⟩
    exact ⟨[x], List.mem_append_left _ (List.mem_map.2 ⟨x, hx, rfl⟩), by rwa [wc_one]⟩
theorem Tr.has_cons {s : Tr β α} {e : α} {q : List α} (hq : q ≠ []) : s.has c (e :: q) ↔ ∃ p ∈ s.cs, c p.1 e = 0 ∧ p.2.has c q := by
  unfold Tr.has
  rw [Tr.paths_eq]
  constructor
  · rintro ⟨r, hr, h0⟩
    rcases List.mem_append.1 hr with h | h
    · obtain ⟨x, hx, rfl⟩ := List.mem_map.1 h
      rw [wc_lt _ _ hq] at h0
      omega
    · obtain ⟨p, hp, h⟩ := List.mem_flatMap.1 h
      obtain ⟨t, ht, rfl⟩ := List.mem_map.1 h
      rw [wc_two _ _ (Tr.paths_ne ht) hq] at h0
      by_cases hc : c p.1 e = 0
      · rw [if_neg (by simpa using hc)] at h0
        exact ⟨p, hp, hc, t, ht, h0⟩
      · rw [if_pos hc] at h0
        exact absurd h0 hc
  · rintro ⟨p, hp, hc, t, ht, h0⟩
    refine ⟨p.1 :: t, List.mem_append_right _ (List.mem_flatMap.2 ⟨p, hp, List.mem_map.2 ⟨t, ht, rfl⟩⟩), ?_⟩
    rw [wc_two _ _ (Tr.paths_ne ht) hq, if_neg (by simpa using hc)]
    exact h0
theorem Tr.paths_good {s : Tr β α} (h : s.Wf c G) : ∀ p ∈ s.paths, GP G p := by
  induction s using Tr.ind with
  | h t ms cs ih =>
    cases h with
    | mk h1 h2 h3 h4 h5 h6 =>
      intro p hp
      rw [Tr.paths_eq] at hp
      rcases List.mem_append.1 hp with h | h
      · obtain ⟨x, hx, rfl⟩ := List.mem_map.1 h
        intro y hy
        rw [List.mem_singleton.1 hy]
        exact h2 x hx
      · obtain ⟨q, hq, h⟩ := List.mem_flatMap.1 h
        obtain ⟨r, hr, rfl⟩ := List.mem_map.1 h
        intro y hy
        rcases List.mem_cons.1 hy with e | hy
        · rw [e]; exact h4 q hq
        · exact ih q hq (h6 q hq) r hr y hy
theorem Tr.paths_srt (ho : Cmpr c G) {s : Tr β α} (h : s.Wf c G) : SrtC (wc c) s.paths := by
  induction s using Tr.ind with
  | h t ms cs ih =>
    cases h with
    | mk h1 h2 h3 h4 h5 h6 =>
      rw [Tr.paths_eq]
      refine List.pairwise_append.2 ⟨?_, ?_, ?_⟩
      · refine List.pairwise_map.2 (h1.imp fun {a b} hab => ?_)
        rwa [wc_one]
      · refine List.pairwise_flatMap.2 ⟨fun p hp => ?_, ?_⟩
        · refine List.pairwise_map.2 (List.Pairwise.imp_of_mem (fun {a b} ha hb hab => ?_) (ih p hp (h6 p hp)))
          rw [wc_two _ _ (Tr.paths_ne ha) (Tr.paths_ne hb), if_neg (by simpa using ho.self p.1)]
          exact hab
        · refine (List.pairwise_map.1 h3).imp fun {a b} hab => ?_
          intro x hx y hy
          obtain ⟨r, hr, rfl⟩ := List.mem_map.1 hx
          obtain ⟨r', hr', rfl⟩ := List.mem_map.1 hy
          rw [wc_two _ _ (Tr.paths_ne hr) (Tr.paths_ne hr'), if_pos (by omega)]
          exact hab
      · intro x hx y hy
        obtain ⟨a, _, rfl⟩ := List.mem_map.1 hx
        obtain ⟨p, _, hy⟩ := List.mem_flatMap.1 hy
        obtain ⟨r, hr, rfl⟩ := List.mem_map.1 hy
        rw [wc_lt _ _ (Tr.paths_ne hr)]
        omega
/-- what is put in at a node -/
theorem Tr.wf_member (ho : Cmpr c G) {t t' : β} {ms : List α} {cs : List (α × Tr β α)} {e : α} (h : (Tr.mk t ms cs).Wf c G) (he : G e) : (Tr.mk t' (insC c ms e) cs).Wf c G ∧ ∀ q, GP G q → ((Tr.mk t' (insC c ms e) cs).has c q ↔ (Tr.mk t ms cs).has c q ∨ wc c [e] q = 0) := by
  cases h with
  | mk h1 h2 h3 h4 h5 h6 =>
    refine ⟨.mk (insC_srt ho h1 h2 he) (insC_G h2 he) h3 h4 h5 h6, fun q hq => ?_⟩
    match q, hq with
    | [], _ => exact ⟨fun h => absurd h Tr.has_nil, fun h => h.elim (fun h => absurd h Tr.has_nil) (fun h => by simp [wc] at h)⟩
    | [f], hq =>
      rw [Tr.has_one, Tr.has_one, wc_one]
      exact insC_has ho he (hq f (by simp)) h2
    | f :: g :: q, _ =>
      rw [Tr.has_cons (by simp), Tr.has_cons (by simp), wc_lt _ _ (by simp)]
      simp [Tr.cs]
/-- what is put in below a node -/
theorem Tr.wf_below (ho : Cmpr c G) {t t' : β} {ms : List α} {A B : List (α × Tr β α)} {x e : α} {s s' : Tr β α} {p : List α} (h : (Tr.mk t ms (A ++ (x, s) :: B)).Wf c G) (he : G e) (hx : c x e = 0) (hp : p ≠ []) (hgp : GP G p) (hs : s'.Wf c G) (hh : ∀ q, GP G q → (s'.has c q ↔ s.has c q ∨ wc c p q = 0)) :
    (Tr.mk t' ms (A ++ (x, s') :: B)).Wf c G ∧ ∀ q, GP G q → ((Tr.mk t' ms (A ++ (x, s') :: B)).has c q ↔ (Tr.mk t ms (A ++ (x, s) :: B)).has c q ∨ wc c (e :: p) q = 0) := by
  cases h with
  | mk h1 h2 h3 h4 h5 h6 =>
    have gx : G x := h4 (x, s) (by simp)
    refine ⟨.mk h1 h2 (by simpa using h3) (fun y hy => ?_) (fun y hy => ?_) (fun y hy => ?_), fun q hq => ?_⟩
    · rcases List.mem_append.1 hy with hy | hy
      · exact h4 y (by simp [hy])
      · rcases List.mem_cons.1 hy with e | hy
        · rw [e]; exact gx
        · exact h4 y (by simp [hy])
    · rcases List.mem_append.1 hy with hy | hy
      · exact h5 y (by simp [hy])
      · rcases List.mem_cons.1 hy with e | hy
        · rw [e]
          intro hn
          obtain ⟨z, hz, _⟩ := (hh p hgp).2 (.inr ((wc_ord ho).self p))
          simp only at hn
          rw [hn] at hz
          simp at hz
        · exact h5 y (by simp [hy])
    · rcases List.mem_append.1 hy with hy | hy
      · exact h6 y (by simp [hy])
      · rcases List.mem_cons.1 hy with e | hy
        · rw [e]; exact hs
        · exact h6 y (by simp [hy])
    · match q, hq with
      | [], _ => exact ⟨fun h => absurd h Tr.has_nil, fun h => h.elim (fun h => absurd h Tr.has_nil) (fun h => by simp [wc] at h)⟩
      | [f], hq => rw [Tr.has_one, Tr.has_one, wc_gt _ _ hp]; simp [Tr.ms]
      | f :: g :: q, hq =>
        rw [Tr.has_cons (by simp), Tr.has_cons (by simp), wc_two _ _ hp (by simp)]
        have gf : G f := hq f (by simp)
        have hh' := hh (g :: q) (fun y hy => hq y (by simp [hy]))
        have hcf : c x f = c e f := ho.congr gx he gf hx
        simp only [Tr.cs, List.mem_append, List.mem_cons, or_and_right, exists_or, exists_eq_left]
        by_cases h0 : c e f = 0
        · simp only [hcf, h0, hh']
          constructor
          · rintro (h | ⟨-, h | h⟩ | h)
            · exact .inl (.inl h)
            · exact .inl (.inr (.inl ⟨trivial, h⟩))
            · exact .inr (by simpa using h)
            · exact .inl (.inr (.inr h))
          · rintro ((h | ⟨-, h⟩ | h) | h)
            · exact .inl h
            · exact .inr (.inl ⟨trivial, .inl h⟩)
            · exact .inr (.inr h)
            · exact .inr (.inl ⟨trivial, .inr (by simpa using h)⟩)
        · simp [hcf, h0]
theorem Tr.wf_new (ho : Cmpr c G) {t t' : β} {ms : List α} {A B : List (α × Tr β α)} {e : α} {s' : Tr β α} {p : List α} (h : (Tr.mk t ms (A ++ B)).Wf c G) (he : G e) (hA : ∀ y ∈ A, c y.1 e < 0) (hB : ∀ y ∈ B, c e y.1 < 0) (hp : p ≠ []) (hgp : GP G p) (hs : s'.Wf c G) (hh : ∀ q, GP G q → (s'.has c q ↔ wc c p q = 0)) :
    (Tr.mk t' ms (A ++ (e, s') :: B)).Wf c G ∧ ∀ q, GP G q → ((Tr.mk t' ms (A ++ (e, s') :: B)).has c q ↔ (Tr.mk t ms (A ++ B)).has c q ∨ wc c (e :: p) q = 0) := by
  cases h with
  | mk h1 h2 h3 h4 h5 h6 =>
    refine ⟨.mk h1 h2 ?_ (fun y hy => ?_) (fun y hy => ?_) (fun y hy => ?_), fun q hq => ?_⟩
    · rw [List.map_append] at h3
      have h3' := List.pairwise_append.1 h3
      rw [List.map_append, List.map_cons]
      refine List.pairwise_append.2 ⟨h3'.1, List.pairwise_cons.2 ⟨fun y hy => ?_, h3'.2.1⟩, fun y hy z hz => ?_⟩
      · obtain ⟨b, hb, rfl⟩ := List.mem_map.1 hy
        exact hB b hb
      · rcases List.mem_cons.1 hz with rfl | hz
        · obtain ⟨a, ha, rfl⟩ := List.mem_map.1 hy
          exact hA a ha
        · exact h3'.2.2 y hy z hz
    · rcases List.mem_append.1 hy with hy | hy
      · exact h4 y (by simp [hy])
      · rcases List.mem_cons.1 hy with e | hy
        · rw [e]; exact he
        · exact h4 y (by simp [hy])
    · rcases List.mem_append.1 hy with hy | hy
      · exact h5 y (by simp [hy])
      · rcases List.mem_cons.1 hy with e | hy
        · rw [e]
          intro hn
          obtain ⟨z, hz, _⟩ := (hh p hgp).2 ((wc_ord ho).self p)
          simp only at hn
          rw [hn] at hz
          simp at hz
        · exact h5 y (by simp [hy])
    · rcases List.mem_append.1 hy with hy | hy
      · exact h6 y (by simp [hy])
      · rcases List.mem_cons.1 hy with e | hy
        · rw [e]; exact hs
        · exact h6 y (by simp [hy])
    · match q, hq with
      | [], _ => exact ⟨fun h => absurd h Tr.has_nil, fun h => h.elim (fun h => absurd h Tr.has_nil) (fun h => by simp [wc] at h)⟩
      | [f], hq => rw [Tr.has_one, Tr.has_one, wc_gt _ _ hp]; simp [Tr.ms]
      | f :: g :: q, hq =>
        rw [Tr.has_cons (by simp), Tr.has_cons (by simp), wc_two _ _ hp (by simp)]
        have hh' := hh (g :: q) (fun y hy => hq y (by simp [hy]))
        simp only [Tr.cs, List.mem_append, List.mem_cons, or_and_right, exists_or, exists_eq_left]
        by_cases h0 : c e f = 0
        · simp only [h0, hh']
          constructor
          · rintro (h | ⟨-, h⟩ | h)
            · exact .inl (.inl h)
            · exact .inr (by simpa using h)
            · exact .inl (.inr h)
          · rintro ((h | h) | h)
            · exact .inl h
            · exact .inr (.inr h)
            · exact .inr (.inl ⟨trivial, by simpa using h⟩)
        · simp [h0]
end
end Go.Proofs.YtihapgangilncaaGreat
