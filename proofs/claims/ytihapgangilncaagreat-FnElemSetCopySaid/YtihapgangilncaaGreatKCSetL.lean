/- Sets of paths as trees and as sorted lists (plain). -/
import Derived.Test.YtihapgangilncaaGreatKCPeGood
namespace Go.Proofs.YtihapgangilncaaGreat
open Go.RowKit
set_option linter.unusedSimpArgs false

/-- comparisons that order what G takes -/
structure Cmpr {α : Type} (c : α → α → Int) (G : α → Prop) : Prop where
  neg : ∀ a b, c b a = - c a b
  rng : ∀ a b, c a b = -1 ∨ c a b = 0 ∨ c a b = 1
  tr : ∀ {a b d}, G a → G b → G d → tr (c a b) (c b d) (c a d)

def SrtC {α : Type} (c : α → α → Int) (l : List α) : Prop := l.Pairwise (fun a b => c a b < 0)
def hasC {α : Type} (c : α → α → Int) (l : List α) (p : α) : Prop := ∃ q ∈ l, c q p = 0
section
variable {α : Type} {c : α → α → Int} {G : α → Prop}
theorem Cmpr.self (h : Cmpr c G) (a : α) : c a a = 0 := by have := h.neg a a; omega
theorem Cmpr.sym (h : Cmpr c G) {a b : α} (e : c a b = 0) : c b a = 0 := by have := h.neg a b; omega
theorem Cmpr.congr (h : Cmpr c G) {a b d : α} (ha : G a) (hb : G b) (hd : G d) (e : c a b = 0) : c a d = c b d := by
  have h1 := h.tr ha hb hd
  have h2 := h.tr hb ha hd
  have h3 := h.sym e
  have r1 := h.rng a d
  have r2 := h.rng b d
  have f1 : c b d ≤ 0 → c a d ≤ 0 := h1.1 (by omega)
  have f2 : c b d < 0 → c a d < 0 := h1.2.2 (by omega)
  have g1 : c a d ≤ 0 → c b d ≤ 0 := h2.1 (by omega)
  have g2 : c a d < 0 → c b d < 0 := h2.2.2 (by omega)
  clear h1 h2 h3 e
  rcases r1 with r1 | r1 | r1 <;> rcases r2 with r2 | r2 | r2 <;> simp [r1, r2] at f1 f2 g1 g2 ⊢
theorem Cmpr.lt_tr (h : Cmpr c G) {a b d : α} (ha : G a) (hb : G b) (hd : G d) (h1 : c a b < 0) (h2 : c b d < 0) : c a d < 0 := (h.tr ha hb hd).2.1 h1 (by omega)

end

/-- which of two paths ends here -/
def fl {α : Type} : List α → List α → Int
  | [], [] => 0
  | [], _ :: _ => -1
  | _ :: _, [] => 1
  | _ :: _, _ :: _ => 0
/-- the order of a walk -/
def wc {α : Type} (c : α → α → Int) : List α → List α → Int
  | [], [] => 0
  | [], _ :: _ => -1
  | _ :: _, [] => 1
  | x :: xs, y :: ys => if fl xs ys ≠ 0 then fl xs ys else if c x y ≠ 0 then c x y else wc c xs ys

section
variable {α : Type} {c : α → α → Int} {G : α → Prop}
theorem fl_neg (a b : List α) : fl b a = - fl a b := by cases a <;> cases b <;> simp [fl]
theorem fl_rng (a b : List α) : fl a b = -1 ∨ fl a b = 0 ∨ fl a b = 1 := by cases a <;> cases b <;> simp [fl]
theorem fl_tr (a b d : List α) : tr (fl a b) (fl b d) (fl a d) := by cases a <;> cases b <;> cases d <;> simp [fl, tr]
theorem wc_neg (h : Cmpr c G) : ∀ a b : List α, wc c b a = - wc c a b
  | [], [] => by simp [wc]
  | [], _ :: _ => by simp [wc]
  | _ :: _, [] => by simp [wc]
  | x :: xs, y :: ys => by
    have h1 := fl_neg xs ys
    have h2 := h.neg x y
    have ih := wc_neg h xs ys
    simp only [wc]
    repeat' split
    all_goals omega
theorem wc_rng (h : Cmpr c G) : ∀ a b : List α, wc c a b = -1 ∨ wc c a b = 0 ∨ wc c a b = 1
  | [], [] => by simp [wc]
  | [], _ :: _ => by simp [wc]
  | _ :: _, [] => by simp [wc]
  | x :: xs, y :: ys => by
    have h1 := fl_rng xs ys
    have h2 := h.rng x y
    have ih := wc_rng h xs ys
    simp only [wc]
    repeat' split
    all_goals assumption
theorem wc_tr (h : Cmpr c G) : ∀ {a b d : List α}, (∀ x ∈ a, G x) → (∀ x ∈ b, G x) → (∀ x ∈ d, G x) → tr (wc c a b) (wc c b d) (wc c a d)
  | [], [], [], _, _, _ => by simp [wc, tr]
  | [], [], _ :: _, _, _, _ => by simp [wc, tr]
  | [], _ :: _, [], _, _, _ => by simp [wc, tr]
  | [], y :: ys, z :: zs, _, _, _ => by simp [wc, tr]
  | _ :: _, [], [], _, _, _ => by simp [wc, tr]
  | _ :: _, [], _ :: _, _, _, _ => by simp [wc, tr]
  | x :: xs, y :: ys, [], _, _, _ => by simp [wc, tr]
  | x :: xs, y :: ys, z :: zs, ha, hb, hd => by
    have ih := wc_tr h (a := xs) (b := ys) (d := zs) (fun t ht => ha t (by simp [ht])) (fun t ht => hb t (by simp [ht])) (fun t ht => hd t (by simp [ht]))
    simp only [wc]
    exact tr_lex (fl_tr _ _ _) fun _ _ _ => tr_lex (h.tr (ha x (by simp)) (hb y (by simp)) (hd z (by simp))) fun _ _ _ => ih
def GP (G : α → Prop) (p : List α) : Prop := ∀ x ∈ p, G x
theorem wc_ord (h : Cmpr c G) : Cmpr (wc c) (GP G) := ⟨wc_neg h, wc_rng h, wc_tr h⟩
theorem wc_one (e f : α) : wc c [e] [f] = c e f := by simp [wc, fl]; intro h; exact h.symm
theorem wc_lt (e f : α) {q : List α} (hq : q ≠ []) : wc c [e] (f :: q) = -1 := by cases q with
  | nil => exact absurd rfl hq
  | cons => simp [wc, fl]
theorem wc_gt (e f : α) {q : List α} (hq : q ≠ []) : wc c (e :: q) [f] = 1 := by cases q with
  | nil => exact absurd rfl hq
  | cons => simp [wc, fl]
theorem wc_two (e f : α) {p q : List α} (hp : p ≠ []) (hq : q ≠ []) : wc c (e :: p) (f :: q) = if c e f ≠ 0 then c e f else wc c p q := by
  cases p with
  | nil => exact absurd rfl hp
  | cons => cases q with
    | nil => exact absurd rfl hq
    | cons => rw [wc]; simp [fl]
theorem wc_len : ∀ {p q : List α}, wc c p q = 0 → p.length = q.length
  | [], [], _ => rfl
  | [], _ :: _, h => by simp [wc] at h
  | _ :: _, [], h => by simp [wc] at h
  | x :: xs, y :: ys, h => by
    simp only [wc] at h
    have ih := wc_len (p := xs) (q := ys)
    repeat' split at h
    · contradiction
    · contradiction
    · simp [ih h]
theorem wc_zero : ∀ {p q : List α}, wc c p q = 0 ↔ All2 (fun a b => c a b = 0) p q
  | [], [] => by simp [wc]; exact .nil
  | [], _ :: _ => by simp [wc]; intro h; cases h
  | _ :: _, [] => by simp [wc]; intro h; cases h
  | x :: xs, y :: ys => by
    have ih := wc_zero (p := xs) (q := ys)
    constructor
    · intro h
      simp only [wc] at h
      repeat' split at h
      · contradiction
      · contradiction
      · rename_i h1 h2
        exact .cons (by simpa using h2) (ih.1 h)
    · intro h
      cases h with
      | cons h1 h2 =>
        have hl : fl xs ys = 0 := by
          have := h2.length
          cases xs <;> cases ys <;> simp_all [fl]
        simp [wc, hl, h1, ih.2 h2]
end

/-- a set of paths: what ends here, and what goes on; t is what a node bears besides -/
inductive Tr (β α : Type) where
  | mk (t : β) (ms : List α) (cs : List (α × Tr β α))
def Tr.tag {β α : Type} : Tr β α → β
  | .mk t _ _ => t
def Tr.ms {β α : Type} : Tr β α → List α
  | .mk _ ms _ => ms
def Tr.cs {β α : Type} : Tr β α → List (α × Tr β α)
  | .mk _ _ cs => cs
mutual
def Tr.paths {β α : Type} : Tr β α → List (List α)
  | .mk _ ms cs => ms.map (fun e => [e]) ++ Tr.pathsL cs
def Tr.pathsL {β α : Type} : List (α × Tr β α) → List (List α)
  | [] => []
  | p :: cs => Tr.pathsP p ++ Tr.pathsL cs
def Tr.pathsP {β α : Type} : α × Tr β α → List (List α)
  | (e, s) => (Tr.paths s).map (e :: ·)
end
theorem Tr.ind {β α : Type} {P : Tr β α → Prop} (h : ∀ t ms cs, (∀ p ∈ cs, P p.2) → P (.mk t ms cs)) (s : Tr β α) : P s :=
  Tr.rec (motive_1 := P) (motive_2 := fun cs => ∀ p ∈ cs, P p.2) (motive_3 := fun p => P p.2) (fun t ms cs ih => h t ms cs ih) (fun p hp => by simp at hp) (fun p cs h1 h2 q hq => by
    rcases List.mem_cons.1 hq with e | hq
    · exact e ▸ h1
    · exact h2 q hq) (fun e s h => h) s
theorem Tr.pathsL_eq {β α : Type} (cs : List (α × Tr β α)) : Tr.pathsL cs = cs.flatMap (fun p => p.2.paths.map (p.1 :: ·)) := by
  induction cs with
  | nil => simp [Tr.pathsL]
  | cons p cs ih => obtain ⟨e, s⟩ := p; simp [Tr.pathsL, ih, Tr.pathsP]
theorem Tr.paths_eq {β α : Type} (s : Tr β α) : s.paths = s.ms.map (fun e => [e]) ++ s.cs.flatMap (fun p => p.2.paths.map (p.1 :: ·)) := by
  cases s with
  | mk t ms cs => rw [Tr.paths, Tr.pathsL_eq]; rfl

/-- a tree in order -/
inductive Tr.Wf {β α : Type} (c : α → α → Int) (G : α → Prop) : Tr β α → Prop
  | mk {t : β} {ms : List α} {cs : List (α × Tr β α)} (h1 : SrtC c ms) (h2 : ∀ x ∈ ms, G x) (h3 : SrtC c (cs.map (·.1))) (h4 : ∀ p ∈ cs, G p.1) (h5 : ∀ p ∈ cs, p.2.paths ≠ []) (h6 : ∀ p ∈ cs, Tr.Wf c G p.2) : Tr.Wf c G (.mk t ms cs)
def Tr.has {β α : Type} (c : α → α → Int) (s : Tr β α) (q : List α) : Prop := hasC (wc c) s.paths q

section
variable {β α : Type} {c : α → α → Int} {G : α → Prop}
theorem Tr.paths_ne {s : Tr β α} {p : List α} (h : p ∈ s.paths) : p ≠ [] := by
  rw [Tr.paths_eq] at h
  rcases List.mem_append.1 h with h | h
  · obtain ⟨e, _, rfl⟩ := List.mem_map.1 h; simp
  · obtain ⟨q, _, h⟩ := List.mem_flatMap.1 h
    obtain ⟨r, _, rfl⟩ := List.mem_map.1 h; simp
theorem Tr.has_nil {s : Tr β α} : ¬ s.has c [] := fun ⟨q, hq, h0⟩ => by
  have := Tr.paths_ne hq
  have := wc_len h0
  cases q <;> simp_all
theorem Tr.has_one {s : Tr β α} {e : α} : s.has c [e] ↔ hasC c s.ms e := by
  unfold Tr.has
  rw [Tr.paths_eq]
  constructor
  · rintro ⟨q, hq, h0⟩
    rcases List.mem_append.1 hq with h | h
    · obtain ⟨x, hx, rfl⟩ := List.mem_map.1 h
      exact ⟨x, hx, by rwa [wc_one] at h0⟩
    · obtain ⟨p, _, h⟩ := List.mem_flatMap.1 h
      obtain ⟨r, hr, rfl⟩ := List.mem_map.1 h
      rw [wc_gt _ _ (Tr.paths_ne hr)] at h0
      omega
  · rintro ⟨x, hx, h0⟩
    exact ⟨[x], List.mem_append_left _ (List.mem_map.2 ⟨x, hx, rfl⟩), by rwa [wc_one]⟩
theorem Tr.has_cons {s : Tr β α} {e : α} {q : List α} (hq : q ≠ []) : s.has c (e :: q) ↔ ∃ p ∈ s.cs, c p.1 e = 0 ∧ p.2.has c q := by
  unfold Tr.has
  rw [Tr.paths_eq]
  constructor
  · rintro ⟨r, hr, h0⟩
    rcases List.mem_append.1 hr with h | h
    · obtain ⟨x, hx, rfl⟩ := List.mem_map.1 h
      rw [wc_lt _ _ hq] at h0
      omega
    · obtain ⟨p, hp, h⟩ := List.mem_flatMap.1 h
      obtain ⟨t, ht, rfl⟩ := List.mem_map.1 h
      rw [wc_two _ _ (Tr.paths_ne ht) hq] at h0
      by_cases hc : c p.1 e = 0
      · rw [if_neg (by simpa using hc)] at h0
        exact ⟨p, hp, hc, t, ht, h0⟩
      · rw [if_pos hc] at h0
        exact absurd h0 hc
  · rintro ⟨p, hp, hc, t, ht, h0⟩
    refine ⟨p.1 :: t, List.mem_append_right _ (List.mem_flatMap.2 ⟨p, hp, List.mem_map.2 ⟨t, ht, rfl⟩⟩), ?_⟩
    rw [wc_two _ _ (Tr.paths_ne ht) hq, if_neg (by simpa using hc)]
    exact h0
theorem Tr.wf_new (ho : Cmpr c G) {t t' : β} {ms : List α} {A B : List (α × Tr β α)} {e : α} {s' : Tr β α} {p : List α} (h : (Tr.mk t ms (A ++ B)).Wf c G) (he : G e) (hA : ∀ y ∈ A, c y.1 e < 0) (hB : ∀ y ∈ B, c e y.1 < 0) (hp : p ≠ []) (hgp : GP G p) (hs : s'.Wf c G) (hh : ∀ q, GP G q → (s'.has c q ↔ wc c p q = 0)) :
    (Tr.mk t' ms (A ++ (e, s') :: B)).Wf c G ∧ ∀ q, GP G q → ((Tr.mk t' ms (A ++ (e, s') :: B)).has c q ↔ (Tr.mk t ms (A ++ B)).has c q ∨ wc c (e :: p) q = 0) := by
  cases h with
  | mk h1 h2 h3 h4 h5 h6 =>
    refine ⟨.mk h1 h2 ?_ (fun y hy => ?_) (fun y hy => ?_) (fun y hy => ?_), fun q hq => ?_⟩
    · rw [List.map_append] at h3
      have h3' := List.pairwise_append.1 h3
      rw [List.map_append, List.map_cons]
      refine List.pairwise_append.2 ⟨h3'.1, List.pairwise_cons.2 ⟨fun y hy => ?_, h3'.2.1⟩, fun y hy z hz => ?_⟩
      · obtain ⟨b, hb, rfl⟩ := List.mem_map.1 hy
        exact hB b hb
      · rcases List.mem_cons.1 hz with rfl | hz
        · obtain ⟨a, ha, rfl⟩ := List.mem_map.1 hy
          exact hA a ha
        · exact h3'.2.2 y hy z hz
    · rcases List.mem_append.1 hy with hy | hy
      · exact h4 y (by simp [hy])
      · rcases List.mem_cons.1 hy with e | hy
        · rw [e]; exact he
        · exact h4 y (by simp [hy])
    · rcases List.mem_append.1 hy with hy | hy
      · exact h5 y (by simp [hy])
      · rcases List.mem_cons.1 hy with e | hy
        · rw [e]
          intro hn
          obtain ⟨z, hz, _⟩ := (hh p hgp).2 ((wc_ord ho).self p)
          simp only at hn
          rw [hn] at hz
          simp at hz
        · exact h5 y (by simp [hy])
    · rcases List.mem_append.1 hy with hy | hy
      · exact h6 y (by simp [hy])
      · rcases List.mem_cons.1 hy with e | hy
        · rw [e]; exact hs
        · exact h6 y (by simp [hy])
    · match q, hq with
      | [], _ => exact ⟨fun h => absurd h Tr.has_nil, fun h => h.elim (fun h => absurd h Tr.has_nil) (fun h => by simp [wc] at h)⟩
      | [f], hq => rw [Tr.has_one, Tr.has_one, wc_gt _ _ hp]; simp [Tr.ms]
      | f :: g :: q, hq =>
        rw [Tr.has_cons (by simp), Tr.has_cons (by simp), wc_two _ _ hp (by simp)]
        have hh' := hh (g :: q) (fun y hy => hq y (by simp [hy]))
        simp only [Tr.cs, List.mem_append, List.mem_cons, or_and_right, exists_or, exists_eq_left]
        by_cases h0 : c e f = 0
        · simp only [h0, hh']
          constructor
          · rintro (h | ⟨-, h⟩ | h)
            · exact .inl (.inl h)
            · exact .inr (by simpa using h)
            · exact .inl (.inr h)
          · rintro ((h | h) | h)
            · exact .inl h
            · exact .inr (.inr h)
            · exact .inr (.inl ⟨trivial, by simpa using h⟩)
        · simp [h0]
end
end Go.Proofs.YtihapgangilncaaGreat
