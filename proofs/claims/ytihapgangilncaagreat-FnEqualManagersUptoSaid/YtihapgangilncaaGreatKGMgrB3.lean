/- Lists of managers by name (plain). The leaves of a set as a tree (plain). laws.at: an element in front of each path of a list. Parts of slices; withManager as a contract (printed by gen_mgrb.py). withManager: a name that is there (printed by gen_mgrb.py). withManager: the first manager (printed by gen_mgrb.py). -/
import Derived.Test.YtihapgangilncaaGreatKGSetP
import Derived.Test.YtihapgangilncaaGreatKGSetEq
import Derived.Test.YtihapgangilncaaGreatKGFromS
namespace Go.Proofs.YtihapgangilncaaGreat
open Go.RowKit
set_option linter.unusedSimpArgs false

theorem getEnt_cons {α : Type} {k k' : ByteArray} {v : α} {es : EntsOfT α} : getEnt k ((k', v) :: es) = if k' = k then some v else getEnt k es := by
  have sh : ∀ (es : EntsOfT α) (i j : Nat), (findEnt k es i).map (·.2) = (findEnt k es j).map (·.2) := by
    intro es
    induction es with
    | nil => intro i j; simp [findEnt]
    | cons e es ih =>
      intro i j
      simp only [findEnt]
      split
      · simp
      · exact ih _ _
  unfold getEnt
  simp only [findEnt]
  by_cases h : k' = k
  · simp [h]
  · have h2 : (k == k') = false := by simpa using fun e => h e.symm
    simp only [h2, h, if_false]
    exact sh es 1 0
theorem getEnt_put {α : Type} {k n : ByteArray} {v : α} : ∀ {es : EntsOfT α}, getEnt n (putEnt k v es) = if k = n then some v else getEnt n es
  | [] => by simp only [putEnt]; rw [getEnt_cons]
  | (k', v') :: es => by
    simp only [putEnt]
    by_cases h : k' = k
    · subst h
      simp only [beq_self_eq_true, if_true]
      rw [getEnt_cons, getEnt_cons]
      split <;> rfl
    · have h2 : (k == k') = false := by simpa using fun e => h e.symm
      simp only [h2]
      rw [if_neg (by simp), getEnt_cons, getEnt_put (es := es), getEnt_cons]
      by_cases h3 : k' = n
      · subst h3
        have : ¬ k = k' := fun e => h e.symm
        simp [this]
      · simp [h3]
theorem getEnt_none {α : Type} {n : ByteArray} : ∀ {es : EntsOfT α}, getEnt n es = none ↔ n ∉ es.map (·.1)
  | [] => by simp [getEnt, findEnt]
  | (k', v') :: es => by
    rw [getEnt_cons, List.map_cons, List.mem_cons]
    by_cases h : k' = n
    · simp [h]
    · rw [if_neg h, getEnt_none (es := es)]
      exact ⟨fun hn e => e.elim (fun e => h e.symm) hn, fun hn hm => hn (.inr hm)⟩
theorem getEnt_mem {α : Type} {n : ByteArray} {v : α} : ∀ {es : EntsOfT α}, (es.map (·.1)).Nodup → ((n, v) ∈ es ↔ getEnt n es = some v)
  | [], _ => by simp [getEnt, findEnt]
  | (k', v') :: es, hn => by
    rw [List.map_cons] at hn
    have h1 := List.nodup_cons.1 hn
    rw [getEnt_cons, List.mem_cons]
    by_cases h : k' = n
    · subst h
      simp only [if_true, Option.some.injEq, Prod.mk.injEq, true_and]
      constructor
      · rintro (h | h)
        · exact h.symm
        · exact absurd (List.mem_map.2 ⟨_, h, rfl⟩) h1.1
      · intro h; exact .inl h.symm
    · rw [if_neg h, ← getEnt_mem (es := es) h1.2]
      exact ⟨fun hm => hm.elim (fun e => absurd (Prod.mk.inj e).1.symm h) id, .inr⟩

/-- the last manager of a name -/
def lastOf (l : List Mg) (n : ByteArray) : Option Mg := l.foldl (fun acc m => if m.name = n then some m else acc) none
theorem lastOf_snoc (l : List Mg) (m : Mg) (n : ByteArray) : lastOf (l ++ [m]) n = if m.name = n then some m else lastOf l n := by simp [lastOf]
theorem lastOf_mem {l : List Mg} {n : ByteArray} {m : Mg} (h : lastOf l n = some m) : m ∈ l ∧ m.name = n := by
  have gen : ∀ (l : List Mg) (acc : Option Mg), l.foldl (fun acc m => if m.name = n then some m else acc) acc = some m → acc = some m ∨ (m ∈ l ∧ m.name = n) := by
    intro l
    induction l with
    | nil => intro acc h; exact .inl h
    | cons x l ih =>
      intro acc h
      rw [List.foldl_cons] at h
      rcases ih _ h with h | ⟨h1, h2⟩
      · split at h
        · rename_i e
          cases h
          exact .inr ⟨by simp, e⟩
        · exact .inl h
      · exact .inr ⟨by simp [h1], h2⟩
  rcases gen l none h with h | h
  · cases h
  · exact h
def lookM (C : List Mg) (n : ByteArray) : Option Mg := C.find? fun m => m.name == n
/-- in increasing order of the names -/
def SrtM (C : List Mg) : Prop := C.Pairwise fun a b => cmpS a.name b.name < 0
theorem lookM_cons (x : Mg) (C : List Mg) (n : ByteArray) : lookM (x :: C) n = if x.name = n then some x else lookM C n := by
  unfold lookM
  rw [List.find?_cons]
  by_cases h : x.name = n
  · simp [h]
  · have : (x.name == n) = false := by simpa using h
    simp [this, h]
theorem lookM_none {C : List Mg} {n : ByteArray} (h : ∀ m ∈ C, m.name ≠ n) : lookM C n = none := by
  unfold lookM
  rw [List.find?_eq_none]
  intro m hm
  simpa using h m hm
theorem withM_cons_lt {x m : Mg} {C : List Mg} (h : cmpS x.name m.name < 0) : withM (x :: C) m = x :: withM C m := by
  have h1 : mIdx (x :: C) m.name = mIdx C m.name + 1 := by
    unfold mIdx
    rw [List.takeWhile_cons_of_pos (by simpa using h), List.length_cons]
  have h2 : mHasAt (x :: C) m.name = mHasAt C m.name := by
    unfold mHasAt
    rw [h1, List.getElem?_cons_succ]
  unfold withM
  rw [h1, h2]
  split <;> simp
theorem withM_cons_ge {x m : Mg} {C : List Mg} (h : ¬ cmpS x.name m.name < 0) : withM (x :: C) m = m :: if x.name = m.name then C else x :: C := by
  have h1 : mIdx (x :: C) m.name = 0 := by
    unfold mIdx
    rw [List.takeWhile_cons_of_neg (by simpa using h)]
    rfl
  have h2 : mHasAt (x :: C) m.name = (x.name == m.name) := by
    unfold mHasAt
    rw [h1]
    rfl
  unfold withM
  rw [h1, h2]
  by_cases e : x.name = m.name
  · simp [e]
  · have : (x.name == m.name) = false := by simpa using e
    simp [this, e]
theorem withM_nil (m : Mg) : withM [] m = [m] := by
  have h1 : mIdx [] m.name = 0 := rfl
  unfold withM
  rw [h1]
  simp
theorem withM_mem {m z : Mg} : ∀ {C : List Mg}, z ∈ withM C m → z = m ∨ z ∈ C
  | [], h => by rw [withM_nil] at h; simpa using h
  | x :: C, h => by
    by_cases hx : cmpS x.name m.name < 0
    · rw [withM_cons_lt hx] at h
      rcases List.mem_cons.1 h with h | h
      · exact .inr (by simp [h])
      · exact (withM_mem h).imp id fun h => by simp [h]
    · rw [withM_cons_ge hx] at h
      rcases List.mem_cons.1 h with h | h
      · exact .inl h
      · split at h
        · exact .inr (by simp [h])
        · exact .inr h
theorem slt_of {a b : ByteArray} (h : cmpS a b < 0) : slt a b = true := by
  rw [cmpS_slt] at h
  by_cases e : slt a b = true
  · exact e
  · rw [if_neg e] at h
    split at h <;> omega
theorem cmpS_trans {a b c : ByteArray} (h1 : cmpS a b < 0) (h2 : cmpS b c < 0) : cmpS a c < 0 := by
  have e1 := slt_of h1
  have e2 := slt_of h2
  rw [cmpS_lt (slt_trans e1 e2)]
  decide
theorem withM_srt {m : Mg} : ∀ {C : List Mg}, SrtM C → SrtM (withM C m)
  | [], _ => by rw [withM_nil]; exact List.pairwise_singleton _ _
  | x :: C, hs => by
    have h1 := List.pairwise_cons.1 hs
    by_cases hx : cmpS x.name m.name < 0
    · rw [withM_cons_lt hx]
      refine List.pairwise_cons.2 ⟨fun z hz => ?_, withM_srt h1.2⟩
      rcases withM_mem hz with rfl | hz
      · exact hx
      · exact h1.1 z hz
    · rw [withM_cons_ge hx]
      by_cases e : x.name = m.name
      · rw [if_pos e]
        exact List.pairwise_cons.2 ⟨fun z hz => by rw [← e]; exact h1.1 z hz, h1.2⟩
      · rw [if_neg e]
        have hlt : cmpS m.name x.name < 0 := by
          have h2 := cmpS_neg x.name m.name
          have h3 : cmpS x.name m.name ≠ 0 := fun h => e (cmpS_zero.1 h)
          omega
        refine List.pairwise_cons.2 ⟨fun z hz => ?_, hs⟩
        rcases List.mem_cons.1 hz with rfl | hz
        · exact hlt
        · exact cmpS_trans hlt (h1.1 z hz)
theorem withM_look {m : Mg} {n : ByteArray} : ∀ {C : List Mg}, SrtM C → lookM (withM C m) n = if m.name = n then some m else lookM C n
  | [], _ => by rw [withM_nil, lookM_cons]
  | x :: C, hs => by
    have h1 := List.pairwise_cons.1 hs
    by_cases hx : cmpS x.name m.name < 0
    · rw [withM_cons_lt hx, lookM_cons, lookM_cons, withM_look h1.2]
      by_cases e : x.name = n
      · have : ¬ m.name = n := fun h => by rw [e, h, cmpS_self] at hx; omega
        simp [e, this]
      · simp [e]
    · rw [withM_cons_ge hx, lookM_cons]
      by_cases e : x.name = m.name
      · rw [if_pos e, lookM_cons, e]
        split <;> rfl
      · rw [if_neg e]
theorem withM_len (C : List Mg) (m : Mg) : (withM C m).length ≤ C.length + 1 := by
  unfold withM
  have := mIdx_le C m.name
  rw [List.length_append, List.length_cons, List.length_take, List.length_drop]
  split <;> omega

/-- a manager with its set as the reference holds it -/
def Mg.clean (m : Mg) : Mg := { m with set := (setOf (m.set.map (·.map toE))).map (·.map backE) }
def cleanM (l : List Mg) : List Mg := l.foldl (fun out m => withM out m.clean) []
theorem cleanM_snoc (l : List Mg) (m : Mg) : cleanM (l ++ [m]) = withM (cleanM l) m.clean := by simp [cleanM]
theorem foldl_snoc_ind {P : List Mg → Prop} (h0 : P []) (h1 : ∀ l m, P l → P (l ++ [m])) (l : List Mg) : P l := by
  have : ∀ n (l : List Mg), l.length = n → P l := by
    intro n
    induction n with
    | zero => intro l h; rw [List.eq_nil_of_length_eq_zero h]; exact h0
    | succ n ih =>
      intro l h
      have hne : l ≠ [] := fun e => by rw [e] at h; simp at h
      rw [← List.dropLast_concat_getLast hne]
      exact h1 _ _ (ih _ (by rw [List.length_dropLast]; omega))
  exact this _ l rfl
theorem cleanM_facts (l : List Mg) : SrtM (cleanM l) ∧ (∀ n, lookM (cleanM l) n = (lastOf l n).map Mg.clean) ∧ (cleanM l).length ≤ l.length := by
  induction l using foldl_snoc_ind with
  | h0 => exact ⟨List.Pairwise.nil, fun n => rfl, Nat.le_refl _⟩
  | h1 l m ih =>
    rw [cleanM_snoc]
    refine ⟨withM_srt ih.1, fun n => ?_, ?_⟩
    · rw [withM_look ih.1, lastOf_snoc, ih.2.1]
      show (if m.name = n then _ else _) = _
      split <;> rfl
    · rw [List.length_append, List.length_singleton]
      exact Nat.le_trans (withM_len _ _) (Nat.succ_le_succ ih.2.2)

/-- two managers as the reference compares them -/
def eqMg (a b : Mg) : Bool := a.name == b.name && a.ver == b.ver && a.app == b.app && listB (listB eqEl) a.set b.set
theorem listB_nn {α : Type} (f : α → α → Bool) : listB f [] [] = true := by simp [listB, pairB]
theorem listB_nc {α : Type} (f : α → α → Bool) (y : α) (m : List α) : listB f [] (y :: m) = false := by simp [listB]
theorem listB_cn {α : Type} (f : α → α → Bool) (x : α) (l : List α) : listB f (x :: l) [] = false := by simp [listB]
theorem listB_cc {α : Type} (f : α → α → Bool) (x y : α) (l m : List α) : listB f (x :: l) (y :: m) = (f x y && listB f l m) := by
  simp only [listB, pairB, List.length_cons, Nat.add_right_cancel_iff]
  cases f x y <;> simp
/-- what two lists hold under a name -/
def optR {α β : Type} (R : α → β → Prop) : Option α → Option β → Prop
  | none, none => True
  | some a, some b => R a b
  | _, _ => False
theorem eqMs_iff : ∀ {C D : List Mg}, SrtM C → SrtM D → (listB eqMg C D = true ↔ ∀ n, optR (fun a b => eqMg a b = true) (lookM C n) (lookM D n))
  | [], [], _, _ => by simp [listB_nn, lookM, optR]
  | [], y :: D, _, _ => by
    rw [listB_nc]
    simp only [Bool.false_eq_true, false_iff]
    intro h
    have := h y.name
    rw [lookM_cons, if_pos rfl] at this
    exact this
  | x :: C, [], _, _ => by
    rw [listB_cn]
    simp only [Bool.false_eq_true, false_iff]
    intro h
    have := h x.name
    rw [lookM_cons, if_pos rfl] at this
    exact this
  | x :: C, y :: D, hC, hD => by
    have c1 := List.pairwise_cons.1 hC
    have d1 := List.pairwise_cons.1 hD
    have ih := eqMs_iff c1.2 d1.2
    rw [listB_cc, Bool.and_eq_true]
    constructor
    · rintro ⟨h1, h2⟩ n
      rw [lookM_cons, lookM_cons]
      have hn : x.name = y.name := by
        unfold eqMg at h1
        simp only [Bool.and_eq_true, beq_iff_eq] at h1
        exact h1.1.1.1
      rw [hn]
      split
      · exact h1
      · exact ih.1 h2 n
    · intro h
      have hx := h x.name
      have hy := h y.name
      rw [lookM_cons, if_pos rfl] at hx
      rw [lookM_cons y, if_pos rfl] at hy
      have hn : x.name = y.name := by
        have e1 : ¬ cmpS y.name x.name < 0 ∧ ¬ cmpS x.name y.name < 0 := by
          constructor
          · intro hlt
            have : lookM (x :: C) y.name = none := lookM_none fun m hm e => by
              rcases List.mem_cons.1 hm with rfl | hm
              · rw [e, cmpS_self] at hlt; omega
              · have := cmpS_trans hlt (c1.1 m hm); rw [e, cmpS_self] at this; omega
            rw [this] at hy
            exact hy
          · intro hlt
            have : lookM (y :: D) x.name = none := lookM_none fun m hm e => by
              rcases List.mem_cons.1 hm with rfl | hm
              · rw [e, cmpS_self] at hlt; omega
              · have := cmpS_trans hlt (d1.1 m hm); rw [e, cmpS_self] at this; omega
            rw [this] at hx
            exact hx
        have := cmpS_neg x.name y.name
        exact cmpS_zero.1 (by omega)
      rw [lookM_cons, if_pos hn.symm] at hx
      refine ⟨hx, ih.2 fun n => ?_⟩
      have h3 := h n
      rw [lookM_cons, lookM_cons, ← hn] at h3
      by_cases e : x.name = n
      · subst e
        rw [lookM_none fun m hm e => by have := c1.1 m hm; rw [e, cmpS_self] at this; omega, lookM_none fun m hm e => by have := d1.1 m hm; rw [← hn, e, cmpS_self] at this; omega]
        trivial
      · simpa [e] using h3
end Go.Proofs.YtihapgangilncaaGreat
namespace Go.Proofs.YtihapgangilncaaGreat
open Go.RowKit
set_option linter.unusedSimpArgs false

mutual
def Tr.leaves {α : Type} (c : α → α → Int) : Tr Unit α → Tr Unit α
  | .mk _ ms cs => .mk () (ms.filter fun m => !hasBl c (cs.map (·.1)) m) (Tr.leavesL c cs)
def Tr.leavesL {α : Type} (c : α → α → Int) : List (α × Tr Unit α) → List (α × Tr Unit α)
  | [] => []
  | p :: cs => Tr.leavesP c p :: Tr.leavesL c cs
def Tr.leavesP {α : Type} (c : α → α → Int) : α × Tr Unit α → α × Tr Unit α
  | (e, s) => (e, Tr.leaves c s)
end
section
variable {α : Type} {c : α → α → Int} {G : α → Prop}
end
end Go.Proofs.YtihapgangilncaaGreat
namespace Go.Proofs.YtihapgangilncaaGreat
open Go.RowKit
set_option linter.unusedSimpArgs false

theorem Row.lit {α : Type} {k : Kind α} {e : TypeId} {w : World} {X : List Nat} {b : Nat} {c : Array Value} {u : α} (hb : w.heap[b]? = some (.cells c e (0, 0))) (hu : k.is w (b :: X) c.toList u) (hX : b ∉ X) : Row k e w X (.slice (some ⟨b, 0, none⟩) 1 1) [u] :=
  have hl : c.size = k.size := by simpa using k.len hu
  ⟨[c.toList], ⟨by simpa using hl, .inr ⟨b, 1, c, rfl, Nat.zero_le _, hb, Nat.le_refl _, by decide, by simpa using hl, by simp [← hl, List.take_of_length_le]⟩⟩, .cons hu .nil, fun g h => by simp [Value.ownBlock] at h; subst h; exact hX⟩

end Go.Proofs.YtihapgangilncaaGreat
namespace Go.Proofs.YtihapgangilncaaGreat
open Go.RowKit
set_option linter.unusedSimpArgs false

theorem IsSl.takeV {α : Type} {k : Kind α} {bytes : Nat} {w : World} {X : List Nat} {o : Option Addr} {c n : Nat} {us : List α} (h : IsSl k bytes w X (.slice o n c) us) {p : Nat} (hp : p ≤ us.length) : IsSl k bytes w X (.slice o p c) (us.take p) := by
  obtain ⟨o2, c2, b, off, h1, h2, h3, h4, h5⟩ := h.ex
  cases h1
  have hl : (us.take p).length = p := by rw [List.length_take]; omega
  refine ⟨o, c, b, off, by rw [hl], by rw [hl]; omega, by rw [hl]; exact Nat.le_trans (Nat.mul_le_mul_right _ hp) h3, fun hl0 => h4 (by omega), fun i hi => ?_⟩
  obtain ⟨cs, hcs, hk⟩ := h5 i (by omega)
  exact ⟨cs, hcs, by rw [List.getElem_take]; exact hk⟩
theorem IsSl.zero {α : Type} {k : Kind α} {bytes : Nat} {w : World} {X : List Nat} (o : Option Addr) (c : Nat) : IsSl k bytes w X (.slice o 0 c) [] := ⟨o, c, 0, 0, rfl, by simp, by simp, fun h => by simp at h, fun i hi => by simp at hi⟩
theorem IsSl.dropW {α : Type} {k : Kind α} {bytes : Nat} {w : World} {X : List Nat} {o : Option Addr} {c : Nat} {us : List α} (h : IsSl k bytes w X (.slice o us.length c) us) {p s : Nat} (hs : k.size = s) (hp : p ≤ us.length) (hc : us.length ≤ c) (o' : Option Addr)
    (ho : p < us.length → ∀ b off, o = some ⟨b, off, none⟩ → o' = some ⟨b, off + p * s, none⟩) : IsSl k bytes w X (.slice o' (us.length - p) (c - p)) (us.drop p) := by
  by_cases hlt : p < us.length
  · obtain ⟨o2, c2, b, off, h1, h2, h3, h4, h5⟩ := id h.ex
    obtain ⟨rfl, -⟩ := h4 (by omega)
    cases h1
    rw [ho hlt b off rfl, ← hs]
    exact h.drop hp _ _ rfl (by omega)
  · have e : p = us.length := by omega
    subst e
    rw [Nat.sub_self, List.drop_of_length_le (Nat.le_refl _)]
    exact IsSl.zero _ _

/-- spec.withManager, for the lists and managers that P takes -/
def WithMC (P : List Mg → Mg → Prop) : Prop := ∀ {w : World} {X : List Nat} {va : Value} {l : List Mg} {cs : List Value} {m : Mg}, P l m → IsSl kMg 64 w X va l → kMg.is w X cs m → Old X w → (l.length + 1) * 64 ≤ 140737488351232 → ∀ R : Ending → World → Prop, (∀ w' v', Ext w w' → IsSl kMg 64 w' X v' (withM l m) → R (.returned v') w') →
    Calls Tryz.prog 121 #[va, .agg cs.toArray] w R
end Go.Proofs.YtihapgangilncaaGreat
namespace Go.Proofs.YtihapgangilncaaGreat
open Go.RowKit
set_option linter.unusedSimpArgs false

set_option maxRecDepth 100000 in
set_option maxHeartbeats 16000000 in
set_option pp.maxSteps 1000000 in
set_option pp.deepTerms true in
theorem withM_old : WithMC (fun l m => mHasAt l m.name = true) := by
  intro w X va l cs m hcase ha hm hX hb R hR
  obtain ⟨o, c, b, off, rfl, l2, l3, l4, l5⟩ := id ha.ex
  obtain ⟨sv, rfl, n1, n2, hsv⟩ := id hm
  obtain ⟨so, sc, -, -, rfl, -⟩ := id hsv.ex
  have hil0 : mIdx l m.name < l.length := by
    have h := hcase
    unfold mHasAt at h
    rcases Nat.lt_or_ge (mIdx l m.name) l.length with h1 | h1
    · exact h1
    · rw [List.getElem?_eq_none h1] at h; cases h
  obtain ⟨rfl, -⟩ := l4 (by omega)
  clear l4
  have ha' := Lib.hid ha
  have hm' := Lib.hid hm
  have hX' := Lib.hid hX
  have hR' := Lib.hid hR
  have hb' := Lib.hid hb
  have hlI : (l.length : Int) ≤ 140737488351232 := by omega
  have l2' := Lib.hid l2
  clear hR ha hm hX hb l5 l3 n1 n2 hsv l2
  go_enter Tryz.func121, Tryz.ntmps121
  go_upto_region 1 with (fail)
  refine abs1 (G := Code.wp _ _ _ _) ?_
  intro w1 hE1 hb1 hs1
  have e0 : w1.cell? ⟨w.heap.size, 0, none⟩ = some (.string m.name) := cells_of hb1 0; have e1 : w1.cell? ⟨w.heap.size, 1, none⟩ = some (.string m.ver) := cells_of hb1 1; have e2 : w1.cell? ⟨w.heap.size, 2, none⟩ = some (.bool m.app) := cells_of hb1 2; have e3 : w1.cell? ⟨w.heap.size, 3, none⟩ = some (.slice so m.set.length sc) := cells_of hb1 3
  have hE1' := Lib.hid hE1
  clear hs1 hb1
  go_wp2_with fail
  refine managerIndex_c (X := X) (ha'.out.mv (hE1'.out.mv X) (by decide)) _ ?_
  intro w2 hE2
  have hi := mIdx_le l m.name
  have hil := hil0
  have hwm := Lib.hid (show withM l m = l.take (mIdx l m.name) ++ m :: l.drop (if mHasAt l m.name then mIdx l m.name + 1 else mIdx l m.name) from rfl)
  obtain ⟨i, hii⟩ : ∃ i, mIdx l m.name = i := ⟨_, rfl⟩
  rw [hii, hcase] at hwm
  rw [hii] at hi hil
  rw [hii, hcase]
  clear hil0
  have hE12 := Lib.hid (hE1'.out.trans hE2)
  replace e0 := hE2.keep e0; replace e1 := hE2.keep e1; replace e2 := hE2.keep e2; replace e3 := hE2.keep e3
  clear hE2
  have hiI : (i : Int) ≤ (l.length : Int) := by omega
  have hicI : (i : Int) ≤ (c : Int) := by have := l2'.out; omega
  have h0i : (0 : Int) ≤ (i : Int) := by omega
  clear hii
  have hkm : (i : Int) + 1 ≤ 9223372036854775807 := by omega
  have hi2 : (i : Int) + 1 ≤ (l.length : Int) := by omega
  by_cases hci : c = i + 1
  · skip
    have hl1 : l.length = i + 1 := by have := l2'.out; omega
    subst hci
    have hdr := Lib.hid (show ∀ (o' : Option Addr) (n' c' : Nat), n' = 0 → IsSl kMg 64 w X (.slice o' n' c') (l.drop (i + 1)) from fun o' n' c' hn => by subst hn; rw [List.drop_of_length_le (Nat.le_of_eq hl1)]; exact IsSl.zero _ _)
    have hlt : Hid (((l.take i).length + 1) * 64 ≤ 140737488351232) := Lib.hid (Nat.le_trans (Nat.mul_le_mul_right 64 (by simp only [List.length_take, List.length_nil]; omega)) hb'.out)
    have hb0 : (0 + (l.take i).length) * 64 ≤ 140737488355328 := by have := hlt.out; omega
    have hm0 : 0 + (l.take i).length ≤ maxLen := by rw [maxLen_eq]; have := hlt.out; omega
    have hb1 : ((l.take i).length + 1) * 64 ≤ 140737488355328 := by have := hlt.out; omega
    have hm1 : (l.take i).length + 1 ≤ maxLen := by rw [maxLen_eq]; have := hlt.out; omega
    have hle5 : (l.take i ++ [m]).length + (l.drop (i + 1)).length ≤ l.length + 1 := by simp only [List.length_append, List.length_take, List.length_drop, List.length_singleton, List.length_nil]; omega
    have hb5 : ((l.take i ++ [m]).length + (l.drop (i + 1)).length) * 64 ≤ 140737488355328 := Nat.le_trans (Nat.mul_le_mul_right 64 hle5) (Nat.le_trans hb'.out (by decide))
    have hm5 : (l.take i ++ [m]).length + (l.drop (i + 1)).length ≤ maxLen := by rw [maxLen_eq]; have := hb'.out; omega
    have hle5' := Lib.hid hle5
    have hres := Lib.hid (show withM l m = (l.take i ++ [m]) ++ l.drop (i + 1) by rw [hwm.out]; simp)
    clear hle5
    dsimp only
    go_wp2_with (at_builtin; first
      | (refine wpL_rowAppS (k := kMg) (bytes := 64) (w := w2.alloc (.cells #[] 104)) (X := X) (v := .slice (some ⟨w2.heap.size, 0, none⟩) 0 0) (us := []) (ts := l.take i) rfl (Row.made ((push_get _ _ _).trans (if_pos rfl)) (fun h => by have := hX'.out _ h; have := hE12.out.size; omega)) (Ext.refl _) (hX'.out.le (Nat.le_trans hE12.out.size (Ext.alloc w2 _).size)) ((ha'.out.takeV hi).mv (((hE12.out.trans (Ext.alloc w2 _)).mv X).moreL (fun z hz => by simp [vb, Value.ownBlock] at hz; have := hE12.out.size; omega)) (by decide)) _ _ _ rfl Tryz.underlying31 Tryz.info104 rfl (by decide) rfl rfl hb0 hm0 ?_; intro v3 w3 hr3 hg3 hd3; have hr3' := Lib.hid hr3; have hE3 : Ext w2 w3 := (Ext.alloc w2 _).grown hg3 (fun k hk => by cases hk; exact Nat.le_refl _); have hd3' : Hid (∀ g ∈ vb v3, w2.heap.size ≤ g) := Lib.hid (fun g hg => (hd3 g (by simpa [vb] using hg)).elim (fun h => by simp [Value.ownBlock] at h; omega) (fun h => Nat.le_trans (Ext.alloc w2 _).size h)); replace e0 := hE3.keep e0; replace e1 := hE3.keep e1; replace e2 := hE3.keep e2; replace e3 := hE3.keep e3; have hE03 := Lib.hid (hE12.out.trans hE3); have hv3 := hr3.one; clear hr3 hg3 hd3)
      | (refine wpL_rowApp (c := #[.string m.name, .string m.ver, .bool m.app, .slice so m.set.length sc]) (u := m) rfl hr3'.out (Ext.refl _) (hX'.out.le hE03.out.size) (kMg.mv hm'.out ((hE03.out.mv X).moreL (fun g hg => Nat.le_trans hE12.out.size (hd3'.out g hg)))) _ _ _ rfl Tryz.underlying31 Tryz.info104 rfl (by decide) rfl rfl hb1 hm1 ?_; intro v4 w4 hr4 hg4 hne4 hd4; have hr4' := Lib.hid hr4; have hE4 : Ext w2 w4 := hE3.grown hg4 (fun k hk => hd3'.out k (by simp [vb, hk])); have hd4' : Hid (∀ g ∈ vb v4, w2.heap.size ≤ g) := Lib.hid (fun g hg => (hd4 g (by simpa [vb] using hg)).elim (fun h => hd3'.out g (by simpa [vb] using h)) (fun h => Nat.le_trans hE3.size h)); have hE04 := Lib.hid (hE12.out.trans hE4); have hv4 := hr4.one; clear hr4 hg4 hd4 hne4)
      | (refine wpL_rowAppS (k := kMg) (bytes := 64) (ts := l.drop (i + 1)) rfl hr4'.out (Ext.refl _) (hX'.out.le hE04.out.size) (IsSl.mv (hdr.out _ _ _ (by first | rfl | omega | (simp; omega))) ((hE04.out.mv X).moreL (fun g hg => Nat.le_trans hE12.out.size (hd4'.out g hg))) (by decide)) _ _ _ rfl Tryz.underlying31 Tryz.info104 rfl (by decide) rfl rfl hb5 hm5 ?_; intro v5 w5 hr5 hg5 hd5; have hr5' := Lib.hid hr5; have hE5 := Lib.hid (hE12.out.trans (hE4.grown hg5 (fun k hk => hd4'.out k (by simp [vb, hk])))); have hv5 := hr5.one; clear hr5 hg5 hd5))
    all_goals exact hR'.out w5 v5 hE5.out (by rw [hres.out]; exact hr5'.out.isSl (by rw [List.length_append]; exact Nat.le_trans (Nat.mul_le_mul_right 64 hle5'.out) hb'.out))
  · skip
    have hdr := Lib.hid (show ∀ o', (i + 1 < l.length → o' = some ⟨b, off + (i + 1) * 4, none⟩) → IsSl kMg 64 w X (.slice o' (l.length - (i + 1)) (c - (i + 1))) (l.drop (i + 1)) from fun o' ho => ha'.out.dropW rfl (by omega) l2'.out o' (fun h b2 off2 e => by cases e; exact ho h))
    have hlt : Hid (((l.take i).length + 1) * 64 ≤ 140737488351232) := Lib.hid (Nat.le_trans (Nat.mul_le_mul_right 64 (by simp only [List.length_take, List.length_nil]; omega)) hb'.out)
    have hb0 : (0 + (l.take i).length) * 64 ≤ 140737488355328 := by have := hlt.out; omega
    have hm0 : 0 + (l.take i).length ≤ maxLen := by rw [maxLen_eq]; have := hlt.out; omega
    have hb1 : ((l.take i).length + 1) * 64 ≤ 140737488355328 := by have := hlt.out; omega
    have hm1 : (l.take i).length + 1 ≤ maxLen := by rw [maxLen_eq]; have := hlt.out; omega
    have hle5 : (l.take i ++ [m]).length + (l.drop (i + 1)).length ≤ l.length + 1 := by simp only [List.length_append, List.length_take, List.length_drop, List.length_singleton, List.length_nil]; omega
    have hb5 : ((l.take i ++ [m]).length + (l.drop (i + 1)).length) * 64 ≤ 140737488355328 := Nat.le_trans (Nat.mul_le_mul_right 64 hle5) (Nat.le_trans hb'.out (by decide))
    have hm5 : (l.take i ++ [m]).length + (l.drop (i + 1)).length ≤ maxLen := by rw [maxLen_eq]; have := hb'.out; omega
    have hle5' := Lib.hid hle5
    have hres := Lib.hid (show withM l m = (l.take i ++ [m]) ++ l.drop (i + 1) by rw [hwm.out]; simp)
    clear hle5
    dsimp only
    go_wp2_with (at_builtin; first
      | (refine wpL_rowAppS (k := kMg) (bytes := 64) (w := w2.alloc (.cells #[] 104)) (X := X) (v := .slice (some ⟨w2.heap.size, 0, none⟩) 0 0) (us := []) (ts := l.take i) rfl (Row.made ((push_get _ _ _).trans (if_pos rfl)) (fun h => by have := hX'.out _ h; have := hE12.out.size; omega)) (Ext.refl _) (hX'.out.le (Nat.le_trans hE12.out.size (Ext.alloc w2 _).size)) ((ha'.out.takeV hi).mv (((hE12.out.trans (Ext.alloc w2 _)).mv X).moreL (fun z hz => by simp [vb, Value.ownBlock] at hz; have := hE12.out.size; omega)) (by decide)) _ _ _ rfl Tryz.underlying31 Tryz.info104 rfl (by decide) rfl rfl hb0 hm0 ?_; intro v3 w3 hr3 hg3 hd3; have hr3' := Lib.hid hr3; have hE3 : Ext w2 w3 := (Ext.alloc w2 _).grown hg3 (fun k hk => by cases hk; exact Nat.le_refl _); have hd3' : Hid (∀ g ∈ vb v3, w2.heap.size ≤ g) := Lib.hid (fun g hg => (hd3 g (by simpa [vb] using hg)).elim (fun h => by simp [Value.ownBlock] at h; omega) (fun h => Nat.le_trans (Ext.alloc w2 _).size h)); replace e0 := hE3.keep e0; replace e1 := hE3.keep e1; replace e2 := hE3.keep e2; replace e3 := hE3.keep e3; have hE03 := Lib.hid (hE12.out.trans hE3); have hv3 := hr3.one; clear hr3 hg3 hd3)
      | (refine wpL_rowApp (c := #[.string m.name, .string m.ver, .bool m.app, .slice so m.set.length sc]) (u := m) rfl hr3'.out (Ext.refl _) (hX'.out.le hE03.out.size) (kMg.mv hm'.out ((hE03.out.mv X).moreL (fun g hg => Nat.le_trans hE12.out.size (hd3'.out g hg)))) _ _ _ rfl Tryz.underlying31 Tryz.info104 rfl (by decide) rfl rfl hb1 hm1 ?_; intro v4 w4 hr4 hg4 hne4 hd4; have hr4' := Lib.hid hr4; have hE4 : Ext w2 w4 := hE3.grown hg4 (fun k hk => hd3'.out k (by simp [vb, hk])); have hd4' : Hid (∀ g ∈ vb v4, w2.heap.size ≤ g) := Lib.hid (fun g hg => (hd4 g (by simpa [vb] using hg)).elim (fun h => hd3'.out g (by simpa [vb] using h)) (fun h => Nat.le_trans hE3.size h)); have hE04 := Lib.hid (hE12.out.trans hE4); have hv4 := hr4.one; clear hr4 hg4 hd4 hne4)
      | (refine wpL_rowAppS (k := kMg) (bytes := 64) (ts := l.drop (i + 1)) rfl hr4'.out (Ext.refl _) (hX'.out.le hE04.out.size) (IsSl.mv (hdr.out _ (by first | (intro _; rfl) | (intro h; omega))) ((hE04.out.mv X).moreL (fun g hg => Nat.le_trans hE12.out.size (hd4'.out g hg))) (by decide)) _ _ _ rfl Tryz.underlying31 Tryz.info104 rfl (by decide) rfl rfl hb5 hm5 ?_; intro v5 w5 hr5 hg5 hd5; have hr5' := Lib.hid hr5; have hE5 := Lib.hid (hE12.out.trans (hE4.grown hg5 (fun k hk => hd4'.out k (by simp [vb, hk])))); have hv5 := hr5.one; clear hr5 hg5 hd5))
    all_goals exact hR'.out w5 v5 hE5.out (by rw [hres.out]; exact hr5'.out.isSl (by rw [List.length_append]; exact Nat.le_trans (Nat.mul_le_mul_right 64 hle5'.out) hb'.out))
end Go.Proofs.YtihapgangilncaaGreat
namespace Go.Proofs.YtihapgangilncaaGreat
open Go.RowKit
set_option linter.unusedSimpArgs false

set_option maxRecDepth 100000 in
set_option maxHeartbeats 16000000 in
set_option pp.maxSteps 1000000 in
set_option pp.deepTerms true in
theorem withM_first : WithMC (fun l _ => l.length = 0) := by
  intro w X va l cs m hcase ha hm hX hb R hR
  obtain ⟨o, c, b, off, rfl, l2, l3, l4, l5⟩ := id ha.ex
  obtain ⟨sv, rfl, n1, n2, hsv⟩ := id hm
  obtain ⟨so, sc, -, -, rfl, -⟩ := id hsv.ex
  have hl0 : l = [] := List.eq_nil_of_length_eq_zero hcase
  subst hl0
  clear l4 hcase
  have ha' := Lib.hid ha
  have hm' := Lib.hid hm
  have hX' := Lib.hid hX
  have hR' := Lib.hid hR
  have hb' := Lib.hid hb
  have hlI : (([] : List Mg).length : Int) ≤ 140737488351232 := by omega
  have l2' := Lib.hid l2
  clear hR ha hm hX hb l5 l3 n1 n2 hsv l2
  go_enter Tryz.func121, Tryz.ntmps121
  go_upto_region 1 with (fail)
  refine abs1 (G := Code.wp _ _ _ _) ?_
  intro w1 hE1 hb1 hs1
  have e0 : w1.cell? ⟨w.heap.size, 0, none⟩ = some (.string m.name) := cells_of hb1 0; have e1 : w1.cell? ⟨w.heap.size, 1, none⟩ = some (.string m.ver) := cells_of hb1 1; have e2 : w1.cell? ⟨w.heap.size, 2, none⟩ = some (.bool m.app) := cells_of hb1 2; have e3 : w1.cell? ⟨w.heap.size, 3, none⟩ = some (.slice so m.set.length sc) := cells_of hb1 3
  have hE1' := Lib.hid hE1
  clear hs1 hb1
  go_wp2_with fail
  refine managerIndex_c (X := X) (ha'.out.mv (hE1'.out.mv X) (by decide)) _ ?_
  intro w2 hE2
  have hi := mIdx_le ([] : List Mg) m.name
  have hwm := Lib.hid (withM_nil m)
  rw [show mIdx ([] : List Mg) m.name = 0 from rfl, show mHasAt ([] : List Mg) m.name = false from rfl]
  clear hi
  have hE12 := Lib.hid (hE1'.out.trans hE2)
  replace e0 := hE2.keep e0; replace e1 := hE2.keep e1; replace e2 := hE2.keep e2; replace e3 := hE2.keep e3
  clear hE2
  cases o
  · skip
    have hlt : Hid (((([] : List Mg)).length + 1) * 64 ≤ 140737488351232) := Lib.hid (Nat.le_trans (Nat.mul_le_mul_right 64 (by simp only [List.length_take, List.length_nil]; omega)) hb'.out)
    have hb0 : (0 + (([] : List Mg)).length) * 64 ≤ 140737488355328 := by have := hlt.out; omega
    have hm0 : 0 + (([] : List Mg)).length ≤ maxLen := by rw [maxLen_eq]; have := hlt.out; omega
    have hb1 : ((([] : List Mg)).length + 1) * 64 ≤ 140737488355328 := by have := hlt.out; omega
    have hm1 : (([] : List Mg)).length + 1 ≤ maxLen := by rw [maxLen_eq]; have := hlt.out; omega
    have hle5 : (([] : List Mg) ++ [m]).length + (([] : List Mg)).length ≤ ([] : List Mg).length + 1 := by simp only [List.length_append, List.length_take, List.length_drop, List.length_singleton, List.length_nil]; omega
    have hb5 : ((([] : List Mg) ++ [m]).length + (([] : List Mg)).length) * 64 ≤ 140737488355328 := Nat.le_trans (Nat.mul_le_mul_right 64 hle5) (Nat.le_trans hb'.out (by decide))
    have hm5 : (([] : List Mg) ++ [m]).length + (([] : List Mg)).length ≤ maxLen := by rw [maxLen_eq]; have := hb'.out; omega
    have hle5' := Lib.hid hle5
    have hres := Lib.hid (show withM [] m = (([] : List Mg) ++ [m]) ++ ([] : List Mg) by rw [hwm.out]; simp)
    clear hle5
    dsimp only
    go_wp2_with (at_builtin; first
      | (refine wpL_rowAppS (k := kMg) (bytes := 64) (w := w2.alloc (.cells #[] 104)) (X := X) (v := .slice (some ⟨w2.heap.size, 0, none⟩) 0 0) (us := []) (ts := ([] : List Mg)) rfl (Row.made ((push_get _ _ _).trans (if_pos rfl)) (fun h => by have := hX'.out _ h; have := hE12.out.size; omega)) (Ext.refl _) (hX'.out.le (Nat.le_trans hE12.out.size (Ext.alloc w2 _).size)) (IsSl.zero _ _) _ _ _ rfl Tryz.underlying31 Tryz.info104 rfl (by decide) rfl rfl hb0 hm0 ?_; intro v3 w3 hr3 hg3 hd3; have hr3' := Lib.hid hr3; have hE3 : Ext w2 w3 := (Ext.alloc w2 _).grown hg3 (fun k hk => by cases hk; exact Nat.le_refl _); have hd3' : Hid (∀ g ∈ vb v3, w2.heap.size ≤ g) := Lib.hid (fun g hg => (hd3 g (by simpa [vb] using hg)).elim (fun h => by simp [Value.ownBlock] at h; omega) (fun h => Nat.le_trans (Ext.alloc w2 _).size h)); replace e0 := hE3.keep e0; replace e1 := hE3.keep e1; replace e2 := hE3.keep e2; replace e3 := hE3.keep e3; have hE03 := Lib.hid (hE12.out.trans hE3); have hv3 := hr3.one; clear hr3 hg3 hd3)
      | (refine wpL_rowApp (c := #[.string m.name, .string m.ver, .bool m.app, .slice so m.set.length sc]) (u := m) rfl hr3'.out (Ext.refl _) (hX'.out.le hE03.out.size) (kMg.mv hm'.out ((hE03.out.mv X).moreL (fun g hg => Nat.le_trans hE12.out.size (hd3'.out g hg)))) _ _ _ rfl Tryz.underlying31 Tryz.info104 rfl (by decide) rfl rfl hb1 hm1 ?_; intro v4 w4 hr4 hg4 hne4 hd4; have hr4' := Lib.hid hr4; have hE4 : Ext w2 w4 := hE3.grown hg4 (fun k hk => hd3'.out k (by simp [vb, hk])); have hd4' : Hid (∀ g ∈ vb v4, w2.heap.size ≤ g) := Lib.hid (fun g hg => (hd4 g (by simpa [vb] using hg)).elim (fun h => hd3'.out g (by simpa [vb] using h)) (fun h => Nat.le_trans hE3.size h)); have hE04 := Lib.hid (hE12.out.trans hE4); have hv4 := hr4.one; clear hr4 hg4 hd4 hne4)
      | (refine wpL_rowAppS (k := kMg) (bytes := 64) (ts := ([] : List Mg)) rfl hr4'.out (Ext.refl _) (hX'.out.le hE04.out.size) (IsSl.zero _ _) _ _ _ rfl Tryz.underlying31 Tryz.info104 rfl (by decide) rfl rfl hb5 hm5 ?_; intro v5 w5 hr5 hg5 hd5; have hr5' := Lib.hid hr5; have hE5 := Lib.hid (hE12.out.trans (hE4.grown hg5 (fun k hk => hd4'.out k (by simp [vb, hk])))); have hv5 := hr5.one; clear hr5 hg5 hd5))
    all_goals exact hR'.out w5 v5 hE5.out (by rw [hres.out]; exact hr5'.out.isSl (by rw [List.length_append]; exact Nat.le_trans (Nat.mul_le_mul_right 64 hle5'.out) hb'.out))
  · skip
    have hlt : Hid (((([] : List Mg)).length + 1) * 64 ≤ 140737488351232) := Lib.hid (Nat.le_trans (Nat.mul_le_mul_right 64 (by simp only [List.length_take, List.length_nil]; omega)) hb'.out)
    have hb0 : (0 + (([] : List Mg)).length) * 64 ≤ 140737488355328 := by have := hlt.out; omega
    have hm0 : 0 + (([] : List Mg)).length ≤ maxLen := by rw [maxLen_eq]; have := hlt.out; omega
    have hb1 : ((([] : List Mg)).length + 1) * 64 ≤ 140737488355328 := by have := hlt.out; omega
    have hm1 : (([] : List Mg)).length + 1 ≤ maxLen := by rw [maxLen_eq]; have := hlt.out; omega
    have hle5 : (([] : List Mg) ++ [m]).length + (([] : List Mg)).length ≤ ([] : List Mg).length + 1 := by simp only [List.length_append, List.length_take, List.length_drop, List.length_singleton, List.length_nil]; omega
    have hb5 : ((([] : List Mg) ++ [m]).length + (([] : List Mg)).length) * 64 ≤ 140737488355328 := Nat.le_trans (Nat.mul_le_mul_right 64 hle5) (Nat.le_trans hb'.out (by decide))
    have hm5 : (([] : List Mg) ++ [m]).length + (([] : List Mg)).length ≤ maxLen := by rw [maxLen_eq]; have := hb'.out; omega
    have hle5' := Lib.hid hle5
    have hres := Lib.hid (show withM [] m = (([] : List Mg) ++ [m]) ++ ([] : List Mg) by rw [hwm.out]; simp)
    clear hle5
    dsimp only
    go_wp2_with (at_builtin; first
      | (refine wpL_rowAppS (k := kMg) (bytes := 64) (w := w2.alloc (.cells #[] 104)) (X := X) (v := .slice (some ⟨w2.heap.size, 0, none⟩) 0 0) (us := []) (ts := ([] : List Mg)) rfl (Row.made ((push_get _ _ _).trans (if_pos rfl)) (fun h => by have := hX'.out _ h; have := hE12.out.size; omega)) (Ext.refl _) (hX'.out.le (Nat.le_trans hE12.out.size (Ext.alloc w2 _).size)) (IsSl.zero _ _) _ _ _ rfl Tryz.underlying31 Tryz.info104 rfl (by decide) rfl rfl hb0 hm0 ?_; intro v3 w3 hr3 hg3 hd3; have hr3' := Lib.hid hr3; have hE3 : Ext w2 w3 := (Ext.alloc w2 _).grown hg3 (fun k hk => by cases hk; exact Nat.le_refl _); have hd3' : Hid (∀ g ∈ vb v3, w2.heap.size ≤ g) := Lib.hid (fun g hg => (hd3 g (by simpa [vb] using hg)).elim (fun h => by simp [Value.ownBlock] at h; omega) (fun h => Nat.le_trans (Ext.alloc w2 _).size h)); replace e0 := hE3.keep e0; replace e1 := hE3.keep e1; replace e2 := hE3.keep e2; replace e3 := hE3.keep e3; have hE03 := Lib.hid (hE12.out.trans hE3); have hv3 := hr3.one; clear hr3 hg3 hd3)
      | (refine wpL_rowApp (c := #[.string m.name, .string m.ver, .bool m.app, .slice so m.set.length sc]) (u := m) rfl hr3'.out (Ext.refl _) (hX'.out.le hE03.out.size) (kMg.mv hm'.out ((hE03.out.mv X).moreL (fun g hg => Nat.le_trans hE12.out.size (hd3'.out g hg)))) _ _ _ rfl Tryz.underlying31 Tryz.info104 rfl (by decide) rfl rfl hb1 hm1 ?_; intro v4 w4 hr4 hg4 hne4 hd4; have hr4' := Lib.hid hr4; have hE4 : Ext w2 w4 := hE3.grown hg4 (fun k hk => hd3'.out k (by simp [vb, hk])); have hd4' : Hid (∀ g ∈ vb v4, w2.heap.size ≤ g) := Lib.hid (fun g hg => (hd4 g (by simpa [vb] using hg)).elim (fun h => hd3'.out g (by simpa [vb] using h)) (fun h => Nat.le_trans hE3.size h)); have hE04 := Lib.hid (hE12.out.trans hE4); have hv4 := hr4.one; clear hr4 hg4 hd4 hne4)
      | (refine wpL_rowAppS (k := kMg) (bytes := 64) (ts := ([] : List Mg)) rfl hr4'.out (Ext.refl _) (hX'.out.le hE04.out.size) (IsSl.zero _ _) _ _ _ rfl Tryz.underlying31 Tryz.info104 rfl (by decide) rfl rfl hb5 hm5 ?_; intro v5 w5 hr5 hg5 hd5; have hr5' := Lib.hid hr5; have hE5 := Lib.hid (hE12.out.trans (hE4.grown hg5 (fun k hk => hd4'.out k (by simp [vb, hk])))); have hv5 := hr5.one; clear hr5 hg5 hd5))
    all_goals exact hR'.out w5 v5 hE5.out (by rw [hres.out]; exact hr5'.out.isSl (by rw [List.length_append]; exact Nat.le_trans (Nat.mul_le_mul_right 64 hle5'.out) hb'.out))
end Go.Proofs.YtihapgangilncaaGreat
