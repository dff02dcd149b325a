/- Lists of paths as arguments; what a set made of them lists (plain). Sets of paths made of lists: what is in them; impl.SetEqual. The leaves of a set as a tree (plain). impl.SetMembers, impl.SetWithPrefix, impl.SetSize, laws.at. laws.at: an element in front of each path of a list. Two lists in order gone through side by side (plain): which of the one the other has. -/
import Derived.Test.YtihapgangilncaaGreatKESetR
import Derived.Test.YtihapgangilncaaGreatKESetIns
import Derived.Test.YtihapgangilncaaGreatKEWalkC
namespace Go.Proofs.YtihapgangilncaaGreat
open Go.RowKit Go.Deep Go.ChangeShapes Go.WideShapes
set_option linter.unusedSimpArgs false

section
variable {H : Type} {enc : TypeId × Value → H} {w : World} {base : Nat} {spare : Nat → Bool} {held : Bool}
theorem eleven_ofP {cs : List Value} (h : cs.length = 11) : ∃ c0 c1 c2 c3 c4 c5 c6 c7 c8 c9 c10, cs = [c0, c1, c2, c3, c4, c5, c6, c7, c8, c9, c10] := by
  match cs, h with
  | [c0, c1, c2, c3, c4, c5, c6, c7, c8, c9, c10], _ => exact ⟨_, _, _, _, _, _, _, _, _, _, _, rfl⟩
theorem read_elP {fuel : Nat} {cs : List Value} {x : DataW H × List MemPlace} (h : DataW.trod enc Tryz.prog w base spare held fuel 47 cs = some x)
    (hw : (x.1.weights Tryz.prog 47).all (· ≤ reachBytes) = true) : ∃ e, kEl.is w [] cs e := by
  obtain ⟨hlen, n, hn, hf⟩ := read_fields Tryz.underlying47 h hw
  have q : Tryz.prog.cellsOf 47 = 11 := by kernel_rfl
  have q0 : Tryz.prog.cellsOf 3 = 1 := by kernel_rfl
  have q1 : Tryz.prog.cellsOf 9 = 1 := by kernel_rfl
  have q2 : Tryz.prog.cellsOf 41 = 1 := by kernel_rfl
  have q3 : Tryz.prog.cellsOf 42 = 1 := by kernel_rfl
  have q4 : Tryz.prog.cellsOf 45 = 6 := by kernel_rfl
  rw [q] at hlen
  obtain ⟨c0, c1, c2, c3, c4, c5, c6, c7, c8, c9, c10, rfl⟩ := eleven_ofP hlen
  have e0 := hf 0
  have e1 := hf 1
  have e2 := hf 2
  have e3 := hf 3
  have e4 := hf 4
  have e5 := hf 5
  simp only [List.getElem?_toArray, List.getElem?_cons_zero, List.getElem?_cons_succ, Option.some.injEq, forall_eq', q0, q1, q2, q3, q4, List.drop_zero, List.drop_succ_cons, List.take_succ_cons, List.take_zero] at e0 e1 e2 e3 e4 e5
  obtain ⟨y0, t0, w0⟩ := e0
  obtain ⟨y1, t1, w1⟩ := e1
  obtain ⟨y2, t2, w2⟩ := e2
  obtain ⟨y3, t3, w3⟩ := e3
  obtain ⟨y4, t4, w4⟩ := e4
  obtain ⟨y5, t5, w5⟩ := e5
  obtain ⟨k0, h0, -, wf0⟩ := DataW.trod_int Tryz.underlying3 t0
  obtain ⟨s1, h1, hs1⟩ := read_str t1 w1
  obtain ⟨v2, ss, h2, hss⟩ := read_strs t2 w2
  obtain ⟨v3, vs, h3, hvs⟩ := read_vs t3 w3
  obtain ⟨v, hv⟩ := read_v n _ _ t4 w4
  obtain ⟨k5, h5, -, wf5⟩ := DataW.trod_int Tryz.underlying3 t5
  simp only [List.cons.injEq, and_true] at h0 h1 h2 h3 h5
  subst h0 h1 h2 h3 h5
  exact ⟨⟨k0, s1, ss, vs, v, k5⟩, _, _, [c4, c5, c6, c7, c8, c9], rfl, wf0, wf5, hs1, hss, hvs, hv⟩
theorem read_path1 {fuel : Nat} {cs : List Value} {x : DataW H × List MemPlace} (h : DataW.trod enc Tryz.prog w base spare held fuel 22 cs = some x)
    (hw : (x.1.weights Tryz.prog 22).all (· ≤ reachBytes) = true) : ∃ v p, cs = [v] ∧ IsSl kEl 168 w [] v p :=
  read_sl (k := kEl) (bytes := 168) (by simp [kEl]) Tryz.underlying22 (by kernel_rfl) (by kernel_rfl) (fun f _ cs x h hw => read_elP h hw) h hw
theorem read_paths {fuel : Nat} {cs : List Value} {x : DataW H × List MemPlace} (h : DataW.trod enc Tryz.prog w base spare held fuel 24 cs = some x)
    (hw : (x.1.weights Tryz.prog 24).all (· ≤ reachBytes) = true) : ∃ v p, cs = [v] ∧ IsSl kPth 24 w [] v p :=
  read_sl (k := kPth) (bytes := 24) (by simp [kPth]) Tryz.underlying24 (by kernel_rfl) (by kernel_rfl) (fun f _ cs x h hw => by
    obtain ⟨v, p, h1, h2⟩ := read_path1 h hw
    exact ⟨p, v, h1, h2⟩) h hw
end

theorem good_list {w : World} {X : List Nat} {va : Value} {l : List (List EL)} (ha : IsSl kPth 24 w X va l) (ht : ∀ p ∈ l, ∀ e ∈ p, tameEl e) : ∀ p ∈ l, GP GoodE (p.map toE) := by
  obtain ⟨o, c, b, off, -, -, -, -, l5⟩ := ha.ex
  intro p hp x hx
  obtain ⟨e, he, rfl⟩ := List.mem_map.1 hx
  refine ⟨e, ht p hp e he, ?_, rfl⟩
  obtain ⟨i, hi, rfl⟩ := List.getElem_of_mem hp
  obtain ⟨cs, -, v, -, hv⟩ := l5 i hi
  obtain ⟨o2, c2, b2, off2, -, -, -, -, m5⟩ := hv.ex
  obtain ⟨j, hj, rfl⟩ := List.getElem_of_mem he
  obtain ⟨ds, -, vk, vl, vs, -, -, -, -, -, hl, -⟩ := m5 j hj
  obtain ⟨_, _, _, _, -, -, hb, -⟩ := hl.ex
  exact hb
theorem back_toE {L : List (List PEl)} (hL : ∀ p ∈ L, GP GoodE p) : ∀ p ∈ L.map (·.map backE), GP GoodE (p.map toE) := by
  intro p hp x hx
  obtain ⟨q, hq, rfl⟩ := List.mem_map.1 hp
  rw [List.map_map] at hx
  obtain ⟨y, hy, rfl⟩ := List.mem_map.1 hx
  exact goodE_back (hL q hq y hy)
/-- the set of a list of paths, written out and made again, is the same -/
theorem setOf_again {L : List (List PEl)} (hL : ∀ p ∈ L, GP GoodE p) (hne : ∀ p ∈ L, p ≠ []) {q : List PEl} (hq : GP GoodE q) : hasC (wc cmpPe) (setOf ((L.map (·.map backE)).map (·.map toE))) q ↔ hasC (wc cmpPe) L q := by
  rw [(setOf_facts goodE_ord (l := (L.map (·.map backE)).map (·.map toE)) (fun p hp => by
    obtain ⟨r, hr, rfl⟩ := List.mem_map.1 hp
    exact back_toE hL r hr)).2.2.2.1 q hq]
  have hw : ∀ p ∈ L, wc cmpPe ((p.map backE).map toE) q = wc cmpPe p q := fun p hp => by
    rw [List.map_map]
    have := wc_map (d := cmpPe) (f := toE ∘ backE) (g := id) (q := q) (p := p) (fun x hx y => cmpPe_back (goodE_from (hL p hp x hx)) y)
    simpa using this
  constructor
  · rintro ⟨p, hp, -, h0⟩
    obtain ⟨r, hr, rfl⟩ := List.mem_map.1 hp
    obtain ⟨s, hs, rfl⟩ := List.mem_map.1 hr
    exact ⟨s, hs, by rw [← hw s hs]; exact h0⟩
  · rintro ⟨s, hs, h0⟩
    refine ⟨(s.map backE).map toE, List.mem_map.2 ⟨_, List.mem_map.2 ⟨s, hs, rfl⟩, rfl⟩, fun h => hne s hs (by simpa using h), by rw [hw s hs]; exact h0⟩
/-- two lists of paths that hold the same are made into equal sets -/
theorem sets_equal {A B : List (List PEl)} (hA : ∀ p ∈ A, GP GoodE p) (hB : ∀ p ∈ B, GP GoodE p) (hnA : ∀ p ∈ A, p ≠ []) (hnB : ∀ p ∈ B, p ≠ []) :
    listB (listB eqEl) ((setOf ((A.map (·.map backE)).map (·.map toE))).map (·.map backE)) ((setOf ((B.map (·.map backE)).map (·.map toE))).map (·.map backE)) = true ↔ ∀ q, GP GoodE q → (hasC (wc cmpPe) A q ↔ hasC (wc cmpPe) B q) := by
  have fA := setOf_facts goodE_ord (l := (A.map (·.map backE)).map (·.map toE)) (fun p hp => by
    obtain ⟨r, hr, rfl⟩ := List.mem_map.1 hp
    exact back_toE hA r hr)
  have fB := setOf_facts goodE_ord (l := (B.map (·.map backE)).map (·.map toE)) (fun p hp => by
    obtain ⟨r, hr, rfl⟩ := List.mem_map.1 hp
    exact back_toE hB r hr)
  have gA : ∀ p ∈ setOf ((A.map (·.map backE)).map (·.map toE)), GP GoodE p := fun p hp => by
    obtain ⟨r, hr, rfl⟩ := List.mem_map.1 (fA.2.1 p hp)
    exact back_toE hA r hr
  have gB : ∀ p ∈ setOf ((B.map (·.map backE)).map (·.map toE)), GP GoodE p := fun p hp => by
    obtain ⟨r, hr, rfl⟩ := List.mem_map.1 (fB.2.1 p hp)
    exact back_toE hB r hr
  rw [goodE_lists gA gB]
  constructor
  · intro h q hq
    rw [← setOf_again hA hnA hq, ← setOf_again hB hnB hq]
    have hh := wc_ord goodE_ord
    generalize setOf ((A.map (·.map backE)).map (·.map toE)) = a at h gA
    generalize setOf ((B.map (·.map backE)).map (·.map toE)) = b at h gB
    clear fA fB
    induction h with
    | nil => rfl
    | cons h1 _ ih =>
      have e := ih (fun p hp => gA p (List.mem_cons_of_mem _ hp)) (fun p hp => gB p (List.mem_cons_of_mem _ hp))
      rw [hasC_cons, hasC_cons, hh.congr (gA _ (by simp)) (gB _ (by simp)) hq h1]
      exact or_congr Iff.rfl e
  · intro h
    refine srt_uniq (wc_ord goodE_ord) fA.1 fB.1 gA gB (fun x hx => ?_) (fun x hx => ?_)
    · rw [setOf_again hB hnB (gA x hx), ← h x (gA x hx), ← setOf_again hA hnA (gA x hx)]
      exact hasC_self (wc_ord goodE_ord) hx
    · rw [setOf_again hA hnA (gB x hx), h x (gB x hx), ← setOf_again hB hnB (gB x hx)]
      exact hasC_self (wc_ord goodE_ord) hx
end Go.Proofs.YtihapgangilncaaGreat
namespace Go.Proofs.YtihapgangilncaaGreat
open Go.RowKit
set_option linter.unusedSimpArgs false

/-- among keys in order there is one for each -/
theorem key_uniq {β α : Type} {c : α → α → Int} {G : α → Prop} (ho : Cmpr c G) : ∀ {l : List (α × Tr β α)}, SrtC c (l.map (·.1)) → (∀ p ∈ l, G p.1) → ∀ p ∈ l, ∀ r ∈ l, c p.1 r.1 = 0 → p = r
  | [], _, _, p, hp, _, _, _ => by simp at hp
  | x :: l, hsr, hg, p, hp, r, hr, h0 => by
    rw [List.map_cons] at hsr
    have h1 := List.pairwise_cons.1 hsr
    rcases List.mem_cons.1 hp with e1 | hp'
    · rcases List.mem_cons.1 hr with e2 | hr'
      · rw [e1, e2]
      · have := h1.1 r.1 (List.mem_map.2 ⟨r, hr', rfl⟩); rw [e1] at h0; omega
    · rcases List.mem_cons.1 hr with e2 | hr'
      · have := h1.1 p.1 (List.mem_map.2 ⟨p, hp', rfl⟩); have := ho.neg p.1 r.1; rw [e2] at h0 this; omega
      · exact key_uniq ho h1.2 (fun z hz => hg z (by simp [hz])) p hp' r hr' h0

/-- q is among the paths of l -/
def memP (l : List (List EL)) (q : List PEl) : Prop := ∃ p ∈ l.map (·.map toE), p ≠ [] ∧ wc cmpPe p q = 0
/-- toSet, its set to be read -/
theorem toSetR_c {w : World} {X : List Nat} {lv : Value} {l : List (List EL)} (hl : IsSl kPth 24 w X lv l) (hX : Old X w) (hG : ∀ p ∈ l, GP GoodE (p.map toE)) (hbytes : (l.length + 1) * 40 ≤ 140737488351232) (R : Ending → World → Prop)
    (hR : ∀ w' sv (s : St) d, Ext w w' → (kSt d).is w' X [sv] s → Tr.Wf cmpPe GoodE s → (∀ q, GP GoodE q → (Tr.has cmpPe s q ↔ memP l q)) → R (.returned sv) w') :
    Calls Tryz.prog 58 #[lv] w R := by
  refine toSet_c goodE_ord hl hX hG hbytes R ?_
  intro w1 t hE1 hst hbl hwf hhas
  have htl := tree_len goodE_ord hwf (L := l.map (·.map toE)) (fun x hx => by
    obtain ⟨e, he, rfl⟩ := List.mem_map.1 hx
    exact hG e he) hhas
  rw [List.length_map] at htl
  obtain ⟨d, hd⟩ := store_read hst t (fun n hn => hn) hwf (Nat.le_trans (Nat.mul_le_mul_right 40 (Nat.le_trans htl (Nat.le_succ _))) hbytes)
  exact hR w1 _ _ d hE1 hd (Tr.erase_wf hwf) (fun q hq => Tr.erase_has.trans (hhas q hq))

end Go.Proofs.YtihapgangilncaaGreat
namespace Go.Proofs.YtihapgangilncaaGreat
open Go.RowKit
set_option linter.unusedSimpArgs false

mutual
def Tr.leaves {α : Type} (c : α → α → Int) : Tr Unit α → Tr Unit α
  | .mk _ ms cs => .mk () (ms.filter fun m => !hasBl c (cs.map (·.1)) m) (Tr.leavesL c cs)
def Tr.leavesL {α : Type} (c : α → α → Int) : List (α × Tr Unit α) → List (α × Tr Unit α)
  | [] => []
  | p :: cs => Tr.leavesP c p :: Tr.leavesL c cs
def Tr.leavesP {α : Type} (c : α → α → Int) : α × Tr Unit α → α × Tr Unit α
  | (e, s) => (e, Tr.leaves c s)
end
section
variable {α : Type} {c : α → α → Int} {G : α → Prop}
theorem Tr.leavesL_eq (cs : List (α × Tr Unit α)) : Tr.leavesL c cs = cs.map fun p => (p.1, p.2.leaves c) := by
  induction cs with
  | nil => simp [Tr.leavesL]
  | cons p cs ih => obtain ⟨e, s⟩ := p; simp [Tr.leavesL, Tr.leavesP, ih]
theorem Tr.leaves_eq (t : Unit) (ms : List α) (cs : List (α × Tr Unit α)) : (Tr.mk t ms cs).leaves c = .mk () (ms.filter fun m => !hasBl c (cs.map (·.1)) m) (cs.map fun p => (p.1, p.2.leaves c)) := by rw [Tr.leaves, Tr.leavesL_eq]

theorem leaves_ne {s : Tr Unit α} (h : s.Wf c G) : s.paths ≠ [] → (s.leaves c).paths ≠ [] := by
  induction s using Tr.ind with
  | h t ms cs ih =>
    cases h with
    | mk h1 h2 h3 h4 h5 h6 =>
      intro hne
      rw [Tr.leaves_eq, Tr.paths_eq]
      simp only [Tr.ms, Tr.cs]
      cases cs with
      | nil =>
        rw [Tr.paths_eq] at hne
        simp only [Tr.ms, Tr.cs, List.flatMap_nil, List.append_nil] at hne
        have hf : (ms.filter fun m => !hasBl c (([] : List (α × Tr Unit α)).map (·.1)) m) = ms := List.filter_eq_self.2 fun m _ => by simp [hasBl]
        rw [hf]
        simpa using hne
      | cons p cs =>
        have := ih p (by simp) (h6 p (by simp)) (h5 p (by simp))
        intro h0
        have h0 := (List.append_eq_nil_iff.1 h0).2
        rw [List.map_cons, List.flatMap_cons] at h0
        have h0 := (List.append_eq_nil_iff.1 h0).1
        exact this (List.map_eq_nil_iff.1 h0)
theorem leaves_wf {s : Tr Unit α} (h : s.Wf c G) : (s.leaves c).Wf c G := by
  induction s using Tr.ind with
  | h t ms cs ih =>
    cases h with
    | mk h1 h2 h3 h4 h5 h6 =>
      rw [Tr.leaves_eq]
      refine .mk (List.Pairwise.filter _ h1) (fun x hx => h2 x (List.mem_filter.1 hx).1) (by rw [List.map_map]; exact h3) (fun p hp => ?_) (fun p hp => ?_) (fun p hp => ?_) <;> obtain ⟨q, hq, rfl⟩ := List.mem_map.1 hp
      · exact h4 q hq
      · exact leaves_ne (h6 q hq) (h5 q hq)
      · exact ih q hq (h6 q hq)

/-- the leaves: the paths behind which none goes on -/
theorem leaves_has (ho : Cmpr c G) {s : Tr Unit α} (h : s.Wf c G) : ∀ q, GP G q → ((s.leaves c).has c q ↔ s.has c q ∧ ∀ r, GP G r → r ≠ [] → ¬ s.has c (q ++ r)) := by
  induction s using Tr.ind with
  | h t ms cs ih =>
    cases h with
    | mk h1 h2 h3 h4 h5 h6 =>
      intro q hq
      cases q with
      | nil => exact ⟨fun h => absurd h Tr.has_nil, fun h => absurd h.1 Tr.has_nil⟩
      | cons e q =>
        have he := hq e (by simp)
        have hq' : GP G q := fun y hy => hq y (by simp [hy])
        rw [Tr.leaves_eq]
        by_cases hne : q = []
        · subst hne
          rw [Tr.has_one, Tr.has_one]
          simp only [Tr.ms, mem_has_mem, List.cons_append, List.nil_append]
          constructor
          · rintro ⟨m, hm, hb, h0⟩
            refine ⟨⟨m, hm, h0⟩, fun r hr hrn hh => ?_⟩
            rw [Tr.has_cons hrn] at hh
            obtain ⟨p, hp, hpe, -⟩ := hh
            rw [Bool.not_eq_true', ← Bool.not_eq_true, hasBl_iff] at hb
            exact hb ⟨p.1, List.mem_map.2 ⟨p, hp, rfl⟩, by rw [ho.congr' (h2 m hm) he (h4 p hp) h0]; exact hpe⟩
          · rintro ⟨⟨m, hm, h0⟩, hno⟩
            refine ⟨m, hm, ?_, h0⟩
            rw [Bool.not_eq_true', ← Bool.not_eq_true, hasBl_iff]
            rintro ⟨k, hk, hk0⟩
            obtain ⟨p, hp, rfl⟩ := List.mem_map.1 hk
            obtain ⟨r, hr⟩ := List.exists_mem_of_ne_nil _ (h5 p hp)
            refine hno r (Tr.paths_good (h6 p hp) r hr) (Tr.paths_ne hr) ?_
            rw [Tr.has_cons (Tr.paths_ne hr)]
            exact ⟨p, hp, by rw [← ho.congr' (h2 m hm) he (h4 p hp) h0]; exact hk0, hasC_self (wc_ord ho) hr⟩
        · rw [Tr.has_cons hne, Tr.has_cons hne]
          simp only [Tr.cs, List.mem_map]
          have happ : ∀ r : List α, q ++ r ≠ [] := fun r h => hne (List.append_eq_nil_iff.1 h).1
          constructor
          · rintro ⟨p', ⟨p, hp, rfl⟩, hpe, hh⟩
            have h7 := (ih p hp (h6 p hp) q hq').1 hh
            refine ⟨⟨p, hp, hpe, h7.1⟩, fun r hr hrn hc => ?_⟩
            rw [List.cons_append, Tr.has_cons (happ r)] at hc
            obtain ⟨p2, hp2, hpe2, hh2⟩ := hc
            have e : p2 = p := key_uniq ho h3 h4 p2 hp2 p hp (by
              have := ho.congr' (h4 p hp) he (h4 p2 hp2) hpe
              rw [this]; exact hpe2)
            subst e
            exact h7.2 r hr hrn hh2
          · rintro ⟨⟨p, hp, hpe, hh⟩, hno⟩
            exact ⟨_, ⟨p, hp, rfl⟩, hpe, (ih p hp (h6 p hp) q hq').2 ⟨hh, fun r hr hrn hc => hno r hr hrn (by
              rw [List.cons_append, Tr.has_cons (happ r)]
              exact ⟨p, hp, hpe, hc⟩)⟩⟩
end
end Go.Proofs.YtihapgangilncaaGreat
namespace Go.Proofs.YtihapgangilncaaGreat
open Go.RowKit
set_option linter.unusedSimpArgs false

theorem memP_len {l : List (List EL)} {w : World} {X : List Nat} {va : Value} (ha : IsSl kPth 24 w X va l) {q : List PEl} (h : memP l q) : q.length * 168 ≤ 140737488351232 := by
  obtain ⟨p, hp, -, h0⟩ := h
  rw [← wc_len h0]
  obtain ⟨r, hr, rfl⟩ := List.mem_map.1 hp
  obtain ⟨o, c, b, off, -, -, -, -, l5⟩ := ha.ex
  obtain ⟨i, hi, rfl⟩ := List.getElem_of_mem hr
  obtain ⟨cs, -, v, -, hv⟩ := l5 i hi
  obtain ⟨_, _, _, _, -, -, hb, -⟩ := hv.ex
  rw [List.length_map]
  exact hb
end Go.Proofs.YtihapgangilncaaGreat
namespace Go.Proofs.YtihapgangilncaaGreat
open Go.RowKit
set_option linter.unusedSimpArgs false

theorem grown_cell {w w' : World} {row : Option Nat} {k off : Nat} {v : Value} (hg : w.grownBy w' row) (hc : w.cell? ⟨k, off, none⟩ = some v) (hne : ¬ some k = row) : w'.cell? ⟨k, off, none⟩ = some v :=
  (((Mv.refl w row.toList).grown hg (fun j hj => by simp [hj])).cell (by simpa [eq_comm] using hne) hc).1
theorem Row.lit {α : Type} {k : Kind α} {e : TypeId} {w : World} {X : List Nat} {b : Nat} {c : Array Value} {u : α} (hb : w.heap[b]? = some (.cells c e (0, 0))) (hu : k.is w (b :: X) c.toList u) (hX : b ∉ X) : Row k e w X (.slice (some ⟨b, 0, none⟩) 1 1) [u] :=
  have hl : c.size = k.size := by simpa using k.len hu
  ⟨[c.toList], ⟨by simpa using hl, .inr ⟨b, 1, c, rfl, Nat.zero_le _, hb, Nat.le_refl _, by decide, by simpa using hl, by simp [← hl, List.take_of_length_le]⟩⟩, .cons hu .nil, fun g h => by simp [Value.ownBlock] at h; subst h; exact hX⟩

end Go.Proofs.YtihapgangilncaaGreat
namespace Go.Proofs.YtihapgangilncaaGreat
open Go.RowKit
set_option linter.unusedSimpArgs false

section
variable {α : Type} {c : α → α → Int} {G : α → Prop}
/-- the first j of ks are ahead of all of ms from the i-th on -/
def Ahd (c : α → α → Int) (ms ks : List α) (i j : Nat) : Prop := ∀ i' (hi : i' < ms.length) j' (hj : j' < ks.length), i ≤ i' → j' < j → c ks[j'] ms[i'] < 0
theorem ahd_zero (ms ks : List α) (i : Nat) : Ahd c ms ks i 0 := fun _ _ _ _ _ h => by omega
theorem ahd_next {ms ks : List α} {i j : Nat} (h : Ahd c ms ks i j) : Ahd c ms ks (i + 1) j := fun i' hi j' hj h1 h2 => h i' hi j' hj (by omega) h2
theorem ahd_gt (ho : Cmpr c G) {ms ks : List α} (hm : SrtC c ms) (gm : ∀ x ∈ ms, G x) (gk : ∀ x ∈ ks, G x) {i j : Nat} (hi : i < ms.length) (hj : j < ks.length) (h : Ahd c ms ks i j) (hr : 0 < c ms[i] ks[j]) : Ahd c ms ks i (j + 1) := fun i' hi' j' hj' h1 h2 => by
  by_cases e : j' = j
  · subst e
    have h3 : c ks[j'] ms[i] < 0 := by have := ho.neg ms[i] ks[j']; omega
    by_cases e2 : i' = i
    · subst e2; exact h3
    · exact ho.lt_tr (gk _ (List.getElem_mem hj')) (gm _ (List.getElem_mem hi)) (gm _ (List.getElem_mem hi')) h3 (List.pairwise_iff_getElem.1 hm i i' hi hi' (by omega))
  · exact h i' hi' j' hj' h1 (by omega)
theorem ahd_eq (ho : Cmpr c G) {ms ks : List α} (hm : SrtC c ms) (gm : ∀ x ∈ ms, G x) (gk : ∀ x ∈ ks, G x) {i j : Nat} (hi : i < ms.length) (hj : j < ks.length) (h : Ahd c ms ks i j) (hr : c ms[i] ks[j] = 0) : Ahd c ms ks (i + 1) (j + 1) := fun i' hi' j' hj' h1 h2 => by
  by_cases e : j' = j
  · subst e
    rw [← ho.congr (gm _ (List.getElem_mem hi)) (gk _ (List.getElem_mem hj')) (gm _ (List.getElem_mem hi')) hr]
    exact List.pairwise_iff_getElem.1 hm i i' hi hi' (by omega)
  · exact h i' hi' j' hj' (by omega) (by omega)
theorem has_eq (ho : Cmpr c G) {ms ks : List α} {i j : Nat} (hi : i < ms.length) (hj : j < ks.length) (hr : c ms[i] ks[j] = 0) : hasBl c ks ms[i] = true := by
  rw [hasBl_iff]
  exact ⟨ks[j], List.getElem_mem hj, by have := ho.neg ms[i] ks[j]; omega⟩
theorem has_lt (ho : Cmpr c G) {ms ks : List α} (hk : SrtC c ks) (gm : ∀ x ∈ ms, G x) (gk : ∀ x ∈ ks, G x) {i j : Nat} (hi : i < ms.length) (hj : j < ks.length) (h : Ahd c ms ks i j) (hr : c ms[i] ks[j] < 0) : hasBl c ks ms[i] = false := by
  rw [← Bool.not_eq_true, hasBl_iff]
  rintro ⟨x, hx, h0⟩
  obtain ⟨j', hj', rfl⟩ := List.getElem_of_mem hx
  rcases Nat.lt_trichotomy j' j with h1 | h1 | h1
  · have := h i hi j' hj' (Nat.le_refl _) h1; omega
  · subst h1; have := ho.neg ms[i] ks[j']; omega
  · have := ho.lt_tr (gm _ (List.getElem_mem hi)) (gk _ (List.getElem_mem hj)) (gk _ (List.getElem_mem hj')) hr (List.pairwise_iff_getElem.1 hk j j' hj hj' h1)
    have := ho.neg ms[i] ks[j']; omega
theorem has_end {ms ks : List α} {i : Nat} (hi : i < ms.length) (h : Ahd c ms ks i ks.length) : hasBl c ks ms[i] = false := by
  rw [← Bool.not_eq_true, hasBl_iff]
  rintro ⟨x, hx, h0⟩
  obtain ⟨j', hj', rfl⟩ := List.getElem_of_mem hx
  have := h i hi j' hj' (Nat.le_refl _) hj'; omega
theorem kept_not {ms ks : List α} {i : Nat} (hi : i < ms.length) (h : hasBl c ks ms[i] = true) : (ms.take (i + 1)).filter (fun m => !hasBl c ks m) = (ms.take i).filter (fun m => !hasBl c ks m) := by
  rw [List.take_succ_eq_append_getElem hi, List.filter_append]
  simp [List.filter_cons, h]
theorem kept_one {ms ks : List α} {i : Nat} (hi : i < ms.length) (h : hasBl c ks ms[i] = false) : (ms.take (i + 1)).filter (fun m => !hasBl c ks m) = (ms.take i).filter (fun m => !hasBl c ks m) ++ [ms[i]] := by
  rw [List.take_succ_eq_append_getElem hi, List.filter_append]
  simp [List.filter_cons, h]
end
end Go.Proofs.YtihapgangilncaaGreat
