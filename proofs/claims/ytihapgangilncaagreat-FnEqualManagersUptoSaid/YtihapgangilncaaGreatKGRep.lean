/- How values (impl.Value) read as trees, and how contracts end. -/
import Derived.Test.YtihapgangilncaaGreatProg
import Derived.Test.YtihapgangilncaaGreatKGStr
namespace Go.Proofs.YtihapgangilncaaGreat
open Go.RowKit

/-- impl.Value as a tree -/
inductive V where
  | mk (kind n : Int) (f : Nat) (s : ByteArray) (keys : List ByteArray) (l : List V)

/-- v is a slice of strings -/
structure IsStrs (w : World) (X : List Nat) (v : Value) (ss : List ByteArray) : Prop where
  ex : ∃ o c b off, v = .slice o ss.length c ∧ ss.length ≤ c ∧ ss.length * 16 ≤ 140737488351232 ∧ (0 < ss.length → o = some ⟨b, off, none⟩ ∧ b ∉ X) ∧
    ∀ i, i < ss.length → w.cell? ⟨b, off + i, none⟩ = some (.string (ss.getD i ByteArray.empty)) ∧ (ss.getD i ByteArray.empty).size ≤ 140737488351232

theorem IsStrs.small {w : World} {X : List Nat} {v : Value} {ss : List ByteArray} (h : IsStrs w X v ss) : ∀ s ∈ ss, s.size ≤ 140737488351232 := by
  obtain ⟨o, c, b, off, h1, h2, h3, h4, h5⟩ := h.ex
  intro s hs
  obtain ⟨i, hi, rfl⟩ := List.getElem_of_mem hs
  have := (h5 i hi).2
  simpa [hi] using this
theorem IsStrs.mv {w0 w : World} {X Y : List Nat} {v : Value} {ss : List ByteArray} (h : IsStrs w0 X v ss) (hs : Mv w0 X w Y) : IsStrs w Y v ss := by
  obtain ⟨o, c, b, off, h1, h2, h3, h4, h5⟩ := h.ex
  exact ⟨o, c, b, off, h1, h2, h3, fun hp => ⟨(h4 hp).1, (hs.cell (h4 hp).2 (h5 0 hp).1).2⟩, fun i hi => ⟨(hs.cell (h4 (by omega)).2 (h5 i hi).1).1, (h5 i hi).2⟩⟩

/-- the cells cs hold the value v -/
inductive IsV (w : World) (X : List Nat) : List Value → V → Prop where
  | mk {kind n : Int} {f : Nat} {s : ByteArray} {keys : List ByteArray} {ko o : Option Addr} {kc c : Nat} {l : List V} (b off : Nat) (rows : Nat → Nat → Value)
    (hk : (Lit.int .i64 kind).wf = true) (hn : (Lit.int .i64 n).wf = true) (hf : (Lit.float .f64 f).wf = true) (hs : s.size ≤ 140737488351232) (hks : IsStrs w X (.slice ko keys.length kc) keys) (hl : l.length ≤ c) (hc : l.length * 88 ≤ 140737488351232)
    (ho : 0 < l.length → o = some ⟨b, off, none⟩ ∧ b ∉ X) (hr : ∀ i, i < l.length → ∀ j, j < 6 → w.cell? ⟨b, off + i * 6 + j, none⟩ = some (rows i j))
    (hv : ∀ i (h : i < l.length), IsV w X [rows i 0, rows i 1, rows i 2, rows i 3, rows i 4, rows i 5] (l[i])) :
    IsV w X [.int .i64 kind, .int .i64 n, .float .f64 f, .string s, .slice ko keys.length kc, .slice o l.length c] (.mk kind n f s keys l)

theorem IsV.mv {w0 w : World} {X Y : List Nat} {cs : List Value} {v : V} (h : IsV w0 X cs v) (hs : Mv w0 X w Y) : IsV w Y cs v := by
  induction h with
  | mk b off rows hk hn hf hs0 hks hl hc ho hr hv ih =>
    exact .mk b off rows hk hn hf hs0 (hks.mv hs) hl hc (fun hp => ⟨(ho hp).1, (hs.cell (ho hp).2 (hr 0 hp 0 (by omega))).2⟩) (fun i hi j hj => (hs.cell (ho (by omega)).2 (hr i hi j hj)).1) ih

/-- the six cells of a value, written out -/
structure Cells6 where
  (kind n : Int) (f : Nat) (s : ByteArray) (ko : Option Addr) (kn kc : Nat) (o : Option Addr) (m c : Nat)
def Cells6.list (x : Cells6) : List Value := [.int .i64 x.kind, .int .i64 x.n, .float .f64 x.f, .string x.s, .slice x.ko x.kn x.kc, .slice x.o x.m x.c]

/-- v is a slice of values -/
structure IsVs (w : World) (X : List Nat) (v : Value) (l : List V) : Prop where
  ex : ∃ o c b off, v = .slice o l.length c ∧ l.length ≤ c ∧ l.length * 88 ≤ 140737488351232 ∧ (0 < l.length → o = some ⟨b, off, none⟩ ∧ b ∉ X) ∧
    ∀ i (h : i < l.length), ∃ x : Cells6, w.cell? ⟨b, off + i * 6, none⟩ = some (.int .i64 x.kind) ∧ w.cell? ⟨b, off + i * 6 + 1, none⟩ = some (.int .i64 x.n) ∧ w.cell? ⟨b, off + i * 6 + 2, none⟩ = some (.float .f64 x.f) ∧
      w.cell? ⟨b, off + i * 6 + 3, none⟩ = some (.string x.s) ∧ w.cell? ⟨b, off + i * 6 + 4, none⟩ = some (.slice x.ko x.kn x.kc) ∧ w.cell? ⟨b, off + i * 6 + 5, none⟩ = some (.slice x.o x.m x.c) ∧ IsV w X x.list (l[i])

theorem IsVs.mv {w0 w : World} {X Y : List Nat} {v : Value} {l : List V} (h : IsVs w0 X v l) (hs : Mv w0 X w Y) : IsVs w Y v l := by
  obtain ⟨o, c, b, off, h1, h2, h3, h4, h5⟩ := h.ex
  refine ⟨o, c, b, off, h1, h2, h3, fun hp => ?_, fun i hi => ?_⟩
  · obtain ⟨x, c0, _⟩ := h5 0 hp
    exact ⟨(h4 hp).1, (hs.cell (h4 hp).2 c0).2⟩
  obtain ⟨x, c0, c1, c2, c3, c4, c5, hx⟩ := h5 i hi
  have hX := (h4 (by omega)).2
  exact ⟨x, (hs.cell hX c0).1, (hs.cell hX c1).1, (hs.cell hX c2).1, (hs.cell hX c3).1, (hs.cell hX c4).1, (hs.cell hX c5).1, hx.mv hs⟩

theorem IsV.shape {w : World} {X : List Nat} {cs : List Value} {v : V} (h : IsV w X cs v) : ∃ x : Cells6, cs = x.list := by
  cases h with
  | @mk kind n f s keys ko o kc c l b off rows => exact ⟨⟨kind, n, f, s, ko, keys.length, kc, o, l.length, c⟩, rfl⟩

theorem IsV.inv {w : World} {X : List Nat} {cs : List Value} {kind n : Int} {f : Nat} {s : ByteArray} {keys : List ByteArray} {l : List V} (h : IsV w X cs (.mk kind n f s keys l)) :
    ∃ ko kc o c, cs = [.int .i64 kind, .int .i64 n, .float .f64 f, .string s, .slice ko keys.length kc, .slice o l.length c] ∧
      ((Lit.int .i64 kind).wf = true ∧ (Lit.int .i64 n).wf = true ∧ (Lit.float .f64 f).wf = true ∧ s.size ≤ 140737488351232) ∧ IsStrs w X (.slice ko keys.length kc) keys ∧ IsVs w X (.slice o l.length c) l := by
  cases h with
  | @mk _ _ _ _ _ ko o kc c _ b off rows hk hn hf hs hks hl hc ho hr hv =>
    refine ⟨ko, kc, o, c, rfl, ⟨hk, hn, hf, hs⟩, hks, ⟨o, c, b, off, rfl, hl, hc, ho, fun i hi => ?_⟩⟩
    obtain ⟨x, hx⟩ := (hv i hi).shape
    have hvi := hv i hi
    rw [hx] at hvi
    simp only [Cells6.list, List.cons.injEq, and_true] at hx
    obtain ⟨e0, e1, e2, e3, e4, e5⟩ := hx
    exact ⟨x, by simpa [e0] using hr i hi 0 (by omega), by simpa [e1] using hr i hi 1 (by omega), by simpa [e2] using hr i hi 2 (by omega), by simpa [e3] using hr i hi 3 (by omega),
      by simpa [e4] using hr i hi 4 (by omega), by simpa [e5] using hr i hi 5 (by omega), hvi⟩

/-- induction over values -/
theorem V.ind {motive : V → Prop} (h : ∀ kind n f s keys l, (∀ i (h : i < l.length), motive (l[i])) → motive (.mk kind n f s keys l)) (v : V) : motive v :=
  V.rec (motive_1 := motive) (motive_2 := fun l => ∀ i (h : i < l.length), motive (l[i]))
    (fun kind n f s keys l ih => h kind n f s keys l ih) (fun i hi => by simp at hi)
    (fun v l hv hl i hi => by
      cases i with
      | zero => exact hv
      | succ i => exact hl i (by simpa using hi)) v

/-- the cells of several values -/
def flat6 (rows : List Cells6) : List Value := rows.flatMap Cells6.list
theorem flat6_length (rows : List Cells6) : (flat6 rows).length = rows.length * 6 := by
  induction rows with
  | nil => rfl
  | cons r rows ih => simp only [flat6, List.flatMap_cons, List.length_append, List.length_cons] at ih ⊢; rw [ih]; simp [Cells6.list]; omega
theorem flat6_one (rows : List Cells6) : ∀ u ∈ flat6 rows, u.oneCell' = true := by
  intro u hu
  simp only [flat6, List.mem_flatMap] at hu
  obtain ⟨r, _, hr⟩ := hu
  simp only [Cells6.list, List.mem_cons, List.not_mem_nil, or_false] at hr
  rcases hr with rfl | rfl | rfl | rfl | rfl | rfl <;> rfl
theorem flat6_append (a b : List Cells6) : flat6 (a ++ b) = flat6 a ++ flat6 b := by simp [flat6]
theorem flat6_get (rows : List Cells6) : ∀ i (h : i < rows.length) j (_ : j < 6), (flat6 rows)[i * 6 + j]? = (rows[i]).list[j]? := by
  induction rows with
  | nil => intro i h; simp at h
  | cons r rows ih =>
    intro i h j hj
    have e : flat6 (r :: rows) = r.list ++ flat6 rows := rfl
    have hl : r.list.length = 6 := rfl
    rw [e]
    cases i with
    | zero => simp only [Nat.zero_mul, Nat.zero_add, List.getElem_cons_zero]; rw [List.getElem?_append_left (by omega)]
    | succ i =>
      rw [List.getElem?_append_right (by omega), show (i + 1) * 6 + j - r.list.length = i * 6 + j from by omega, ih i (by simpa using h) j hj]
      rfl

theorem IsVs.rows {w : World} {X : List Nat} {v : Value} {l : List V} (h : IsVs w X v l) : ∃ o c b off rows, v = .slice o l.length c ∧ l.length ≤ c ∧ l.length * 88 ≤ 140737488351232 ∧ (0 < l.length → o = some ⟨b, off, none⟩ ∧ b ∉ X) ∧
    All2 (fun x u => IsV w X (Cells6.list x) u) rows l ∧ ∀ j u, (flat6 rows)[j]? = some u → w.cell? ⟨b, off + j, none⟩ = some u := by
  obtain ⟨o, c, b, off, h1, h2, h3, h4, h5⟩ := h.ex
  have key : ∀ (l : List V) (off : Nat), (∀ i (h : i < l.length), ∃ x : Cells6, w.cell? ⟨b, off + i * 6, none⟩ = some (.int .i64 x.kind) ∧ w.cell? ⟨b, off + i * 6 + 1, none⟩ = some (.int .i64 x.n) ∧ w.cell? ⟨b, off + i * 6 + 2, none⟩ = some (.float .f64 x.f) ∧
      w.cell? ⟨b, off + i * 6 + 3, none⟩ = some (.string x.s) ∧ w.cell? ⟨b, off + i * 6 + 4, none⟩ = some (.slice x.ko x.kn x.kc) ∧ w.cell? ⟨b, off + i * 6 + 5, none⟩ = some (.slice x.o x.m x.c) ∧ IsV w X x.list (l[i])) →
      ∃ rows, All2 (fun x u => IsV w X (Cells6.list x) u) rows l ∧ ∀ j u, (flat6 rows)[j]? = some u → w.cell? ⟨b, off + j, none⟩ = some u := by
    intro l
    induction l with
    | nil => intro off _; exact ⟨[], .nil, fun j u h => by simp [flat6] at h⟩
    | cons v l ih =>
      intro off h
      obtain ⟨x, c0, c1, c2, c3, c4, c5, hx⟩ := h 0 (by simp)
      obtain ⟨rows, hr, hc⟩ := ih (off + 6) (fun i hi => by
        have := h (i + 1) (by simpa using hi)
        simpa [Nat.add_mul, Nat.add_assoc, Nat.add_comm 6] using this)
      refine ⟨x :: rows, .cons hx hr, fun j u hj => ?_⟩
      have e : flat6 (x :: rows) = x.list ++ flat6 rows := rfl
      have hl : x.list.length = 6 := rfl
      rw [e] at hj
      by_cases hlt : j < 6
      · rw [List.getElem?_append_left (by omega)] at hj
        simp only [Nat.zero_mul, Nat.add_zero] at c0 c1 c2 c3 c4 c5
        match j, hlt with
        | 0, _ => simp only [Cells6.list, List.getElem?_cons_zero, Option.some.injEq] at hj; rw [← hj]; exact c0
        | 1, _ => simp only [Cells6.list, List.getElem?_cons_succ, List.getElem?_cons_zero, Option.some.injEq] at hj; rw [← hj]; exact c1
        | 2, _ => simp only [Cells6.list, List.getElem?_cons_succ, List.getElem?_cons_zero, Option.some.injEq] at hj; rw [← hj]; exact c2
        | 3, _ => simp only [Cells6.list, List.getElem?_cons_succ, List.getElem?_cons_zero, Option.some.injEq] at hj; rw [← hj]; exact c3
        | 4, _ => simp only [Cells6.list, List.getElem?_cons_succ, List.getElem?_cons_zero, Option.some.injEq] at hj; rw [← hj]; exact c4
        | 5, _ => simp only [Cells6.list, List.getElem?_cons_succ, List.getElem?_cons_zero, Option.some.injEq] at hj; rw [← hj]; exact c5
      · rw [List.getElem?_append_right (by omega)] at hj
        have := hc (j - x.list.length) u hj
        rw [show off + 6 + (j - x.list.length) = off + j from by omega] at this
        exact this
  obtain ⟨rows, hr, hc⟩ := key l off h5
  exact ⟨o, c, b, off, rows, h1, h2, h3, h4, hr, hc⟩

theorem IsVs.of_rows {w : World} {X : List Nat} {l : List V} {o : Option Addr} {c b off : Nat} {rows : List Cells6} (h2 : l.length ≤ c) (h3 : l.length * 88 ≤ 140737488351232) (h4 : 0 < l.length → o = some ⟨b, off, none⟩ ∧ b ∉ X)
    (hr : All2 (fun x u => IsV w X (Cells6.list x) u) rows l) (hc : ∀ j u, (flat6 rows)[j]? = some u → w.cell? ⟨b, off + j, none⟩ = some u) : IsVs w X (.slice o l.length c) l := by
  refine ⟨o, c, b, off, rfl, h2, h3, h4, fun i hi => ?_⟩
  have hlen := hr.length
  have hi' : i < rows.length := by omega
  have g := flat6_get rows i hi'
  refine ⟨rows[i], ?_, ?_, ?_, ?_, ?_, ?_, hr.get i hi' hi⟩
  · exact hc (i * 6 + 0) _ (by rw [g 0 (by omega)]; rfl)
  · exact hc (i * 6 + 1) _ (by rw [g 1 (by omega)]; rfl)
  · exact hc (i * 6 + 2) _ (by rw [g 2 (by omega)]; rfl)
  · exact hc (i * 6 + 3) _ (by rw [g 3 (by omega)]; rfl)
  · exact hc (i * 6 + 4) _ (by rw [g 4 (by omega)]; rfl)
  · exact hc (i * 6 + 5) _ (by rw [g 5 (by omega)]; rfl)

theorem Own.cells6 {w : World} {e g cap n : Nat} {rows : List Cells6} (h : Own w e 6 (.slice (some ⟨g, 0, none⟩) n cap) n (flat6 rows)) : ∀ j u, (flat6 rows)[j]? = some u → w.cell? ⟨g, 0 + j, none⟩ = some u := fun j u hj => by
  have := World.ownsRow.cells (g := g) h rfl j u hj
  rw [addr_add] at this
  exact this

theorem IsVs.of_own {w : World} {X : List Nat} {v : Value} {n : Nat} {rows : List Cells6} {l : List V} (h : Own w 45 6 v n (flat6 rows)) (hr : All2 (fun x u => IsV w X (Cells6.list x) u) rows l) (hg : ∀ g, v.ownBlock = some g → g ∉ X)
    (h3 : l.length * 88 ≤ 140737488351232) : IsVs w X v l := by
  have hlen := hr.length
  have hn : n = l.length := by have := h.1; rw [flat6_length] at this; omega
  subst hn
  obtain ⟨_, h2 | ⟨g, cap, cur, rfl, _, _, h4, _⟩⟩ := id h
  · obtain ⟨rfl, h0⟩ := h2
    have : l = [] := List.eq_nil_of_length_eq_zero h0
    subst this
    exact ⟨none, 0, 0, 0, rfl, by simp, by simp, fun h => by simp at h, fun i hi => by simp at hi⟩
  · exact IsVs.of_rows (b := g) (off := 0) h4 h3 (fun _ => ⟨rfl, hg g rfl⟩) hr h.cells6

theorem IsStrs.of_own {w : World} {X : List Nat} {v : Value} {n : Nat} {ss : List ByteArray} (h : Own w 9 1 v n (ss.map Value.string)) (hg : ∀ g, v.ownBlock = some g → g ∉ X) (h3 : ss.length * 16 ≤ 140737488351232) (hs : ∀ s ∈ ss, s.size ≤ 140737488351232) : IsStrs w X v ss := by
  have hn : n = ss.length := by have := h.1; simp at this; omega
  subst hn
  obtain ⟨_, h2 | ⟨g, cap, cur, rfl, _, _, h4, _⟩⟩ := id h
  · obtain ⟨rfl, h0⟩ := h2
    have : ss = [] := List.eq_nil_of_length_eq_zero h0
    subst this
    exact ⟨none, 0, 0, 0, rfl, by simp, by simp, fun h => by simp at h, fun i hi => by simp at hi⟩
  · refine ⟨some ⟨g, 0, none⟩, cap, g, 0, rfl, h4, h3, fun _ => ⟨rfl, hg g rfl⟩, fun i hi => ?_⟩
    have := h.cell i (by simpa using hi)
    simp only [List.getElem_map] at this
    have e : ss.getD i ByteArray.empty = ss[i] := by simp [hi]
    rw [e]
    exact ⟨this, hs _ (List.getElem_mem hi)⟩

/-- a value out of its parts -/
theorem IsV.of {w : World} {X : List Nat} {kind n : Int} {f : Nat} {s : ByteArray} {keys : List ByteArray} {l : List V} {ks ls : Value} (hk : (Lit.int .i64 kind).wf = true) (hn : (Lit.int .i64 n).wf = true) (hf : (Lit.float .f64 f).wf = true) (hs : s.size ≤ 140737488351232)
    (hks : IsStrs w X ks keys) (hls : IsVs w X ls l) : IsV w X [.int .i64 kind, .int .i64 n, .float .f64 f, .string s, ks, ls] (.mk kind n f s keys l) := by
  obtain ⟨ko, kc, kb, koff, rfl, _⟩ := id hks.ex
  obtain ⟨o, c, b, off, rfl, h2, h3, h4, h5⟩ := hls.ex
  have hch : ∀ i, ∃ x : Cells6, ∀ h : i < l.length, w.cell? ⟨b, off + i * 6, none⟩ = some (.int .i64 x.kind) ∧ w.cell? ⟨b, off + i * 6 + 1, none⟩ = some (.int .i64 x.n) ∧ w.cell? ⟨b, off + i * 6 + 2, none⟩ = some (.float .f64 x.f) ∧
      w.cell? ⟨b, off + i * 6 + 3, none⟩ = some (.string x.s) ∧ w.cell? ⟨b, off + i * 6 + 4, none⟩ = some (.slice x.ko x.kn x.kc) ∧ w.cell? ⟨b, off + i * 6 + 5, none⟩ = some (.slice x.o x.m x.c) ∧ IsV w X x.list (l[i]) := fun i => by
    by_cases hi : i < l.length
    · obtain ⟨x, hx⟩ := h5 i hi; exact ⟨x, fun _ => hx⟩
    · exact ⟨⟨0, 0, 0, ⟨#[]⟩, none, 0, 0, none, 0, 0⟩, fun h => absurd h hi⟩
  refine .mk b off (fun i j => ((Classical.choose (hch i)).list).getD j undef) hk hn hf hs hks h2 h3 h4 (fun i hi j hj => ?_) (fun i hi => ?_)
  · obtain ⟨c0, c1, c2, c3, c4, c5, _⟩ := Classical.choose_spec (hch i) hi
    match j, hj with
    | 0, _ => exact c0
    | 1, _ => exact c1
    | 2, _ => exact c2
    | 3, _ => exact c3
    | 4, _ => exact c4
    | 5, _ => exact c5
  · exact (Classical.choose_spec (hch i) hi).2.2.2.2.2.2

/-- a part of a row of strings, as append reads it -/
theorem IsStrs.part {w : World} {X : List Nat} {o : Option Addr} {n c : Nat} {ss : List ByteArray} (h : IsStrs w X (.slice o n c) ss) (lo hi : Nat) (h1 : lo ≤ hi) (h2 : hi ≤ ss.length) {o' : Option Addr}
    (ho : o' = o ∧ (lo = 0 ∨ lo = c) ∨ o' = o.map (fun a => a.add lo)) :
    (o' = none → hi - lo = 0) ∧ (∀ ad, o' = some ad → ∀ j u, (((ss.drop lo).take (hi - lo)).map Value.string)[j]? = some u → w.cell? (ad.add j) = some u) := by
  obtain ⟨o1, c1, b, off, e, q1, q2, q3, q4⟩ := h.ex
  obtain ⟨rfl, rfl, rfl⟩ : o = o1 ∧ n = ss.length ∧ c = c1 := by simpa using e
  by_cases hz : hi = lo
  · subst hz
    exact ⟨fun _ => by omega, fun ad _ j u hj => by simp at hj⟩
  · obtain ⟨rfl, _⟩ := q3 (by omega)
    obtain rfl : o' = some ⟨b, off + lo, none⟩ := by
      rcases ho with ⟨rfl, rfl | rfl⟩ | rfl
      · rfl
      · omega
      · simp [addr_add]
    refine ⟨fun h => by simp at h, fun ad e j u hj => ?_⟩
    obtain rfl : (⟨b, off + lo, none⟩ : Addr) = ad := by simpa using e
    rw [List.getElem?_map, List.getElem?_take] at hj
    split at hj
    · rename_i hj'
      rw [List.getElem?_drop, List.getElem?_eq_getElem (by omega)] at hj
      simp only [Option.map_some, Option.some.injEq] at hj
      subst hj
      have := (q4 (lo + j) (by omega)).1
      rw [List.getD_eq_getElem?_getD, List.getElem?_eq_getElem (by omega), Option.getD_some] at this
      rw [addr_add, Nat.add_assoc]
      exact this
    · simp at hj

/-- a part of a row of values, as append reads it -/
theorem IsVs.part {w : World} {X : List Nat} {o : Option Addr} {n c : Nat} {l : List V} (h : IsVs w X (.slice o n c) l) : ∃ rows : List Cells6, rows.length = l.length ∧ All2 (fun x u => IsV w X (Cells6.list x) u) rows l ∧ l.length ≤ c ∧ n = l.length ∧ l.length * 88 ≤ 140737488351232 ∧
    ∀ lo hi, lo ≤ hi → hi ≤ l.length → ∀ o' : Option Addr, (o' = o ∧ (lo = 0 ∨ lo = c) ∨ o' = o.map (fun a => a.add (lo * 6))) →
      (o' = none → hi - lo = 0) ∧ (∀ ad, o' = some ad → ∀ j u, (flat6 ((rows.drop lo).take (hi - lo)))[j]? = some u → w.cell? (ad.add j) = some u) := by
  obtain ⟨o1, c1, b, off, rows, e, q1, q2, q3, q4⟩ := h.rows
  obtain ⟨rfl, rfl, rfl⟩ : o = o1 ∧ n = l.length ∧ c = c1 := by simpa using e
  have hlen := q4.1.length
  refine ⟨rows, hlen, q4.1, q1, rfl, q2, fun lo hi h1 h2 o' ho => ?_⟩
  by_cases hz : hi = lo
  · subst hz
    exact ⟨fun _ => by omega, fun ad _ j u hj => by simp [flat6] at hj⟩
  · obtain ⟨rfl, _⟩ := q3 (by omega)
    obtain rfl : o' = some ⟨b, off + lo * 6, none⟩ := by
      rcases ho with ⟨rfl, rfl | rfl⟩ | rfl
      · simp
      · omega
      · simp [addr_add]
    refine ⟨fun h => by simp at h, fun ad e j u hj => ?_⟩
    obtain rfl : (⟨b, off + lo * 6, none⟩ : Addr) = ad := by simpa using e
    rw [addr_add, Nat.add_assoc]
    refine q4.2 _ _ ?_
    have hsplit : rows = rows.take lo ++ ((rows.drop lo).take (hi - lo) ++ (rows.drop lo).drop (hi - lo)) := by rw [List.take_append_drop, List.take_append_drop]
    rw [hsplit, flat6_append, flat6_append, List.getElem?_append_right (by rw [flat6_length, List.length_take]; omega), flat6_length, List.length_take,
      show lo * 6 + j - min lo rows.length * 6 = j from by rw [Nat.min_eq_left (by omega)]; omega, List.getElem?_append_left (List.getElem?_eq_some_iff.1 hj).1]
    exact hj

theorem IsStrs.nil (w : World) (X : List Nat) : IsStrs w X (.slice none 0 0) [] := ⟨none, 0, 0, 0, rfl, by simp, by simp, fun h => by simp at h, fun i hi => by simp at hi⟩
theorem IsVs.nil (w : World) (X : List Nat) : IsVs w X (.slice none 0 0) [] := ⟨none, 0, 0, 0, rfl, by simp, by simp, fun h => by simp at h, fun i hi => by simp at hi⟩

/-- how a contract ends: with value v, old memory as it was -/
abbrev Ends (R : Ending → World → Prop) (w : World) (v : Value) : Prop := ∀ w', Ext w w' → R (.returned v) w'

theorem Ends.of {R : Ending → World → Prop} {w : World} {v v' : Value} (h : Ends R w v) (e : v = v') : Ends R w v' := e ▸ h
theorem Ends.bool {R : Ending → World → Prop} {w : World} {b b' : Bool} (h : Ends R w (.bool b)) (e : b = b') : Ends R w (.bool b') := e ▸ h
theorem Ends.int {R : Ending → World → Prop} {w : World} {k : IntKind} {b b' : Int} (h : Ends R w (.int k b)) (e : b = b') : Ends R w (.int k b') := e ▸ h

end Go.Proofs.YtihapgangilncaaGreat
