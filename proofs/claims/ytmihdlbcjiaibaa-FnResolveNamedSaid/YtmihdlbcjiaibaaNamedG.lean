/- How an impl.Schema is read as an argument. -/
import Derived.Test.YtmihdlbcjiaibaaNamedF
import Derived.Test.YtmihdlbcjiaibaaRead
namespace Go.Proofs.Ytmihdlbcjiaibaa
open Go.RowKit Go.Deep Go.ChangeShapes Go.WideShapes

theorem kTd_le {α : Type} {k k' : Kind α} (h : k.le k') : (kTd k).le (kTd k') := ⟨by simp [kTd, h.1], fun ⟨ac, h1, h2, h3⟩ => ⟨ac, h1, h.2 h2, h3⟩⟩
theorem td_depth {w : World} {X : List Nat} {cs : List Value} {t : TdOf A} (h : (kTd kAny).is w X cs t) : ∃ d, (kTd (kA d)).is w X cs t := by
  obtain ⟨ac, h1, ⟨d, h2⟩, h3⟩ := h
  exact ⟨d, ac, h1, h2, h3⟩
theorem tds_depth {w : World} {X : List Nat} {v : Value} {ts : List (TdOf A)} (h : IsSl (kTd kAny) 80 w X v ts) : ∃ d, IsSl (kTd (kA (d + 1))) 80 w X v ts := by
  obtain ⟨d, h⟩ := sl_depth (F := kTd) (fun d => by simp [kTd, size_any d]) (fun h => kTd_le (kA_le h)) td_depth h
  exact ⟨d, h.le (kTd_le (kA_le (Nat.le_succ d)))⟩

section
variable {H : Type} {enc : TypeId × Value → H} {w : World} {base : Nat} {spare : Nat → Bool} {held : Bool}
theorem four_of {cs : List Value} (h : cs.length = 4) : ∃ c0 c1 c2 c3, cs = [c0, c1, c2, c3] := by
  match cs, h with
  | [a, b, c, d], _ => exact ⟨a, b, c, d, rfl⟩
theorem read_td {fuel : Nat} {cs : List Value} {x : DataW H × List MemPlace} (h : DataW.trod enc Try.prog w base spare held fuel 60 cs = some x)
    (hw : (x.1.weights Try.prog 60).all (· ≤ reachBytes) = true) : ∃ t, (kTd kAny).is w [] cs t := by
  obtain ⟨hlen, n, hn, hf⟩ := read_fields Try.underlying60 h hw
  have q : Try.prog.cellsOf 60 = 4 := by kernel_rfl
  have q0 : Try.prog.cellsOf 9 = 1 := by kernel_rfl
  have q1 : Try.prog.cellsOf 42 = 3 := by kernel_rfl
  rw [q] at hlen
  obtain ⟨c0, c1, c2, c3, rfl⟩ := four_of hlen
  have e0 := hf 0
  have e1 := hf 1
  simp only [List.getElem?_toArray, List.getElem?_cons_zero, List.getElem?_cons_succ, Option.some.injEq, forall_eq', q0, q1, List.drop_zero, List.drop_succ_cons, List.take_succ_cons, List.take_zero] at e0 e1
  obtain ⟨y0, t0, w0⟩ := e0
  obtain ⟨y1, t1, w1⟩ := e1
  obtain ⟨s, h1, hs⟩ := read_str t0 w0
  obtain ⟨a, ha⟩ := read_a n _ _ t1 w1
  simp only [List.cons.injEq, and_true] at h1
  subst h1
  exact ⟨⟨s, a⟩, [c1, c2, c3], rfl, ha, hs⟩
theorem read_schema {fuel : Nat} {cs : List Value} {x : DataW H × List MemPlace} (h : DataW.trod enc Try.prog w base spare held fuel 54 cs = some x)
    (hw : (x.1.weights Try.prog 54).all (· ≤ reachBytes) = true) : ∃ v d ts, cs = [v] ∧ IsSl (kTd (kA (d + 1))) 80 w [] v ts := by
  obtain ⟨hlen, n, hn, hf⟩ := read_fields Try.underlying54 h hw
  have q : Try.prog.cellsOf 54 = 1 := by kernel_rfl
  have q0 : Try.prog.cellsOf 52 = 1 := by kernel_rfl
  rw [q] at hlen
  obtain ⟨c0, rfl⟩ : ∃ c0, cs = [c0] := List.length_eq_one_iff.1 hlen
  have e0 := hf 0
  simp only [List.getElem?_toArray, List.getElem?_cons_zero, Option.some.injEq, forall_eq', q0, List.drop_zero, List.take_succ_cons, List.take_zero] at e0
  obtain ⟨y0, t0, w0⟩ := e0
  obtain ⟨v, ts, h1, hts⟩ := read_sl (k := kTd kAny) (bytes := 80) (by simp [kTd]) Try.underlying52 (by kernel_rfl) (by kernel_rfl) (fun f _ cs x h hw => read_td h hw) t0 w0
  obtain ⟨d, hd⟩ := tds_depth hts
  exact ⟨c0, d, ts, rfl, by simp only [List.cons.injEq, and_true] at h1; subst h1; exact hd⟩
end

end Go.Proofs.Ytmihdlbcjiaibaa
