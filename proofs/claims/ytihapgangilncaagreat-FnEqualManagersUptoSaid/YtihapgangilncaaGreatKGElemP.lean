/- Path elements, on both sides (impl.Elem, fieldpath.PathElement); impl.toKeys. impl.toElem, impl.toPath. impl.toPath. value.Equals, FieldList.Equals, PathElement.Equals, Path.Equals. Path.Equals, impl.EqualPaths. -/
import Derived.Test.YtihapgangilncaaGreatKGEqE
import Derived.Test.YtihapgangilncaaGreatKGConv
import Derived.Deep.Cut
namespace Go.Proofs.YtihapgangilncaaGreat
open Go.RowKit

/-- impl.Elem -/
structure EL where
  kind : Int
  s : ByteArray
  keys : List ByteArray
  l : List V
  v : V
  n : Int

def kEl : Kind EL where
  size := 11
  is := fun w X cs e => ∃ vk vl vs, cs = .int .i64 e.kind :: .string e.s :: vk :: vl :: (vs ++ [.int .i64 e.n]) ∧ (Lit.int .i64 e.kind).wf = true ∧ (Lit.int .i64 e.n).wf = true ∧ e.s.size ≤ 140737488351232 ∧ IsStrs w X vk e.keys ∧ IsVs w X vl e.l ∧ IsV w X vs e.v
  mv := fun h m => by
    obtain ⟨vk, vl, vs, h1, h2, h3, h4, h5, h6, h7⟩ := h
    exact ⟨vk, vl, vs, h1, h2, h3, h4, h5.mv m, h6.mv m, h7.mv m⟩
  len := fun h => by
    obtain ⟨vk, vl, vs, h1, h2, h3, h4, h5, h6, h7⟩ := h
    obtain ⟨x, rfl⟩ := h7.shape
    rw [h1]; rfl
  one := fun h u hu => by
    obtain ⟨vk, vl, vs, h1, h2, h3, h4, h5, h6, h7⟩ := h
    obtain ⟨_, _, _, _, e5, _⟩ := h5.ex
    obtain ⟨_, _, _, _, e6, _⟩ := h6.ex
    obtain ⟨x, rfl⟩ := h7.shape
    rw [h1] at hu
    simp only [List.mem_cons, List.mem_append, List.not_mem_nil, or_false, Cells6.list] at hu
    rcases hu with rfl | rfl | rfl | rfl | (rfl | rfl | rfl | rfl | rfl | rfl) | rfl
    · rfl
    · rfl
    · rw [e5]; rfl
    · rw [e6]; rfl
    all_goals rfl

/-- value.Value over a tree -/
def kVal : Kind T where
  size := 1
  is := fun w X cs t => ∃ v, cs = [v] ∧ IsVal w X v t
  mv := fun ⟨v, h1, h2⟩ m => ⟨v, h1, h2.mv m⟩
  len := fun ⟨v, h1, h2⟩ => by rw [h1]; rfl
  one := fun ⟨v, h1, h2⟩ u hu => by
    obtain ⟨b, x, rfl, _⟩ := h2.ex
    rw [h1, List.mem_singleton] at hu
    subst hu; rfl
/-- value.Field -/
def kFd : Kind (ByteArray × T) where
  size := 2
  is := fun w X cs p => ∃ v, cs = [.string p.1, v] ∧ p.1.size ≤ 140737488351232 ∧ IsVal w X v p.2
  mv := fun ⟨v, h1, h2, h3⟩ m => ⟨v, h1, h2, h3.mv m⟩
  len := fun ⟨v, h1, _⟩ => by rw [h1]; rfl
  one := fun ⟨v, h1, _, h2⟩ u hu => by
    obtain ⟨b, x, rfl, _⟩ := h2.ex
    rw [h1] at hu
    simp only [List.mem_cons, List.not_mem_nil, or_false] at hu
    rcases hu with rfl | rfl <;> rfl
/-- value.FieldList -/
def kFl : Kind (EntsOfT T) where
  size := 1
  is := fun w X cs fs => ∃ v, cs = [v] ∧ IsSl kFd 32 w X v fs
  mv := fun ⟨v, h1, h2⟩ m => ⟨v, h1, h2.mv m (by simp [kFd])⟩
  len := fun ⟨v, h1, _⟩ => by rw [h1]; rfl
  one := fun ⟨v, h1, h2⟩ u hu => by
    rw [h1, List.mem_singleton] at hu
    subst hu; exact h2.one
/-- int -/
def kInt : Kind Int where
  size := 1
  is := fun _ _ cs n => cs = [.int .i64 n] ∧ (Lit.int .i64 n).wf = true
  mv := fun h _ => h
  len := fun h => by rw [h.1]; rfl
  one := fun h u hu => by rw [h.1, List.mem_singleton] at hu; subst hu; rfl

/-- fieldpath.PathElement -/
inductive PEl where
  | field (s : ByteArray)
  | key (fs : EntsOfT T)
  | value (t : T)
  | index (n : Int)

def kPe : Kind PEl where
  size := 4
  is := fun w X cs e => match e with
    | .field s => ∃ p, cs = [p, .pointer none, .pointer none, .pointer none] ∧ IsP kS w X p (some s)
    | .key fs => ∃ p, cs = [.pointer none, p, .pointer none, .pointer none] ∧ IsP kFl w X p (some fs)
    | .value t => ∃ p, cs = [.pointer none, .pointer none, p, .pointer none] ∧ IsP kVal w X p (some t)
    | .index n => ∃ p, cs = [.pointer none, .pointer none, .pointer none, p] ∧ IsP kInt w X p (some n)
  mv := fun {_ _ _ _ _ e} h m => by
    cases e <;> (obtain ⟨p, h1, h2⟩ := h; exact ⟨p, h1, h2.mv m⟩)
  len := fun {_ _ _ e} h => by
    cases e <;> (obtain ⟨p, h1, h2⟩ := h; rw [h1]; rfl)
  one := fun {_ _ _ e} h u hu => by
    cases e <;> (
      obtain ⟨p, h1, h2⟩ := h
      have := h2.one
      rw [h1] at hu
      simp only [List.mem_cons, List.not_mem_nil, or_false] at hu
      rcases hu with rfl | rfl | rfl | rfl <;> first | rfl | exact this)

def toE (e : EL) : PEl := if e.kind = 1 then .key (e.keys.zip (V.plainL e.l)) else if e.kind = 2 then .value e.v.plain else if e.kind = 3 then .index e.n else .field e.s

theorem Row.made {α : Type} {k : Kind α} {e : TypeId} {w : World} {X : List Nat} {b : Nat} (hb : w.heap[b]? = some (.cells #[] e (0, 0))) (hX : b ∉ X) : Row k e w X (.slice (some ⟨b, 0, none⟩) 0 0) [] :=
  ⟨[], ⟨by simp, .inr ⟨b, 0, #[], rfl, Nat.zero_le _, hb, Nat.le_refl _, Nat.zero_le _, by simp, by simp⟩⟩, .nil, fun g h => by simp [Value.ownBlock] at h; subst h; exact hX⟩

theorem Tryz.info223 : (Tryz.prog.info? 223).map (fun i => (i.zero, i.size, i.bytes)) = some (some (.agg #[.string ⟨#[]⟩, .nilIface]), 2, 32) := by kernel_rfl

set_option maxRecDepth 100000 in
set_option maxHeartbeats 4000000 in
set_option pp.maxSteps 1000000 in
set_option pp.deepTerms true in
theorem toKeys_c {w : World} {X : List Nat} {cs : List Value} {e : EL} (he : kEl.is w X cs e) (hX : Old X w) (R : Ending → World → Prop)
    (hR : ∀ w' v, Ext w w' → IsSl kFd 32 w' X v (e.keys.zip (V.plainL e.l)) → R (.returned v) w') : Calls Tryz.prog 102 #[.agg cs.toArray] w R := by
  obtain ⟨kind, s, keys, l, v, n⟩ := e
  obtain ⟨vk, vl, vs, rfl, -, -, -, hks, hl, hv⟩ := he
  dsimp only at hks hl hv hR ⊢
  obtain ⟨x, rfl⟩ := hv.shape
  obtain ⟨ko, kc, kb, koff, rfl, k2, k3, k4, k5⟩ := id hks.ex
  obtain ⟨o, c, b, off, rfl, l2, l3, l4, l5⟩ := id hl.ex
  have hks' := Lib.hid hks
  have hl' := Lib.hid hl
  have hX' := Lib.hid hX
  have hR' := Lib.hid hR
  clear hR hX hks hl hv k4 k5 l4 l5
  simp only [Cells6.list, List.cons_append, List.nil_append]
  go_enter Tryz.func102, Tryz.ntmps102
  go_wp2_with fail
  refine abs2 (G := Code.wp _ _ _ _) ?_
  intro w1 hE1 hb1 hb2 hs1
  have e0 : w1.cell? ⟨w.heap.size, 0, none⟩ = some (.int .i64 kind) := cells_of hb1 0; have e1 : w1.cell? ⟨w.heap.size, 1, none⟩ = some (.string s) := cells_of hb1 1; have e2 : w1.cell? ⟨w.heap.size, 2, none⟩ = some (.slice ko keys.length kc) := cells_of hb1 2; have e3 : w1.cell? ⟨w.heap.size, 3, none⟩ = some (.slice o l.length c) := cells_of hb1 3; have e4 : w1.cell? ⟨w.heap.size, 4, none⟩ = some (.int .i64 x.kind) := cells_of hb1 4; have e5 : w1.cell? ⟨w.heap.size, 5, none⟩ = some (.int .i64 x.n) := cells_of hb1 5; have e6 : w1.cell? ⟨w.heap.size, 6, none⟩ = some (.float .f64 x.f) := cells_of hb1 6; have e7 : w1.cell? ⟨w.heap.size, 7, none⟩ = some (.string x.s) := cells_of hb1 7; have e8 : w1.cell? ⟨w.heap.size, 8, none⟩ = some (.slice x.ko x.kn x.kc) := cells_of hb1 8; have e9 : w1.cell? ⟨w.heap.size, 9, none⟩ = some (.slice x.o x.m x.c) := cells_of hb1 9; have e10 : w1.cell? ⟨w.heap.size, 10, none⟩ = some (.int .i64 n) := cells_of hb1 10
  have hrow : Row kFd 223 w1 X (.slice (some ⟨w.heap.size + 1, 0, none⟩) 0 0) [] := Row.made hb2 (fun h => by have := hX'.out _ h; omega)
  have hrow' := Lib.hid hrow
  clear hrow hb1 hb2 hs1 e0 e1 e4 e5 e6 e7 e8 e9 e10
  have hts : (V.plainL l).length = l.length := plainL_length l
  have hts' := Lib.hid hts
  clear hts
  go_loopw [3, 10] (fun v i wr => ∃ k : Nat, k ≤ keys.length ∧ i = .int .i64 k ∧ Ext w wr ∧ wr.heap[w.heap.size]? = w1.heap[w.heap.size]? ∧ (∀ g, v.ownBlock = some g → w.heap.size < g) ∧ v ≠ .slice none 0 0 ∧ Hid (Row kFd 223 wr X v ((keys.zip (V.plainL l)).take k))) (fun _ i _ => keys.length - (intOf i).toNat)
  case atStart => exact ⟨0, Nat.zero_le _, rfl, hE1, rfl, fun g h => by simp [Value.ownBlock] at h; omega, by simp, hrow'⟩
  case round =>
    obtain ⟨k, hk, rfl, hEw, hbk, hgv, hnn, hrow⟩ := hrel
    rename World => wr
    replace e2 := (World.cell?_of_block (a := ⟨w.heap.size, 2, none⟩) hbk).trans e2
    replace e3 := (World.cell?_of_block (a := ⟨w.heap.size, 3, none⟩) hbk).trans e3
    have hbk' := Lib.hid hbk
    clear hbk
    by_cases hlt : k < keys.length
    · obtain ⟨_, _, _, _, e, -, -, k4, k5⟩ := hks'.out.ex
      cases e
      obtain ⟨rfl, -⟩ := k4 (by omega)
      have q0 := hEw.keep (k5 k hlt).1
      have hk1 : keys.getD k ByteArray.empty = keys[k] := by simp [hlt]
      rw [hk1] at q0
      have hsk := (k5 k hlt).2
      rw [hk1] at hsk
      have hsk' := Lib.hid hsk
      clear k4 k5 hk1 hsk
      have hi1 : (k : Int) < (keys.length : Int) := by omega
      have hkm : (k : Int) + 1 ≤ 9223372036854775807 := by omega
      by_cases hl2 : k < l.length
      · obtain ⟨_, _, _, _, e, -, -, l4, l5⟩ := hl'.out.ex
        cases e
        obtain ⟨rfl, -⟩ := l4 (by omega)
        obtain ⟨y, c0, c1, c2, c3, c4, c5, hy⟩ := l5 k hl2
        replace c0 := hEw.keep c0
        replace c1 := hEw.keep c1; replace c2 := hEw.keep c2; replace c3 := hEw.keep c3; replace c4 := hEw.keep c4; replace c5 := hEw.keep c5
        have hi2 : (k : Int) < (l.length : Int) := by omega
        have hy' := Lib.hid hy
        clear l4 l5 hy
        have hmv : Mv w X wr (vb u3 ++ X) := (hEw.mv X).moreL (fun g hg => by have := hgv g (by simpa [vb] using hg); omega)
        have hXr : Old X wr := hX'.out.le hEw.size
        go_wp2_with fail
        refine toValue_c (X := vb u3 ++ X) (cs := y.list) (hy'.out.mv hmv) (hrow.out.old hXr) _ ?_
        intro w2 z hE2 hz
        obtain ⟨zb, zx, rfl, -⟩ := id hz.ex
        have hu : kFd.is w2 (vb u3 ++ X) [.string keys[k], .iface 261 (.pointer (some ⟨zb, 0, none⟩))] (keys[k], (l[k]).plain) := ⟨_, rfl, hsk'.out, hz⟩
        have hu' := Lib.hid hu
        have hlk : ((keys.zip (V.plainL l)).take k).length = k := by rw [List.length_take, List.length_zip, hts'.out]; omega
        have hb4 : (((keys.zip (V.plainL l)).take k).length + 1) * 32 ≤ 140737488355328 := by rw [hlk]; omega
        have hb5 : ((keys.zip (V.plainL l)).take k).length + 1 ≤ maxLen := by rw [hlk, maxLen_eq]; omega
        have hE2' := Lib.hid hE2
        have htk : (keys.zip (V.plainL l)).take (k + 1) = (keys.zip (V.plainL l)).take k ++ [(keys[k], (l[k]).plain)] := by
          rw [zip_take_lt hlt (by rw [hts'.out]; exact hl2), plainL_get]
        have htk' := Lib.hid htk
        clear hu hz hlk c0 c1 c2 c3 c4 c5 q0 hmv htk
        dsimp only
        go_wp2_with (at_builtin; refine wpL_rowApp (c := #[.string keys[k], .iface 261 (.pointer (some ⟨zb, 0, none⟩))]) rfl hrow.out hE2'.out (hXr.le hE2'.out.size) hu'.out _ _ _ rfl Tryz.underlying169 Tryz.info223 rfl (by decide) rfl rfl hb4 hb5 ?_; intro v' w6 hrow6 hg6 hne6 hd6)
        go_roundw
        case rel =>
          have hE6 : Ext w w6 := (hEw.trans hE2'.out).grown hg6 (fun j hj => by have := hgv j hj; omega)
          have hlr : w.heap.size < wr.heap.size := by
            by_cases h : w.heap.size < wr.heap.size
            · exact h
            · simp [World.cell?, Array.getElem?_eq_none (Nat.le_of_not_lt h)] at e2
          refine ⟨k + 1, by omega, by go_num, hE6, (hg6.block _ (Nat.lt_of_lt_of_le hlr hE2'.out.size) (fun e => by have := hgv _ e.symm; omega)).trans ((hE2'.out.below.block _ hlr).trans hbk'.out), fun g hg => ?_, hne6, Lib.hid (by rw [htk'.out]; exact hrow6)⟩
          rcases hd6 g hg with h | h
          · exact hgv g h
          · have := hE2'.out.size; have := hEw.size; omega
        case measure => simp [intOf]; omega
      · have hi2 : ¬ (k : Int) < (l.length : Int) := by omega
        go_wp2_with fail
        go_roundw
        case rel => exact ⟨k + 1, by omega, by go_num, hEw, hbk'.out, hgv, hnn, Lib.hid (by rw [zip_take_ge (by rw [hts'.out]; omega)]; exact hrow.out)⟩
        case measure => simp [intOf]; omega
    · have ek : k = keys.length := by omega
      subst ek
      have hr := hrow.out
      rw [List.take_of_length_le (by rw [List.length_zip]; exact Nat.min_le_left _ _)] at hr
      have hr' := Lib.hid hr
      clear hr hrow hk hlt
      go_wp2_with fail
      exact hR'.out _ _ hEw (hr'.out.isSl (by have : (keys.zip (V.plainL l)).length ≤ l.length := by rw [List.length_zip, hts'.out]; exact Nat.min_le_right _ _
                                              omega))
end Go.Proofs.YtihapgangilncaaGreat

namespace Go.Proofs.YtihapgangilncaaGreat
open Go.RowKit

theorem Tryz.info169 : (Tryz.prog.info? 169).map (fun i => (i.zero, i.size, i.bytes)) = some (some (.slice none 0 0), 1, 24) := by kernel_rfl
theorem Tryz.size89 : (Tryz.prog.info? 89).map (·.size) = some 4 := by kernel_rfl

set_option maxRecDepth 100000 in
set_option maxHeartbeats 4000000 in
set_option pp.maxSteps 1000000 in
set_option pp.deepTerms true in
theorem toElem_c {w : World} {X : List Nat} {cs : List Value} {e : EL} (he : kEl.is w X cs e) (hX : Old X w) (R : Ending → World → Prop)
    (hR : ∀ w' cs', Ext w w' → kPe.is w' X cs' (toE e) → R (.returned (.agg cs'.toArray)) w') : Calls Tryz.prog 52 #[.agg cs.toArray] w R := by
  have he' := Lib.hid he
  obtain ⟨kind, s, keys, l, v, n⟩ := e
  obtain ⟨vk, vl, vs, rfl, -, hn, hs, hks, hl, hv⟩ := he
  dsimp only at hks hl hv hR hn hs ⊢
  obtain ⟨x, rfl⟩ := hv.shape
  obtain ⟨ko, kc, kb, koff, rfl, k2, -⟩ := id hks.ex
  obtain ⟨o, c, b, off, rfl, l2, -⟩ := id hl.ex
  have hv' := Lib.hid hv
  have hX' := Lib.hid hX
  have hR' := Lib.hid hR
  have hn' := Lib.hid hn
  have hs' := Lib.hid hs
  clear hR hX hks hl hv hn hs
  simp only [Cells6.list, List.cons_append, List.nil_append] at he' ⊢
  have hk : kind = 1 ∨ kind = 2 ∨ kind = 3 ∨ ((kind == 1) = false ∧ (kind == 2) = false ∧ (kind == 3) = false) := by
    by_cases h1 : kind = 1 <;> by_cases h2 : kind = 2 <;> by_cases h3 : kind = 3 <;> simp [h1, h2, h3]
  rcases hk with rfl | rfl | rfl | ⟨q1, q2, q3⟩
  all_goals
    go_enter Tryz.func52, Tryz.ntmps52
    go_upto_if 9 with (fail)
    refine abs2 (G := Code.wp _ _ _ _) ?_
    intro w1 hE1 hb1 hb2 hs1
    have hl1 : w.heap.size + 1 < w1.heap.size := by omega
    clear hs1
  · have e0 : w1.cell? ⟨w.heap.size, 0, none⟩ = some (.int .i64 1) := cells_of hb1 0; have e1 : w1.cell? ⟨w.heap.size, 1, none⟩ = some (.string s) := cells_of hb1 1; have e2 : w1.cell? ⟨w.heap.size, 2, none⟩ = some (.slice ko keys.length kc) := cells_of hb1 2; have e3 : w1.cell? ⟨w.heap.size, 3, none⟩ = some (.slice o l.length c) := cells_of hb1 3; have e4 : w1.cell? ⟨w.heap.size, 4, none⟩ = some (.int .i64 x.kind) := cells_of hb1 4; have e5 : w1.cell? ⟨w.heap.size, 5, none⟩ = some (.int .i64 x.n) := cells_of hb1 5; have e6 : w1.cell? ⟨w.heap.size, 6, none⟩ = some (.float .f64 x.f) := cells_of hb1 6; have e7 : w1.cell? ⟨w.heap.size, 7, none⟩ = some (.string x.s) := cells_of hb1 7; have e8 : w1.cell? ⟨w.heap.size, 8, none⟩ = some (.slice x.ko x.kn x.kc) := cells_of hb1 8; have e9 : w1.cell? ⟨w.heap.size, 9, none⟩ = some (.slice x.o x.m x.c) := cells_of hb1 9; have e10 : w1.cell? ⟨w.heap.size, 10, none⟩ = some (.int .i64 n) := cells_of hb1 10
    clear hb1
    go_wp2_with fail
    refine toKeys_c (X := (w.heap.size + 1) :: X) (kEl.mv he'.out ((hE1.mv X).more (by omega))) (.cons hl1 (hX'.out.le hE1.size)) _ ?_
    intro w2 v2 hE2 hv2
    have hone := hv2.one
    have hv2' := Lib.hid hv2
    have hb3 := (hE2.below.block _ hl1).trans hb2
    have hl2' := Nat.lt_of_lt_of_le hl1 hE2.size
    clear hv2 hb2 e0 e1 e2 e3 e4 e5 e6 e7 e8 e9 e10
    dsimp only
    go_wp2_with (first | (refine wpL_init1 rfl 169 _ _ rfl Tryz.info169 rfl (by simp) rfl hone (by decide) rfl ?_) | (refine wpL_storeRow (cells := #[.pointer none, .pointer (some ⟨w2.heap.size, 0, none⟩), .pointer none, .pointer none]) rfl 89 _ _ rfl Tryz.size89 rfl rfl (((Ext.alloc w2 _).below.block _ hl2').trans hb3) rfl (by simp [ptr_one]) ?_; intro w4 h4 g4))
    have z0 : w4.cell? ⟨w.heap.size + 1, 0, none⟩ = some (.pointer none) := cells_of h4 0; have z1 : w4.cell? ⟨w.heap.size + 1, 1, none⟩ = some (.pointer (some ⟨w2.heap.size, 0, none⟩)) := cells_of h4 1; have z2 : w4.cell? ⟨w.heap.size + 1, 2, none⟩ = some (.pointer none) := cells_of h4 2; have z3 : w4.cell? ⟨w.heap.size + 1, 3, none⟩ = some (.pointer none) := cells_of h4 3
    refine bodyPost_ret (by simp [results, Tryz.results52, go_sem, z0, z1, z2, z3]; try rfl) rfl ?_
    have hb4 := (g4.block _ (by simp) (fun e => by have := Option.some.inj e; omega)).trans (alloc_new w2 (.cells #[v2] 169) rfl)
    have hE : Ext w w4 := ((hE1.trans hE2).push _).grown g4 (fun j hj => by cases hj; omega)
    refine hR'.out w4 [.pointer none, .pointer (some ⟨w2.heap.size, 0, none⟩), .pointer none, .pointer none] hE ?_
    have hm4 : Mv w2 ((w.heap.size + 1) :: X) w4 X := (((Ext.alloc w2 _).mv _).trans ((Mv.refl _ _).grown g4 (fun j hj => by cases hj; simp))).less (fun b hb => by simp [hb])
    exact ⟨_, rfl, IsP.of_block (cs := [v2]) hb4 (fun h => by have := hX'.out _ h; have := hE1.size; have := hE2.size; omega) ⟨_, rfl, hv2'.out.mv hm4 (by simp [kFd])⟩⟩
  · have e0 : w1.cell? ⟨w.heap.size, 0, none⟩ = some (.int .i64 2) := cells_of hb1 0; have e1 : w1.cell? ⟨w.heap.size, 1, none⟩ = some (.string s) := cells_of hb1 1; have e2 : w1.cell? ⟨w.heap.size, 2, none⟩ = some (.slice ko keys.length kc) := cells_of hb1 2; have e3 : w1.cell? ⟨w.heap.size, 3, none⟩ = some (.slice o l.length c) := cells_of hb1 3; have e4 : w1.cell? ⟨w.heap.size, 4, none⟩ = some (.int .i64 x.kind) := cells_of hb1 4; have e5 : w1.cell? ⟨w.heap.size, 5, none⟩ = some (.int .i64 x.n) := cells_of hb1 5; have e6 : w1.cell? ⟨w.heap.size, 6, none⟩ = some (.float .f64 x.f) := cells_of hb1 6; have e7 : w1.cell? ⟨w.heap.size, 7, none⟩ = some (.string x.s) := cells_of hb1 7; have e8 : w1.cell? ⟨w.heap.size, 8, none⟩ = some (.slice x.ko x.kn x.kc) := cells_of hb1 8; have e9 : w1.cell? ⟨w.heap.size, 9, none⟩ = some (.slice x.o x.m x.c) := cells_of hb1 9; have e10 : w1.cell? ⟨w.heap.size, 10, none⟩ = some (.int .i64 n) := cells_of hb1 10
    clear hb1
    go_wp2_with fail
    refine toValue_c (X := (w.heap.size + 1) :: X) (cs := x.list) (hv'.out.mv ((hE1.mv X).more (by omega))) (.cons hl1 (hX'.out.le hE1.size)) _ ?_
    intro w2 y hE2 hy
    obtain ⟨yb, yx, rfl, -⟩ := id hy.ex
    have hy' := Lib.hid hy
    have hb3 := (hE2.below.block _ hl1).trans hb2
    have hl2' := Nat.lt_of_lt_of_le hl1 hE2.size
    clear hy hb2 e0 e1 e2 e3 e4 e5 e6 e7 e8 e9 e10
    dsimp only
    go_wp2_with (first | (refine wpL_storeRow (cells := #[.pointer none, .pointer none, .pointer (some ⟨w2.heap.size, 0, none⟩), .pointer none]) rfl 89 _ _ rfl Tryz.size89 rfl rfl (((Ext.alloc w2 _).below.block _ hl2').trans hb3) rfl (by simp [ptr_one]) ?_; intro w4 h4 g4))
    have z0 : w4.cell? ⟨w.heap.size + 1, 0, none⟩ = some (.pointer none) := cells_of h4 0; have z1 : w4.cell? ⟨w.heap.size + 1, 1, none⟩ = some (.pointer none) := cells_of h4 1; have z2 : w4.cell? ⟨w.heap.size + 1, 2, none⟩ = some (.pointer (some ⟨w2.heap.size, 0, none⟩)) := cells_of h4 2; have z3 : w4.cell? ⟨w.heap.size + 1, 3, none⟩ = some (.pointer none) := cells_of h4 3
    refine bodyPost_ret (by simp [results, Tryz.results52, go_sem, z0, z1, z2, z3]; try rfl) rfl ?_
    have hb4 := (g4.block _ (by simp) (fun e => by have := Option.some.inj e; omega)).trans (alloc_new w2 (.cells #[.iface 261 (.pointer (some ⟨yb, 0, none⟩))] 156) rfl)
    have hE : Ext w w4 := ((hE1.trans hE2).push _).grown g4 (fun j hj => by cases hj; omega)
    refine hR'.out w4 [.pointer none, .pointer none, .pointer (some ⟨w2.heap.size, 0, none⟩), .pointer none] hE ?_
    have hm4 : Mv w2 ((w.heap.size + 1) :: X) w4 X := (((Ext.alloc w2 _).mv _).trans ((Mv.refl _ _).grown g4 (fun j hj => by cases hj; simp))).less (fun b hb => by simp [hb])
    exact ⟨_, rfl, IsP.of_block (cs := [.iface 261 (.pointer (some ⟨yb, 0, none⟩))]) hb4 (fun h => by have := hX'.out _ h; have := hE1.size; have := hE2.size; omega) ⟨_, rfl, hy'.out.mv hm4⟩⟩
  · have e10 : w1.cell? ⟨w.heap.size, 10, none⟩ = some (.int .i64 n) := cells_of hb1 10
    clear hb1
    go_wp2_with (first | (refine wpL_storeRow (cells := #[.pointer none, .pointer none, .pointer none, .pointer (some ⟨w1.heap.size, 0, none⟩)]) rfl 89 _ _ rfl Tryz.size89 rfl rfl (((Ext.alloc w1 _).below.block _ hl1).trans hb2) rfl (by simp [ptr_one]) ?_; intro w4 h4 g4))
    have z0 : w4.cell? ⟨w.heap.size + 1, 0, none⟩ = some (.pointer none) := cells_of h4 0; have z1 : w4.cell? ⟨w.heap.size + 1, 1, none⟩ = some (.pointer none) := cells_of h4 1; have z2 : w4.cell? ⟨w.heap.size + 1, 2, none⟩ = some (.pointer none) := cells_of h4 2; have z3 : w4.cell? ⟨w.heap.size + 1, 3, none⟩ = some (.pointer (some ⟨w1.heap.size, 0, none⟩)) := cells_of h4 3
    refine bodyPost_ret (by simp [results, Tryz.results52, go_sem, z0, z1, z2, z3]; try rfl) rfl ?_
    have hb4 := (g4.block _ (by simp) (fun e => by have := Option.some.inj e; omega)).trans (alloc_new w1 (.cells #[.int .i64 n] 3) rfl)
    have hE : Ext w w4 := (hE1.push _).grown g4 (fun j hj => by cases hj; omega)
    refine hR'.out w4 [.pointer none, .pointer none, .pointer none, .pointer (some ⟨w1.heap.size, 0, none⟩)] hE ?_
    exact ⟨_, rfl, IsP.of_block (cs := [.int .i64 n]) hb4 (fun h => by have := hX'.out _ h; omega) ⟨rfl, hn'.out⟩⟩
  · have e1 : w1.cell? ⟨w.heap.size, 1, none⟩ = some (.string s) := cells_of hb1 1
    clear hb1
    go_wp2_with (first | (refine wpL_storeRow (cells := #[.pointer (some ⟨w1.heap.size, 0, none⟩), .pointer none, .pointer none, .pointer none]) rfl 89 _ _ rfl Tryz.size89 rfl rfl (((Ext.alloc w1 _).below.block _ hl1).trans hb2) rfl (by simp [ptr_one]) ?_; intro w4 h4 g4))
    have z0 : w4.cell? ⟨w.heap.size + 1, 0, none⟩ = some (.pointer (some ⟨w1.heap.size, 0, none⟩)) := cells_of h4 0; have z1 : w4.cell? ⟨w.heap.size + 1, 1, none⟩ = some (.pointer none) := cells_of h4 1; have z2 : w4.cell? ⟨w.heap.size + 1, 2, none⟩ = some (.pointer none) := cells_of h4 2; have z3 : w4.cell? ⟨w.heap.size + 1, 3, none⟩ = some (.pointer none) := cells_of h4 3
    refine bodyPost_ret (by simp [results, Tryz.results52, go_sem, z0, z1, z2, z3]; try rfl) rfl ?_
    have hb4 := (g4.block _ (by simp) (fun e => by have := Option.some.inj e; omega)).trans (alloc_new w1 (.cells #[.string s] 9) rfl)
    have hE : Ext w w4 := (hE1.push _).grown g4 (fun j hj => by cases hj; omega)
    refine hR'.out w4 [.pointer (some ⟨w1.heap.size, 0, none⟩), .pointer none, .pointer none, .pointer none] hE ?_
    have hk : toE ⟨kind, s, keys, l, v, n⟩ = .field s := by simp at q1 q2 q3; simp [toE, q1, q2, q3]
    rw [hk]
    exact ⟨_, rfl, IsP.of_block (cs := [.string s]) hb4 (fun h => by have := hX'.out _ h; omega) ⟨rfl, hs'.out⟩⟩
end Go.Proofs.YtihapgangilncaaGreat

namespace Go.Proofs.YtihapgangilncaaGreat
open Go.RowKit

theorem Tryz.info89 : (Tryz.prog.info? 89).map (fun i => (i.zero, i.size, i.bytes)) = some (some (.agg #[.pointer none, .pointer none, .pointer none, .pointer none]), 4, 32) := by kernel_rfl
theorem Tryz.size47 : (Tryz.prog.info? 47).map (·.size) = some 11 := by kernel_rfl

theorem kEl_eleven {w : World} {X : List Nat} {cs : List Value} {e : EL} (h : kEl.is w X cs e) : ∃ c0 c1 c2 c3 c4 c5 c6 c7 c8 c9 c10, cs = [c0, c1, c2, c3, c4, c5, c6, c7, c8, c9, c10] := by
  have := kEl.len h
  match cs, this with
  | [c0, c1, c2, c3, c4, c5, c6, c7, c8, c9, c10], _ => exact ⟨_, _, _, _, _, _, _, _, _, _, _, rfl⟩
theorem kPe_four {w : World} {X : List Nat} {cs : List Value} {e : PEl} (h : kPe.is w X cs e) : ∃ c0 c1 c2 c3, cs = [c0, c1, c2, c3] := by
  have := kPe.len h
  match cs, this with
  | [c0, c1, c2, c3], _ => exact ⟨_, _, _, _, rfl⟩

set_option maxRecDepth 100000 in
set_option maxHeartbeats 4000000 in
set_option pp.maxSteps 1000000 in
set_option pp.deepTerms true in
theorem toPath_c {w : World} {X : List Nat} {pv : Value} {p : List EL} (hp : IsSl kEl 168 w X pv p) (hX : Old X w) (R : Ending → World → Prop)
    (hR : ∀ w' v, Ext w w' → IsSl kPe 32 w' X v (p.map toE) → R (.returned v) w') : Calls Tryz.prog 115 #[pv] w R := by
  obtain ⟨o, c, b, off, rfl, l2, l3, l4, l5⟩ := id hp.ex
  have l4' := Lib.hid l4
  have l5' := Lib.hid l5
  have hX' := Lib.hid hX
  have hR' := Lib.hid hR
  clear hR hX hp l4 l5
  go_enter Tryz.func115, Tryz.ntmps115
  go_wp2_with fail
  refine abs1 (G := Code.wp _ _ _ _) ?_
  intro w1 hE1 hb1 hs1
  have hrow : Row kPe 89 w1 X (.slice (some ⟨w.heap.size, 0, none⟩) 0 0) [] := Row.made hb1 (fun h => by have := hX'.out _ h; omega)
  have hrow' := Lib.hid hrow
  clear hrow hb1 hs1
  go_loopw [3, 9] (fun v i wr => ∃ k : Nat, k ≤ p.length ∧ i = .int .i64 k ∧ Ext w wr ∧ (∀ g, v.ownBlock = some g → w.heap.size ≤ g) ∧ v ≠ .slice none 0 0 ∧ Hid (Row kPe 89 wr X v ((p.take k).map toE))) (fun _ i _ => p.length - (intOf i).toNat)
  case atStart => exact ⟨0, Nat.zero_le _, rfl, hE1, fun g h => by simp [Value.ownBlock] at h; omega, by simp, hrow'⟩
  case round =>
    obtain ⟨k, hk, rfl, hEw, hgv, hnn, hrow⟩ := hrel
    rename World => wr
    by_cases hlt : k < p.length
    · obtain ⟨cs, hc, hcs⟩ := l5'.out k hlt
      obtain ⟨rfl, -⟩ := l4'.out (by omega)
      have hone := kEl.one hcs
      obtain ⟨c0, c1, c2, c3, c4, c5, c6, c7, c8, c9, c10, rfl⟩ := kEl_eleven hcs
      have q0 := hEw.keep (hc 0 (by decide))
      have q1 := hEw.keep (hc 1 (by decide))
      have q2 := hEw.keep (hc 2 (by decide))
      have q3 := hEw.keep (hc 3 (by decide))
      have q4 := hEw.keep (hc 4 (by decide))
      have q5 := hEw.keep (hc 5 (by decide))
      have q6 := hEw.keep (hc 6 (by decide))
      have q7 := hEw.keep (hc 7 (by decide))
      have q8 := hEw.keep (hc 8 (by decide))
      have q9 := hEw.keep (hc 9 (by decide))
      have q10 := hEw.keep (hc 10 (by decide))
      simp only [show kEl.size = 11 from rfl, Nat.add_zero] at q0 q1 q2 q3 q4 q5 q6 q7 q8 q9 q10
      have hi1 : (k : Int) < (p.length : Int) := by omega
      have hkm : (k : Int) + 1 ≤ 9223372036854775807 := by omega
      have hmv : Mv w X wr (vb u3 ++ X) := (hEw.mv X).moreL (fun g hg => hgv g (by simpa [vb] using hg))
      have hXr : Old X wr := hX'.out.le hEw.size
      have hcs' := Lib.hid (kEl.mv hcs hmv)
      have hmv' := Lib.hid hmv
      have hone' := Lib.hid hone
      clear hc hcs hmv hone
      go_wp2_with (first | (refine wpL_storeRow (cells := #[c0, c1, c2, c3, c4, c5, c6, c7, c8, c9, c10]) rfl 47 _ _ rfl Tryz.size47 rfl rfl (alloc_new _ _ rfl) rfl (by simpa using hone'.out) ?_; intro w5 h5 g5; have hEx : Ext wr w5 := ((Ext.refl wr).push _).grown g5 (fun k hk => by cases hk; exact Nat.le_refl _); have s0 : w5.cell? ⟨wr.heap.size, 0, none⟩ = some (c0) := cells_of h5 0; have s1 : w5.cell? ⟨wr.heap.size, 1, none⟩ = some (c1) := cells_of h5 1; have s2 : w5.cell? ⟨wr.heap.size, 2, none⟩ = some (c2) := cells_of h5 2; have s3 : w5.cell? ⟨wr.heap.size, 3, none⟩ = some (c3) := cells_of h5 3; have s4 : w5.cell? ⟨wr.heap.size, 4, none⟩ = some (c4) := cells_of h5 4; have s5 : w5.cell? ⟨wr.heap.size, 5, none⟩ = some (c5) := cells_of h5 5; have s6 : w5.cell? ⟨wr.heap.size, 6, none⟩ = some (c6) := cells_of h5 6; have s7 : w5.cell? ⟨wr.heap.size, 7, none⟩ = some (c7) := cells_of h5 7; have s8 : w5.cell? ⟨wr.heap.size, 8, none⟩ = some (c8) := cells_of h5 8; have s9 : w5.cell? ⟨wr.heap.size, 9, none⟩ = some (c9) := cells_of h5 9; have s10 : w5.cell? ⟨wr.heap.size, 10, none⟩ = some (c10) := cells_of h5 10; clear q0 q1 q2 q3 q4 q5 q6 q7 q8 q9 q10 h5 g5))
      have hm5 : Mv wr (vb u3 ++ X) w5 (vb u3 ++ X) := hEx.mv _
      have hX5 : Old X w5 := hXr.le hEx.size
      have hrow5 : Row kPe 89 w5 X u3 ((p.take k).map toE) := hrow.out.ext hEx
      have hrow5' := Lib.hid hrow5
      refine toElem_c (X := vb u3 ++ X) (kEl.mv hcs'.out hm5) (hrow5.old hX5) _ ?_
      intro w6 es hE6 hes
      obtain ⟨d0, d1, d2, d3, rfl⟩ := kPe_four hes
      have hes' := Lib.hid hes
      have hlk : ((p.take k).map toE).length = k := by rw [List.length_map, List.length_take]; omega
      have hb4 : (((p.take k).map toE).length + 1) * 32 ≤ 140737488355328 := by rw [hlk]; omega
      have hb5 : ((p.take k).map toE).length + 1 ≤ maxLen := by rw [hlk, maxLen_eq]; omega
      have hE6' := Lib.hid hE6
      have htk : (p.take (k + 1)).map toE = (p.take k).map toE ++ [toE p[k]] := by rw [List.take_succ_eq_append_getElem hlt, List.map_append]; rfl
      have htk' := Lib.hid htk
      have hEx' := Lib.hid hEx
      clear hes hlk htk hE6 hEx hrow hrow5 s0 s1 s2 s3 s4 s5 s6 s7 s8 s9 s10
      dsimp only
      go_wp2_with (at_builtin; refine wpL_rowApp (c := #[d0, d1, d2, d3]) rfl hrow5'.out hE6'.out (hX5.le hE6'.out.size) hes'.out _ _ _ rfl Tryz.underlying176 Tryz.info89 rfl (by decide) rfl rfl hb4 hb5 ?_; intro v' w8 hrow8 hg8 hne8 hd8)
      go_roundw
      case rel =>
        have hE8 : Ext w w8 := ((hEw.trans hEx'.out).trans hE6'.out).grown hg8 (fun j hj => hgv j hj)
        refine ⟨k + 1, by omega, by go_num, hE8, fun g hg => ?_, hne8, Lib.hid (by rw [htk'.out]; exact hrow8)⟩
        rcases hd8 g hg with h | h
        · exact hgv g h
        · have := hE6'.out.size; have := hEx'.out.size; have := hEw.size; omega
      case measure => simp [intOf]; omega
    · have ek : k = p.length := by omega
      subst ek
      have hr := hrow.out
      rw [List.take_of_length_le (Nat.le_refl _)] at hr
      have hr' := Lib.hid hr
      clear hr hrow hk hlt
      go_wp2_with fail
      exact hR'.out _ _ hEw (hr'.out.isSl (by rw [List.length_map]; omega))
end Go.Proofs.YtihapgangilncaaGreat

namespace Go.Proofs.YtihapgangilncaaGreat
open Go.RowKit

def pairB {α : Type} (f : α → α → Bool) : List α → List α → Bool
  | x :: l, y :: m => f x y && pairB f l m
  | _, _ => true
theorem pairB_iff {α : Type} {f : α → α → Bool} : ∀ {m l : List α}, m.length = l.length → (pairB f m l = true ↔ ∀ i (h : i < m.length) (h2 : i < l.length), f m[i] l[i] = true)
  | [], [], _ => by simp [pairB]
  | [], _ :: _, h => by simp at h
  | _ :: _, [], h => by simp at h
  | x :: m, y :: l, h => by
    simp only [pairB, Bool.and_eq_true, pairB_iff (m := m) (l := l) (by simpa using h)]
    constructor
    · rintro ⟨h1, h2⟩ i hi hi2
      cases i with
      | zero => exact h1
      | succ i => exact h2 i (by simpa using hi) (by simpa using hi2)
    · intro h
      exact ⟨h 0 (by simp) (by simp), fun i hi hi2 => h (i + 1) (by simpa using hi) (by simpa using hi2)⟩
def listB {α : Type} (f : α → α → Bool) (l m : List α) : Bool := decide (l.length = m.length) && pairB f l m

def eqFd (p q : ByteArray × T) : Bool := p.1 == q.1 && eqT p.2 q.2
def eqE : PEl → PEl → Bool
  | .field s, .field t => s == t
  | .key fs, .key gs => listB eqFd fs gs
  | .value t, .value u => eqT t u
  | .index n, .index m => n == m
  | _, _ => false

set_option maxRecDepth 100000 in
set_option maxHeartbeats 1000000 in
theorem valueEquals_c {w : World} {X Y : List Nat} {a b : T} {va vb : Value} (ha : IsVal w X va a) (hb : IsVal w Y vb b) (R : Ending → World → Prop) (hR : Ends R w (.bool (eqT a b))) :
    Calls Tryz.prog 184 #[va, vb] w R := by
  obtain ⟨pa, xa, rfl, -⟩ := id ha.ex
  obtain ⟨pb, xb, rfl, -⟩ := id hb.ex
  have ha' := Lib.hid ha
  have hb' := Lib.hid hb
  have hR' := Lib.hid hR
  clear hR ha hb
  go_enter Tryz.func184, Tryz.ntmps184
  go_wp2_with fail
  refine equals_c b _ X Y a _ _ _ (ha'.out.mv ((Ext.alloc _ _).mv _)) (hb'.out.mv ((Ext.alloc _ _).mv _)) ⟨_, rfl⟩ _ ?_
  intro w2 hE2
  dsimp only
  go_wp2_with fail
  exact hR'.out _ ((Ext.alloc _ _).trans hE2)

set_option maxRecDepth 100000 in
set_option maxHeartbeats 4000000 in
set_option pp.maxSteps 1000000 in
set_option pp.deepTerms true in
theorem fieldListEquals_c {w : World} {X Y : List Nat} {va vb : Value} {fs gs : EntsOfT T} (ha : IsSl kFd 32 w X va fs) (hb : IsSl kFd 32 w Y vb gs) (R : Ending → World → Prop) (hR : Ends R w (.bool (listB eqFd fs gs))) :
    Calls Tryz.prog 183 #[va, vb] w R := by
  obtain ⟨o, c, b, off, rfl, l2, l3, l4, l5⟩ := id ha.ex
  obtain ⟨o2, c2, b2, off2, rfl, m2, m3, m4, m5⟩ := id hb.ex
  have l4' := Lib.hid l4
  have l5' := Lib.hid l5
  have m4' := Lib.hid m4
  have m5' := Lib.hid m5
  have hR' := Lib.hid hR
  clear hR ha hb l4 l5 m4 m5
  by_cases hlen : fs.length = gs.length
  rotate_left
  · have hl' : ((fs.length : Int) != (gs.length : Int)) = true := by rw [bne_iff_ne]; omega
    have hlen' := Lib.hid hlen
    clear hlen
    go_enter Tryz.func183, Tryz.ntmps183
    go_wp2_with fail
    exact hR'.out.bool (by simp [listB, hlen'.out]) _ (Ext.refl _)
  have hl' : ((fs.length : Int) != (gs.length : Int)) = false := by simpa using congrArg Int.ofNat hlen
  have hlen' := Lib.hid hlen
  clear hlen
  go_enter Tryz.func183, Tryz.ntmps183
  go_wp2_with fail
  go_loopw [13] (fun i wr => ∃ k : Nat, k ≤ fs.length ∧ i = .int .i64 k ∧ Ext w wr ∧ Hid (∀ j (h : j < fs.length) (h2 : j < gs.length), j < k → eqFd fs[j] gs[j] = true)) (fun i _ => fs.length - (intOf i).toNat)
  case atStart => exact ⟨0, Nat.zero_le _, rfl, Ext.refl _, Lib.hid fun j _ _ hj => by omega⟩
  case round =>
    obtain ⟨k, hk, rfl, hEr, hall⟩ := hrel
    rename World => wr
    by_cases hlt : k < fs.length
    · have hlt2 : k < gs.length := by have := hlen'.out; omega
      obtain ⟨cs, hc, v, rfl, hcs, hv⟩ := l5'.out k hlt
      obtain ⟨ds, hd, u, rfl, hds, hu⟩ := m5'.out k hlt2
      obtain ⟨rfl, -⟩ := l4'.out (by omega)
      obtain ⟨rfl, -⟩ := m4'.out (by omega)
      have q0 := hEr.keep (hc 0 (by decide))
      have q1 := hEr.keep (hc 1 (by decide))
      have r0 := hEr.keep (hd 0 (by decide))
      have r1 := hEr.keep (hd 1 (by decide))
      simp only [show kFd.size = 2 from rfl, Nat.add_zero] at q0 q1 r0 r1
      obtain ⟨pa, xa, rfl, -⟩ := id hv.ex
      obtain ⟨pb, xb, rfl, -⟩ := id hu.ex
      have hv' := Lib.hid hv
      have hu' := Lib.hid hu
      have hi1 : (k : Int) < (fs.length : Int) := by omega
      have hi2 : (k : Int) < (gs.length : Int) := by omega
      have hkm : (k : Int) + 1 ≤ 9223372036854775807 := by omega
      clear hc hd hv hu
      by_cases hn : (fs[k]).1 = (gs[k]).1
      · have hnb : ((fs[k]).1.toList == (gs[k]).1.toList) = true := by rw [hn]; simp
        have hn' := Lib.hid hn
        clear hn
        go_wp2_with fail
        refine wp_region_script (List.range 11) [] (fun w' => w' = wr.drew) [(.read, 0), (.read, 1), (.read, 2), (.read, 3), (.read, 4), (.read, 5), (.read, 6), (.read, 7), (.read, 8), (.read, 9), (.read, 10)] (by kernel_rfl) (by kernel_rfl) ?_
        iterate 11 (first | (apply scr_r; (· rfl); (· (first | rfl | (simp [Region.wanted, yielded, go_sem]; done) | (simp [Region.wanted, yielded, go_sem, *]; done))); (· (go_simp; try rfl)); (· (simp [go_sem]; try rfl))) | (apply scr_r0; (· rfl); (· (first | rfl | (simp [Region.wanted, yielded, go_sem]; done) | (simp [Region.wanted, yielded, go_sem, *]; done))); (· (simp [go_sem]; try rfl))))
        refine scr_end ?_
        simp only [Exit.then]
        go_wp2_with fail
        refine wp_region_script [0, 1, 2, 3, 4, 5, 6, 7, 8, 9, 11] [] (fun w' => w' = wr.drew.drew) [(.read, 0), (.read, 1), (.read, 2), (.read, 3), (.read, 4), (.read, 5), (.read, 6), (.read, 7), (.read, 8), (.read, 9), (.one, 10), (.pure, 11)] (by kernel_rfl) (by kernel_rfl) ?_
        iterate 10 (first | (apply scr_r; (· rfl); (· (first | rfl | (simp [Region.wanted, yielded, go_sem]; done) | (simp [Region.wanted, yielded, go_sem, *]; done))); (· (go_simp; try rfl)); (· (simp [go_sem]; try rfl))) | (apply scr_r0; (· rfl); (· (first | rfl | (simp [Region.wanted, yielded, go_sem]; done) | (simp [Region.wanted, yielded, go_sem, *]; done))); (· (simp [go_sem]; try rfl))))
        refine scr_one rfl rfl (fun K hK => ?_)
        go_simp
        refine valueEquals_c (hv'.out.mv (hEr.drew.drew.mv _)) (hu'.out.mv (hEr.drew.drew.mv _)) _ ?_
        obtain ⟨bb, hbb⟩ : ∃ bb, eqT (fs[k]).2 (gs[k]).2 = bb := ⟨_, rfl⟩
        rw [hbb]
        intro w3 hE3
        refine hK _ _ (fun h => by simp at h) ?_
        clear hK
        have hbb' := Lib.hid hbb
        clear hbb
        cases bb
        all_goals
          (apply scr_pure'; (· rfl); (· rfl); (· (intro w'; go_simp; try rfl)); (· (simp [go_sem]; try rfl)))
          refine scr_end ?_
          simp only [Exit.then]
          go_wp2_with fail
        · refine hR'.out.bool ?_ _ (hEr.drew.drew.trans hE3)
          have : pairB eqFd fs gs = false := by
            rw [Bool.eq_false_iff]
            intro h
            have := (pairB_iff hlen'.out).1 h k hlt hlt2
            rw [eqFd, hbb'.out] at this
            simp at this
          simp [listB, this]
        · go_roundw
          case rel =>
            refine ⟨k + 1, by omega, by go_num, hEr.drew.drew.trans hE3, Lib.hid fun j h h2 hj => ?_⟩
            by_cases e : j = k
            · subst e; simp [eqFd, hn'.out, hbb'.out]
            · exact hall.out j h h2 (by omega)
          case measure => simp [intOf]; omega
      · have hnb : ((fs[k]).1.toList == (gs[k]).1.toList) = false := beq_eq_false_iff_ne.2 fun h => hn (toList_inj h)
        have hn' := Lib.hid hn
        clear hn
        go_wp2_with fail
        refine wp_region_script (List.range 11) [] (fun w' => w' = wr.drew) [(.read, 0), (.read, 1), (.read, 2), (.read, 3), (.read, 4), (.read, 5), (.read, 6), (.read, 7), (.read, 8), (.read, 9), (.read, 10)] (by kernel_rfl) (by kernel_rfl) ?_
        iterate 11 (first | (apply scr_r; (· rfl); (· (first | rfl | (simp [Region.wanted, yielded, go_sem]; done) | (simp [Region.wanted, yielded, go_sem, *]; done))); (· (go_simp; try rfl)); (· (simp [go_sem]; try rfl))) | (apply scr_r0; (· rfl); (· (first | rfl | (simp [Region.wanted, yielded, go_sem]; done) | (simp [Region.wanted, yielded, go_sem, *]; done))); (· (simp [go_sem]; try rfl))))
        refine scr_end ?_
        simp only [Exit.then]
        go_wp2_with fail
        refine hR'.out.bool ?_ _ hEr.drew
        have : pairB eqFd fs gs = false := by
          rw [Bool.eq_false_iff]
          intro h
          have := (pairB_iff hlen'.out).1 h k hlt hlt2
          simp [eqFd, hn'.out] at this
        simp [listB, this]
    · have hp : pairB eqFd fs gs = true := (pairB_iff hlen'.out).2 fun j h h2 => hall.out j h h2 (by omega)
      have hp' := Lib.hid hp
      clear hp
      go_wp2_with fail
      exact hR'.out.bool (by simp [listB, hp'.out, hlen'.out]) _ hEr
set_option maxRecDepth 100000 in
set_option maxHeartbeats 4000000 in
set_option pp.maxSteps 1000000 in
set_option pp.deepTerms true in
theorem peEquals_field_field {w : World} {X Y : List Nat} {cs ds : List Value} {s : ByteArray} {s2 : ByteArray} (ha : kPe.is w X cs (.field s)) (hb : kPe.is w Y ds (.field s2)) (R : Ending → World → Prop) (hR : Ends R w (.bool (eqE (.field s) (.field s2)))) :
    Calls Tryz.prog 154 #[.agg cs.toArray, .agg ds.toArray] w R := by
  obtain ⟨_, rfl, pa, oa, us, rfl, -, -, ha1, ha2⟩ := ha
  obtain ⟨_, rfl, pb, ob, ts, rfl, -, -, hb1, hb2⟩ := hb
  have hR' := Lib.hid hR
  have ga := ha1 0 (by decide)
  have gb := hb1 0 (by decide)
  have ha2' := Lib.hid ha2
  have hb2' := Lib.hid hb2
  simp only [Nat.add_zero] at ga gb
  clear hR ha1 hb1 ha2 hb2
  go_enter Tryz.func154, Tryz.ntmps154
  obtain ⟨rfl, -⟩ := ha2'.out
  obtain ⟨rfl, -⟩ := hb2'.out
  simp only [List.getElem?_cons_zero] at ga gb
  clear ha2' hb2'
  go_wp2_with fail
  refine abs2 (G := Code.wp _ _ _ _) ?_
  intro w1 hE1 hb1 hb2 hs1
  have e0 : w1.cell? ⟨w.heap.size, 0, none⟩ = some (.pointer (some ⟨pa, oa, none⟩)) := cells_of hb1 0; have e1 : w1.cell? ⟨w.heap.size, 1, none⟩ = some (.pointer none) := cells_of hb1 1; have e2 : w1.cell? ⟨w.heap.size, 2, none⟩ = some (.pointer none) := cells_of hb1 2; have e3 : w1.cell? ⟨w.heap.size, 3, none⟩ = some (.pointer none) := cells_of hb1 3
  have f0 : w1.cell? ⟨w.heap.size + 1, 0, none⟩ = some (.pointer (some ⟨pb, ob, none⟩)) := cells_of hb2 0; have f1 : w1.cell? ⟨w.heap.size + 1, 1, none⟩ = some (.pointer none) := cells_of hb2 1; have f2 : w1.cell? ⟨w.heap.size + 1, 2, none⟩ = some (.pointer none) := cells_of hb2 2; have f3 : w1.cell? ⟨w.heap.size + 1, 3, none⟩ = some (.pointer none) := cells_of hb2 3
  replace ga := hE1.keep ga; replace gb := hE1.keep gb
  clear hb1 hb2 hs1
  refine wp_region_script (List.range 10) [] (fun w' => w' = w1.drew) [(.read, 0), (.read, 1), (.read, 2), (.read, 3), (.read, 4), (.read, 5), (.read, 6), (.read, 7), (.read, 8), (.read, 9)] (by kernel_rfl) (by kernel_rfl) ?_
  iterate 10 (first | (apply scr_r; (· rfl); (· (first | rfl | (simp [Region.wanted, yielded, go_sem]; done) | (simp [Region.wanted, yielded, go_sem, *]; done))); (· (go_simp; try rfl)); (· (simp [go_sem]; try rfl))) | (apply scr_r0; (· rfl); (· (first | rfl | (simp [Region.wanted, yielded, go_sem]; done) | (simp [Region.wanted, yielded, go_sem, *]; done))); (· (simp [go_sem]; try rfl))))
  refine scr_end ?_
  simp only [Exit.then]
  go_wp2_with fail
  exact hR'.out.bool (beq_bytes _ _) _ hE1.drew

set_option maxRecDepth 100000 in
set_option maxHeartbeats 4000000 in
set_option pp.maxSteps 1000000 in
set_option pp.deepTerms true in
theorem peEquals_field_key {w : World} {X Y : List Nat} {cs ds : List Value} {s : ByteArray} {fs2 : EntsOfT T} (ha : kPe.is w X cs (.field s)) (hb : kPe.is w Y ds (.key fs2)) (R : Ending → World → Prop) (hR : Ends R w (.bool (eqE (.field s) (.key fs2)))) :
    Calls Tryz.prog 154 #[.agg cs.toArray, .agg ds.toArray] w R := by
  obtain ⟨_, rfl, pa, oa, us, rfl, -, -, ha1, ha2⟩ := ha
  obtain ⟨_, rfl, pb, ob, ts, rfl, -, -, hb1, hb2⟩ := hb
  have hR' := Lib.hid hR
  have ga := ha1 0 (by decide)
  have gb := hb1 0 (by decide)
  have ha2' := Lib.hid ha2
  have hb2' := Lib.hid hb2
  simp only [Nat.add_zero] at ga gb
  clear hR ha1 hb1 ha2 hb2
  go_enter Tryz.func154, Tryz.ntmps154
  go_wp2_with fail
  exact hR'.out _ ((Ext.alloc _ _).push _)

set_option maxRecDepth 100000 in
set_option maxHeartbeats 4000000 in
set_option pp.maxSteps 1000000 in
set_option pp.deepTerms true in
theorem peEquals_field_value {w : World} {X Y : List Nat} {cs ds : List Value} {s : ByteArray} {t2 : T} (ha : kPe.is w X cs (.field s)) (hb : kPe.is w Y ds (.value t2)) (R : Ending → World → Prop) (hR : Ends R w (.bool (eqE (.field s) (.value t2)))) :
    Calls Tryz.prog 154 #[.agg cs.toArray, .agg ds.toArray] w R := by
  obtain ⟨_, rfl, pa, oa, us, rfl, -, -, ha1, ha2⟩ := ha
  obtain ⟨_, rfl, pb, ob, ts, rfl, -, -, hb1, hb2⟩ := hb
  have hR' := Lib.hid hR
  have ga := ha1 0 (by decide)
  have gb := hb1 0 (by decide)
  have ha2' := Lib.hid ha2
  have hb2' := Lib.hid hb2
  simp only [Nat.add_zero] at ga gb
  clear hR ha1 hb1 ha2 hb2
  go_enter Tryz.func154, Tryz.ntmps154
  go_wp2_with fail
  exact hR'.out _ ((Ext.alloc _ _).push _)

set_option maxRecDepth 100000 in
set_option maxHeartbeats 4000000 in
set_option pp.maxSteps 1000000 in
set_option pp.deepTerms true in
theorem peEquals_field_index {w : World} {X Y : List Nat} {cs ds : List Value} {s : ByteArray} {n2 : Int} (ha : kPe.is w X cs (.field s)) (hb : kPe.is w Y ds (.index n2)) (R : Ending → World → Prop) (hR : Ends R w (.bool (eqE (.field s) (.index n2)))) :
    Calls Tryz.prog 154 #[.agg cs.toArray, .agg ds.toArray] w R := by
  obtain ⟨_, rfl, pa, oa, us, rfl, -, -, ha1, ha2⟩ := ha
  obtain ⟨_, rfl, pb, ob, ts, rfl, -, -, hb1, hb2⟩ := hb
  have hR' := Lib.hid hR
  have ga := ha1 0 (by decide)
  have gb := hb1 0 (by decide)
  have ha2' := Lib.hid ha2
  have hb2' := Lib.hid hb2
  simp only [Nat.add_zero] at ga gb
  clear hR ha1 hb1 ha2 hb2
  go_enter Tryz.func154, Tryz.ntmps154
  go_wp2_with fail
  exact hR'.out _ ((Ext.alloc _ _).push _)

set_option maxRecDepth 100000 in
set_option maxHeartbeats 4000000 in
set_option pp.maxSteps 1000000 in
set_option pp.deepTerms true in
theorem peEquals_key_field {w : World} {X Y : List Nat} {cs ds : List Value} {fs : EntsOfT T} {s2 : ByteArray} (ha : kPe.is w X cs (.key fs)) (hb : kPe.is w Y ds (.field s2)) (R : Ending → World → Prop) (hR : Ends R w (.bool (eqE (.key fs) (.field s2)))) :
    Calls Tryz.prog 154 #[.agg cs.toArray, .agg ds.toArray] w R := by
  obtain ⟨_, rfl, pa, oa, us, rfl, -, -, ha1, ha2⟩ := ha
  obtain ⟨_, rfl, pb, ob, ts, rfl, -, -, hb1, hb2⟩ := hb
  have hR' := Lib.hid hR
  have ga := ha1 0 (by decide)
  have gb := hb1 0 (by decide)
  have ha2' := Lib.hid ha2
  have hb2' := Lib.hid hb2
  simp only [Nat.add_zero] at ga gb
  clear hR ha1 hb1 ha2 hb2
  go_enter Tryz.func154, Tryz.ntmps154
  go_wp2_with fail
  exact hR'.out _ ((Ext.alloc _ _).push _)

set_option maxRecDepth 100000 in
set_option maxHeartbeats 4000000 in
set_option pp.maxSteps 1000000 in
set_option pp.deepTerms true in
theorem peEquals_key_key {w : World} {X Y : List Nat} {cs ds : List Value} {fs : EntsOfT T} {fs2 : EntsOfT T} (ha : kPe.is w X cs (.key fs)) (hb : kPe.is w Y ds (.key fs2)) (R : Ending → World → Prop) (hR : Ends R w (.bool (eqE (.key fs) (.key fs2)))) :
    Calls Tryz.prog 154 #[.agg cs.toArray, .agg ds.toArray] w R := by
  obtain ⟨_, rfl, pa, oa, us, rfl, -, -, ha1, ha2⟩ := ha
  obtain ⟨_, rfl, pb, ob, ts, rfl, -, -, hb1, hb2⟩ := hb
  have hR' := Lib.hid hR
  have ga := ha1 0 (by decide)
  have gb := hb1 0 (by decide)
  have ha2' := Lib.hid ha2
  have hb2' := Lib.hid hb2
  simp only [Nat.add_zero] at ga gb
  clear hR ha1 hb1 ha2 hb2
  go_enter Tryz.func154, Tryz.ntmps154
  obtain ⟨u, rfl, hu⟩ := ha2'.out
  obtain ⟨v, rfl, hv⟩ := hb2'.out
  have hu' := Lib.hid hu
  have hv' := Lib.hid hv
  clear hu hv
  simp only [List.getElem?_cons_zero] at ga gb
  clear ha2' hb2'
  go_wp2_with fail
  refine abs2 (G := Code.wp _ _ _ _) ?_
  intro w1 hE1 hb1 hb2 hs1
  have e0 : w1.cell? ⟨w.heap.size, 0, none⟩ = some (.pointer none) := cells_of hb1 0; have e1 : w1.cell? ⟨w.heap.size, 1, none⟩ = some (.pointer (some ⟨pa, oa, none⟩)) := cells_of hb1 1; have e2 : w1.cell? ⟨w.heap.size, 2, none⟩ = some (.pointer none) := cells_of hb1 2; have e3 : w1.cell? ⟨w.heap.size, 3, none⟩ = some (.pointer none) := cells_of hb1 3
  have f0 : w1.cell? ⟨w.heap.size + 1, 0, none⟩ = some (.pointer none) := cells_of hb2 0; have f1 : w1.cell? ⟨w.heap.size + 1, 1, none⟩ = some (.pointer (some ⟨pb, ob, none⟩)) := cells_of hb2 1; have f2 : w1.cell? ⟨w.heap.size + 1, 2, none⟩ = some (.pointer none) := cells_of hb2 2; have f3 : w1.cell? ⟨w.heap.size + 1, 3, none⟩ = some (.pointer none) := cells_of hb2 3
  replace ga := hE1.keep ga; replace gb := hE1.keep gb
  clear hb1 hb2 hs1
  refine wp_region_script [0, 1, 2, 3, 4, 5, 6, 7, 9] [] (fun w' => w' = w1.drew) [(.read, 0), (.read, 1), (.read, 2), (.read, 3), (.read, 4), (.read, 5), (.read, 6), (.read, 7), (.one, 8), (.pure, 9)] (by kernel_rfl) (by kernel_rfl) ?_
  iterate 8 (first | (apply scr_r; (· rfl); (· (first | rfl | (simp [Region.wanted, yielded, go_sem]; done) | (simp [Region.wanted, yielded, go_sem, *]; done))); (· (go_simp; try rfl)); (· (simp [go_sem]; try rfl))) | (apply scr_r0; (· rfl); (· (first | rfl | (simp [Region.wanted, yielded, go_sem]; done) | (simp [Region.wanted, yielded, go_sem, *]; done))); (· (simp [go_sem]; try rfl))))
  refine scr_one rfl rfl (fun K hK => ?_)
  go_simp
  refine fieldListEquals_c (hu'.out.mv (hE1.drew.mv _) (by simp [kFd])) (hv'.out.mv (hE1.drew.mv _) (by simp [kFd])) _ ?_
  intro w3 hE3
  refine hK _ _ (fun h => by simp at h) ?_
  clear hK
  (apply scr_pure'; (· rfl); (· rfl); (· (intro w'; go_simp; try rfl)); (· (simp [go_sem]; try rfl)))
  refine scr_end ?_
  simp only [Exit.then]
  go_wp2_with fail
  exact hR'.out _ (hE1.drew.trans hE3)

set_option maxRecDepth 100000 in
set_option maxHeartbeats 4000000 in
set_option pp.maxSteps 1000000 in
set_option pp.deepTerms true in
theorem peEquals_key_value {w : World} {X Y : List Nat} {cs ds : List Value} {fs : EntsOfT T} {t2 : T} (ha : kPe.is w X cs (.key fs)) (hb : kPe.is w Y ds (.value t2)) (R : Ending → World → Prop) (hR : Ends R w (.bool (eqE (.key fs) (.value t2)))) :
    Calls Tryz.prog 154 #[.agg cs.toArray, .agg ds.toArray] w R := by
  obtain ⟨_, rfl, pa, oa, us, rfl, -, -, ha1, ha2⟩ := ha
  obtain ⟨_, rfl, pb, ob, ts, rfl, -, -, hb1, hb2⟩ := hb
  have hR' := Lib.hid hR
  have ga := ha1 0 (by decide)
  have gb := hb1 0 (by decide)
  have ha2' := Lib.hid ha2
  have hb2' := Lib.hid hb2
  simp only [Nat.add_zero] at ga gb
  clear hR ha1 hb1 ha2 hb2
  go_enter Tryz.func154, Tryz.ntmps154
  go_wp2_with fail
  exact hR'.out _ ((Ext.alloc _ _).push _)

set_option maxRecDepth 100000 in
set_option maxHeartbeats 4000000 in
set_option pp.maxSteps 1000000 in
set_option pp.deepTerms true in
theorem peEquals_key_index {w : World} {X Y : List Nat} {cs ds : List Value} {fs : EntsOfT T} {n2 : Int} (ha : kPe.is w X cs (.key fs)) (hb : kPe.is w Y ds (.index n2)) (R : Ending → World → Prop) (hR : Ends R w (.bool (eqE (.key fs) (.index n2)))) :
    Calls Tryz.prog 154 #[.agg cs.toArray, .agg ds.toArray] w R := by
  obtain ⟨_, rfl, pa, oa, us, rfl, -, -, ha1, ha2⟩ := ha
  obtain ⟨_, rfl, pb, ob, ts, rfl, -, -, hb1, hb2⟩ := hb
  have hR' := Lib.hid hR
  have ga := ha1 0 (by decide)
  have gb := hb1 0 (by decide)
  have ha2' := Lib.hid ha2
  have hb2' := Lib.hid hb2
  simp only [Nat.add_zero] at ga gb
  clear hR ha1 hb1 ha2 hb2
  go_enter Tryz.func154, Tryz.ntmps154
  go_wp2_with fail
  exact hR'.out _ ((Ext.alloc _ _).push _)

set_option maxRecDepth 100000 in
set_option maxHeartbeats 4000000 in
set_option pp.maxSteps 1000000 in
set_option pp.deepTerms true in
theorem peEquals_value_field {w : World} {X Y : List Nat} {cs ds : List Value} {t : T} {s2 : ByteArray} (ha : kPe.is w X cs (.value t)) (hb : kPe.is w Y ds (.field s2)) (R : Ending → World → Prop) (hR : Ends R w (.bool (eqE (.value t) (.field s2)))) :
    Calls Tryz.prog 154 #[.agg cs.toArray, .agg ds.toArray] w R := by
  obtain ⟨_, rfl, pa, oa, us, rfl, -, -, ha1, ha2⟩ := ha
  obtain ⟨_, rfl, pb, ob, ts, rfl, -, -, hb1, hb2⟩ := hb
  have hR' := Lib.hid hR
  have ga := ha1 0 (by decide)
  have gb := hb1 0 (by decide)
  have ha2' := Lib.hid ha2
  have hb2' := Lib.hid hb2
  simp only [Nat.add_zero] at ga gb
  clear hR ha1 hb1 ha2 hb2
  go_enter Tryz.func154, Tryz.ntmps154
  go_wp2_with fail
  exact hR'.out _ ((Ext.alloc _ _).push _)

set_option maxRecDepth 100000 in
set_option maxHeartbeats 4000000 in
set_option pp.maxSteps 1000000 in
set_option pp.deepTerms true in
theorem peEquals_value_key {w : World} {X Y : List Nat} {cs ds : List Value} {t : T} {fs2 : EntsOfT T} (ha : kPe.is w X cs (.value t)) (hb : kPe.is w Y ds (.key fs2)) (R : Ending → World → Prop) (hR : Ends R w (.bool (eqE (.value t) (.key fs2)))) :
    Calls Tryz.prog 154 #[.agg cs.toArray, .agg ds.toArray] w R := by
  obtain ⟨_, rfl, pa, oa, us, rfl, -, -, ha1, ha2⟩ := ha
  obtain ⟨_, rfl, pb, ob, ts, rfl, -, -, hb1, hb2⟩ := hb
  have hR' := Lib.hid hR
  have ga := ha1 0 (by decide)
  have gb := hb1 0 (by decide)
  have ha2' := Lib.hid ha2
  have hb2' := Lib.hid hb2
  simp only [Nat.add_zero] at ga gb
  clear hR ha1 hb1 ha2 hb2
  go_enter Tryz.func154, Tryz.ntmps154
  go_wp2_with fail
  exact hR'.out _ ((Ext.alloc _ _).push _)

set_option maxRecDepth 100000 in
set_option maxHeartbeats 4000000 in
set_option pp.maxSteps 1000000 in
set_option pp.deepTerms true in
theorem peEquals_value_value {w : World} {X Y : List Nat} {cs ds : List Value} {t : T} {t2 : T} (ha : kPe.is w X cs (.value t)) (hb : kPe.is w Y ds (.value t2)) (R : Ending → World → Prop) (hR : Ends R w (.bool (eqE (.value t) (.value t2)))) :
    Calls Tryz.prog 154 #[.agg cs.toArray, .agg ds.toArray] w R := by
  obtain ⟨_, rfl, pa, oa, us, rfl, -, -, ha1, ha2⟩ := ha
  obtain ⟨_, rfl, pb, ob, ts, rfl, -, -, hb1, hb2⟩ := hb
  have hR' := Lib.hid hR
  have ga := ha1 0 (by decide)
  have gb := hb1 0 (by decide)
  have ha2' := Lib.hid ha2
  have hb2' := Lib.hid hb2
  simp only [Nat.add_zero] at ga gb
  clear hR ha1 hb1 ha2 hb2
  go_enter Tryz.func154, Tryz.ntmps154
  obtain ⟨u, rfl, hu⟩ := ha2'.out
  obtain ⟨v, rfl, hv⟩ := hb2'.out
  obtain ⟨_, _, rfl, -⟩ := id hu.ex
  obtain ⟨_, _, rfl, -⟩ := id hv.ex
  have hu' := Lib.hid hu
  have hv' := Lib.hid hv
  clear hu hv
  simp only [List.getElem?_cons_zero] at ga gb
  clear ha2' hb2'
  go_wp2_with fail
  refine abs2 (G := Code.wp _ _ _ _) ?_
  intro w1 hE1 hb1 hb2 hs1
  have e0 : w1.cell? ⟨w.heap.size, 0, none⟩ = some (.pointer none) := cells_of hb1 0; have e1 : w1.cell? ⟨w.heap.size, 1, none⟩ = some (.pointer none) := cells_of hb1 1; have e2 : w1.cell? ⟨w.heap.size, 2, none⟩ = some (.pointer (some ⟨pa, oa, none⟩)) := cells_of hb1 2; have e3 : w1.cell? ⟨w.heap.size, 3, none⟩ = some (.pointer none) := cells_of hb1 3
  have f0 : w1.cell? ⟨w.heap.size + 1, 0, none⟩ = some (.pointer none) := cells_of hb2 0; have f1 : w1.cell? ⟨w.heap.size + 1, 1, none⟩ = some (.pointer none) := cells_of hb2 1; have f2 : w1.cell? ⟨w.heap.size + 1, 2, none⟩ = some (.pointer (some ⟨pb, ob, none⟩)) := cells_of hb2 2; have f3 : w1.cell? ⟨w.heap.size + 1, 3, none⟩ = some (.pointer none) := cells_of hb2 3
  replace ga := hE1.keep ga; replace gb := hE1.keep gb
  clear hb1 hb2 hs1
  refine wp_region_script [0, 1, 2, 3, 4, 5, 6, 7, 9] [] (fun w' => w' = w1.drew) [(.read, 0), (.read, 1), (.read, 2), (.read, 3), (.read, 4), (.read, 5), (.read, 6), (.read, 7), (.one, 8), (.pure, 9)] (by kernel_rfl) (by kernel_rfl) ?_
  iterate 8 (first | (apply scr_r; (· rfl); (· (first | rfl | (simp [Region.wanted, yielded, go_sem]; done) | (simp [Region.wanted, yielded, go_sem, *]; done))); (· (go_simp; try rfl)); (· (simp [go_sem]; try rfl))) | (apply scr_r0; (· rfl); (· (first | rfl | (simp [Region.wanted, yielded, go_sem]; done) | (simp [Region.wanted, yielded, go_sem, *]; done))); (· (simp [go_sem]; try rfl))))
  refine scr_one rfl rfl (fun K hK => ?_)
  go_simp
  refine valueEquals_c (hu'.out.mv (hE1.drew.mv _)) (hv'.out.mv (hE1.drew.mv _)) _ ?_
  intro w3 hE3
  refine hK _ _ (fun h => by simp at h) ?_
  clear hK
  (apply scr_pure'; (· rfl); (· rfl); (· (intro w'; go_simp; try rfl)); (· (simp [go_sem]; try rfl)))
  refine scr_end ?_
  simp only [Exit.then]
  go_wp2_with fail
  exact hR'.out _ (hE1.drew.trans hE3)

set_option maxRecDepth 100000 in
set_option maxHeartbeats 4000000 in
set_option pp.maxSteps 1000000 in
set_option pp.deepTerms true in
theorem peEquals_value_index {w : World} {X Y : List Nat} {cs ds : List Value} {t : T} {n2 : Int} (ha : kPe.is w X cs (.value t)) (hb : kPe.is w Y ds (.index n2)) (R : Ending → World → Prop) (hR : Ends R w (.bool (eqE (.value t) (.index n2)))) :
    Calls Tryz.prog 154 #[.agg cs.toArray, .agg ds.toArray] w R := by
  obtain ⟨_, rfl, pa, oa, us, rfl, -, -, ha1, ha2⟩ := ha
  obtain ⟨_, rfl, pb, ob, ts, rfl, -, -, hb1, hb2⟩ := hb
  have hR' := Lib.hid hR
  have ga := ha1 0 (by decide)
  have gb := hb1 0 (by decide)
  have ha2' := Lib.hid ha2
  have hb2' := Lib.hid hb2
  simp only [Nat.add_zero] at ga gb
  clear hR ha1 hb1 ha2 hb2
  go_enter Tryz.func154, Tryz.ntmps154
  go_wp2_with fail
  exact hR'.out _ ((Ext.alloc _ _).push _)

set_option maxRecDepth 100000 in
set_option maxHeartbeats 4000000 in
set_option pp.maxSteps 1000000 in
set_option pp.deepTerms true in
theorem peEquals_index_field {w : World} {X Y : List Nat} {cs ds : List Value} {n : Int} {s2 : ByteArray} (ha : kPe.is w X cs (.index n)) (hb : kPe.is w Y ds (.field s2)) (R : Ending → World → Prop) (hR : Ends R w (.bool (eqE (.index n) (.field s2)))) :
    Calls Tryz.prog 154 #[.agg cs.toArray, .agg ds.toArray] w R := by
  obtain ⟨_, rfl, pa, oa, us, rfl, -, -, ha1, ha2⟩ := ha
  obtain ⟨_, rfl, pb, ob, ts, rfl, -, -, hb1, hb2⟩ := hb
  have hR' := Lib.hid hR
  have ga := ha1 0 (by decide)
  have gb := hb1 0 (by decide)
  have ha2' := Lib.hid ha2
  have hb2' := Lib.hid hb2
  simp only [Nat.add_zero] at ga gb
  clear hR ha1 hb1 ha2 hb2
  go_enter Tryz.func154, Tryz.ntmps154
  go_wp2_with fail
  exact hR'.out _ ((Ext.alloc _ _).push _)

set_option maxRecDepth 100000 in
set_option maxHeartbeats 4000000 in
set_option pp.maxSteps 1000000 in
set_option pp.deepTerms true in
theorem peEquals_index_key {w : World} {X Y : List Nat} {cs ds : List Value} {n : Int} {fs2 : EntsOfT T} (ha : kPe.is w X cs (.index n)) (hb : kPe.is w Y ds (.key fs2)) (R : Ending → World → Prop) (hR : Ends R w (.bool (eqE (.index n) (.key fs2)))) :
    Calls Tryz.prog 154 #[.agg cs.toArray, .agg ds.toArray] w R := by
  obtain ⟨_, rfl, pa, oa, us, rfl, -, -, ha1, ha2⟩ := ha
  obtain ⟨_, rfl, pb, ob, ts, rfl, -, -, hb1, hb2⟩ := hb
  have hR' := Lib.hid hR
  have ga := ha1 0 (by decide)
  have gb := hb1 0 (by decide)
  have ha2' := Lib.hid ha2
  have hb2' := Lib.hid hb2
  simp only [Nat.add_zero] at ga gb
  clear hR ha1 hb1 ha2 hb2
  go_enter Tryz.func154, Tryz.ntmps154
  go_wp2_with fail
  exact hR'.out _ ((Ext.alloc _ _).push _)

set_option maxRecDepth 100000 in
set_option maxHeartbeats 4000000 in
set_option pp.maxSteps 1000000 in
set_option pp.deepTerms true in
theorem peEquals_index_value {w : World} {X Y : List Nat} {cs ds : List Value} {n : Int} {t2 : T} (ha : kPe.is w X cs (.index n)) (hb : kPe.is w Y ds (.value t2)) (R : Ending → World → Prop) (hR : Ends R w (.bool (eqE (.index n) (.value t2)))) :
    Calls Tryz.prog 154 #[.agg cs.toArray, .agg ds.toArray] w R := by
  obtain ⟨_, rfl, pa, oa, us, rfl, -, -, ha1, ha2⟩ := ha
  obtain ⟨_, rfl, pb, ob, ts, rfl, -, -, hb1, hb2⟩ := hb
  have hR' := Lib.hid hR
  have ga := ha1 0 (by decide)
  have gb := hb1 0 (by decide)
  have ha2' := Lib.hid ha2
  have hb2' := Lib.hid hb2
  simp only [Nat.add_zero] at ga gb
  clear hR ha1 hb1 ha2 hb2
  go_enter Tryz.func154, Tryz.ntmps154
  go_wp2_with fail
  exact hR'.out _ ((Ext.alloc _ _).push _)

set_option maxRecDepth 100000 in
set_option maxHeartbeats 4000000 in
set_option pp.maxSteps 1000000 in
set_option pp.deepTerms true in
theorem peEquals_index_index {w : World} {X Y : List Nat} {cs ds : List Value} {n : Int} {n2 : Int} (ha : kPe.is w X cs (.index n)) (hb : kPe.is w Y ds (.index n2)) (R : Ending → World → Prop) (hR : Ends R w (.bool (eqE (.index n) (.index n2)))) :
    Calls Tryz.prog 154 #[.agg cs.toArray, .agg ds.toArray] w R := by
  obtain ⟨_, rfl, pa, oa, us, rfl, -, -, ha1, ha2⟩ := ha
  obtain ⟨_, rfl, pb, ob, ts, rfl, -, -, hb1, hb2⟩ := hb
  have hR' := Lib.hid hR
  have ga := ha1 0 (by decide)
  have gb := hb1 0 (by decide)
  have ha2' := Lib.hid ha2
  have hb2' := Lib.hid hb2
  simp only [Nat.add_zero] at ga gb
  clear hR ha1 hb1 ha2 hb2
  go_enter Tryz.func154, Tryz.ntmps154
  obtain ⟨rfl, -⟩ := ha2'.out
  obtain ⟨rfl, -⟩ := hb2'.out
  simp only [List.getElem?_cons_zero] at ga gb
  clear ha2' hb2'
  go_wp2_with fail
  refine abs2 (G := Code.wp _ _ _ _) ?_
  intro w1 hE1 hb1 hb2 hs1
  have e0 : w1.cell? ⟨w.heap.size, 0, none⟩ = some (.pointer none) := cells_of hb1 0; have e1 : w1.cell? ⟨w.heap.size, 1, none⟩ = some (.pointer none) := cells_of hb1 1; have e2 : w1.cell? ⟨w.heap.size, 2, none⟩ = some (.pointer none) := cells_of hb1 2; have e3 : w1.cell? ⟨w.heap.size, 3, none⟩ = some (.pointer (some ⟨pa, oa, none⟩)) := cells_of hb1 3
  have f0 : w1.cell? ⟨w.heap.size + 1, 0, none⟩ = some (.pointer none) := cells_of hb2 0; have f1 : w1.cell? ⟨w.heap.size + 1, 1, none⟩ = some (.pointer none) := cells_of hb2 1; have f2 : w1.cell? ⟨w.heap.size + 1, 2, none⟩ = some (.pointer none) := cells_of hb2 2; have f3 : w1.cell? ⟨w.heap.size + 1, 3, none⟩ = some (.pointer (some ⟨pb, ob, none⟩)) := cells_of hb2 3
  replace ga := hE1.keep ga; replace gb := hE1.keep gb
  clear hb1 hb2 hs1
  refine wp_region_script (List.range 10) [] (fun w' => w' = w1.drew) [(.read, 0), (.read, 1), (.read, 2), (.read, 3), (.read, 4), (.read, 5), (.read, 6), (.read, 7), (.read, 8), (.read, 9)] (by kernel_rfl) (by kernel_rfl) ?_
  iterate 10 (first | (apply scr_r; (· rfl); (· (first | rfl | (simp [Region.wanted, yielded, go_sem]; done) | (simp [Region.wanted, yielded, go_sem, *]; done))); (· (go_simp; try rfl)); (· (simp [go_sem]; try rfl))) | (apply scr_r0; (· rfl); (· (first | rfl | (simp [Region.wanted, yielded, go_sem]; done) | (simp [Region.wanted, yielded, go_sem, *]; done))); (· (simp [go_sem]; try rfl))))
  refine scr_end ?_
  simp only [Exit.then]
  go_wp2_with fail
  exact hR'.out.bool (by simp [eqE]) _ hE1.drew

theorem peEquals_c {w : World} {X Y : List Nat} {cs ds : List Value} {a b : PEl} (ha : kPe.is w X cs a) (hb : kPe.is w Y ds b) (R : Ending → World → Prop) (hR : Ends R w (.bool (eqE a b))) :
    Calls Tryz.prog 154 #[.agg cs.toArray, .agg ds.toArray] w R := by
  cases a <;> cases b
  · exact peEquals_field_field ha hb R hR
  · exact peEquals_field_key ha hb R hR
  · exact peEquals_field_value ha hb R hR
  · exact peEquals_field_index ha hb R hR
  · exact peEquals_key_field ha hb R hR
  · exact peEquals_key_key ha hb R hR
  · exact peEquals_key_value ha hb R hR
  · exact peEquals_key_index ha hb R hR
  · exact peEquals_value_field ha hb R hR
  · exact peEquals_value_key ha hb R hR
  · exact peEquals_value_value ha hb R hR
  · exact peEquals_value_index ha hb R hR
  · exact peEquals_index_field ha hb R hR
  · exact peEquals_index_key ha hb R hR
  · exact peEquals_index_value ha hb R hR
  · exact peEquals_index_index ha hb R hR
end Go.Proofs.YtihapgangilncaaGreat

namespace Go.Proofs.YtihapgangilncaaGreat
open Go.RowKit

end Go.Proofs.YtihapgangilncaaGreat
