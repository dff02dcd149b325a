/- deduceAtom, DeduceAtom, narrowed, zzFits10. (deduceAtom's walk is printed by gen_deduce.py) -/
import Derived.Test.YtmihdlbcjiaibaaDeduce
namespace Go.Proofs.Ytmihdlbcjiaibaa
open Go.RowKit

set_option maxRecDepth 100000 in
set_option maxHeartbeats 8000000 in
set_option pp.maxSteps 1000000 in
set_option pp.deepTerms true in
theorem deduceAtom_c {d : Nat} {w : World} {X : List Nat} {cs : List Value} {a : SA} {v : Value} {t : T} (ha : (ksA (d + 1)).is w X cs a) (hv : IsVal w X v t) (R : Ending → World → Prop)
    (hR : ∀ w' cs', Ext w w' → (ksA (d + 1)).is w' X cs' (ddS t a) → R (.returned (.agg cs'.toArray)) w') : Calls Try.prog 85 #[.agg cs.toArray, v] w R := by
  obtain ⟨s, l, m⟩ := a
  obtain ⟨ps, pl, pm, rfl, hs, hl, hm⟩ := ha
  obtain ⟨vb, x, rfl, h2, h3, h4⟩ := hv.ex
  have hs' := Lib.hid hs
  have hl' := Lib.hid hl
  have hm' := Lib.hid hm
  have hR' := Lib.hid hR
  have po := hs.one
  have pl1 := hl.one
  have pm1 := hm.one
  clear hs hl hm hR hv h3
  cases t
  case null =>
    go_enter Try.func85, Try.ntmps85
    go_upto_if 5 with (fail)
    refine abs2 (G := Code.wp _ _ _ _) ?_
    intro w1 hE1 hb1 hz hs1
    have a0 : w1.cell? ⟨w.heap.size, 0, none⟩ = some (ps) := cells_of hb1 0
    have a1 : w1.cell? ⟨w.heap.size, 1, none⟩ = some (pl) := cells_of hb1 1
    have a2 : w1.cell? ⟨w.heap.size, 2, none⟩ = some (pm) := cells_of hb1 2
    have hc := hE1.keep (cells_of h2 0)
    have hA := Ext.refl w1
    have hl2 : w.heap.size + 1 < w1.heap.size := by omega
    clear hb1 hs1
    go_wp2_with (first | (go_at_call 147; refine isFloat_c h4 _ ?_; intro w2 hE; dsimp only [T.isFloat, T.isInt, T.isString, T.isBool, T.isList, T.isMap]; replace hc := hE.keep hc; replace a0 := hE.keep a0; replace a1 := hE.keep a1; replace a2 := hE.keep a2; replace hz := (hE.below.block _ hl2).trans hz; replace hl2 := Nat.lt_of_lt_of_le hl2 hE.size; replace hA := hA.trans hE; clear hE) | (go_at_call 148; refine isInt_c h4 _ ?_; intro w2 hE; dsimp only [T.isFloat, T.isInt, T.isString, T.isBool, T.isList, T.isMap]; replace hc := hE.keep hc; replace a0 := hE.keep a0; replace a1 := hE.keep a1; replace a2 := hE.keep a2; replace hz := (hE.below.block _ hl2).trans hz; replace hl2 := Nat.lt_of_lt_of_le hl2 hE.size; replace hA := hA.trans hE; clear hE) | (go_at_call 152; refine isString_c h4 _ ?_; intro w2 hE; dsimp only [T.isFloat, T.isInt, T.isString, T.isBool, T.isList, T.isMap]; replace hc := hE.keep hc; replace a0 := hE.keep a0; replace a1 := hE.keep a1; replace a2 := hE.keep a2; replace hz := (hE.below.block _ hl2).trans hz; replace hl2 := Nat.lt_of_lt_of_le hl2 hE.size; replace hA := hA.trans hE; clear hE) | (go_at_call 146; refine isBool_c h4 _ ?_; intro w2 hE; dsimp only [T.isFloat, T.isInt, T.isString, T.isBool, T.isList, T.isMap]; replace hc := hE.keep hc; replace a0 := hE.keep a0; replace a1 := hE.keep a1; replace a2 := hE.keep a2; replace hz := (hE.below.block _ hl2).trans hz; replace hl2 := Nat.lt_of_lt_of_le hl2 hE.size; replace hA := hA.trans hE; clear hE) | (go_at_call 149; refine isList_c h4 _ ?_; intro w2 hE; dsimp only [T.isFloat, T.isInt, T.isString, T.isBool, T.isList, T.isMap]; replace hc := hE.keep hc; replace a0 := hE.keep a0; replace a1 := hE.keep a1; replace a2 := hE.keep a2; replace hz := (hE.below.block _ hl2).trans hz; replace hl2 := Nat.lt_of_lt_of_le hl2 hE.size; replace hA := hA.trans hE; clear hE) | (go_at_call 150; refine isMap_c h4 _ ?_; intro w2 hE; dsimp only [T.isFloat, T.isInt, T.isString, T.isBool, T.isList, T.isMap]; replace hc := hE.keep hc; replace a0 := hE.keep a0; replace a1 := hE.keep a1; replace a2 := hE.keep a2; replace hz := (hE.below.block _ hl2).trans hz; replace hl2 := Nat.lt_of_lt_of_le hl2 hE.size; replace hA := hA.trans hE; clear hE) | (refine wpL_storeRow (cells := #[ps, pl, pm]) rfl 101 _ _ rfl Try.size101 rfl rfl hz rfl (by simp [po, pl1, pm1]; try rfl) ?_; intro w6 h6 g6) | go_in)
    have z0 : w6.cell? ⟨w.heap.size + 1, 0, none⟩ = some (ps) := cells_of h6 0
    have z1 : w6.cell? ⟨w.heap.size + 1, 1, none⟩ = some (pl) := cells_of h6 1
    have z2 : w6.cell? ⟨w.heap.size + 1, 2, none⟩ = some (pm) := cells_of h6 2
    refine bodyPost_ret (by simp [results, Try.results85, go_sem, z0, z1, z2]; try rfl) rfl ?_
    have hE : Ext w w6 := (hE1.trans hA).grown g6 (fun j hj => by cases hj; omega)
    exact hR'.out w6 [ps, pl, pm] hE ⟨_, _, _, rfl, hs'.out.mv (hE.mv _), hl'.out.mv (hE.mv _), hm'.out.mv (hE.mv _)⟩
  case bool =>
    cases s with
    | none =>
      obtain rfl : ps = .pointer none := hs'.out
      go_enter Try.func85, Try.ntmps85
      go_upto_if 5 with (fail)
      refine abs2 (G := Code.wp _ _ _ _) ?_
      intro w1 hE1 hb1 hz hs1
      have a0 : w1.cell? ⟨w.heap.size, 0, none⟩ = some (.pointer none) := cells_of hb1 0
      have a1 : w1.cell? ⟨w.heap.size, 1, none⟩ = some (pl) := cells_of hb1 1
      have a2 : w1.cell? ⟨w.heap.size, 2, none⟩ = some (pm) := cells_of hb1 2
      have hc := hE1.keep (cells_of h2 0)
      have hA := Ext.refl w1
      have hl2 : w.heap.size + 1 < w1.heap.size := by omega
      clear hb1 hs1
      go_wp2_with (first | (go_at_call 147; refine isFloat_c h4 _ ?_; intro w2 hE; dsimp only [T.isFloat, T.isInt, T.isString, T.isBool, T.isList, T.isMap]; replace hc := hE.keep hc; replace a0 := hE.keep a0; replace a1 := hE.keep a1; replace a2 := hE.keep a2; replace hz := (hE.below.block _ hl2).trans hz; replace hl2 := Nat.lt_of_lt_of_le hl2 hE.size; replace hA := hA.trans hE; clear hE) | (go_at_call 148; refine isInt_c h4 _ ?_; intro w2 hE; dsimp only [T.isFloat, T.isInt, T.isString, T.isBool, T.isList, T.isMap]; replace hc := hE.keep hc; replace a0 := hE.keep a0; replace a1 := hE.keep a1; replace a2 := hE.keep a2; replace hz := (hE.below.block _ hl2).trans hz; replace hl2 := Nat.lt_of_lt_of_le hl2 hE.size; replace hA := hA.trans hE; clear hE) | (go_at_call 152; refine isString_c h4 _ ?_; intro w2 hE; dsimp only [T.isFloat, T.isInt, T.isString, T.isBool, T.isList, T.isMap]; replace hc := hE.keep hc; replace a0 := hE.keep a0; replace a1 := hE.keep a1; replace a2 := hE.keep a2; replace hz := (hE.below.block _ hl2).trans hz; replace hl2 := Nat.lt_of_lt_of_le hl2 hE.size; replace hA := hA.trans hE; clear hE) | (go_at_call 146; refine isBool_c h4 _ ?_; intro w2 hE; dsimp only [T.isFloat, T.isInt, T.isString, T.isBool, T.isList, T.isMap]; replace hc := hE.keep hc; replace a0 := hE.keep a0; replace a1 := hE.keep a1; replace a2 := hE.keep a2; replace hz := (hE.below.block _ hl2).trans hz; replace hl2 := Nat.lt_of_lt_of_le hl2 hE.size; replace hA := hA.trans hE; clear hE) | (go_at_call 149; refine isList_c h4 _ ?_; intro w2 hE; dsimp only [T.isFloat, T.isInt, T.isString, T.isBool, T.isList, T.isMap]; replace hc := hE.keep hc; replace a0 := hE.keep a0; replace a1 := hE.keep a1; replace a2 := hE.keep a2; replace hz := (hE.below.block _ hl2).trans hz; replace hl2 := Nat.lt_of_lt_of_le hl2 hE.size; replace hA := hA.trans hE; clear hE) | (go_at_call 150; refine isMap_c h4 _ ?_; intro w2 hE; dsimp only [T.isFloat, T.isInt, T.isString, T.isBool, T.isList, T.isMap]; replace hc := hE.keep hc; replace a0 := hE.keep a0; replace a1 := hE.keep a1; replace a2 := hE.keep a2; replace hz := (hE.below.block _ hl2).trans hz; replace hl2 := Nat.lt_of_lt_of_le hl2 hE.size; replace hA := hA.trans hE; clear hE) | (refine wpL_storeRow (cells := #[.pointer none, pl, pm]) rfl 101 _ _ rfl Try.size101 rfl rfl hz rfl (by simp [po, pl1, pm1]; try rfl) ?_; intro w6 h6 g6) | go_in)
      have z0 : w6.cell? ⟨w.heap.size + 1, 0, none⟩ = some (.pointer none) := cells_of h6 0
      have z1 : w6.cell? ⟨w.heap.size + 1, 1, none⟩ = some (pl) := cells_of h6 1
      have z2 : w6.cell? ⟨w.heap.size + 1, 2, none⟩ = some (pm) := cells_of h6 2
      refine bodyPost_ret (by simp [results, Try.results85, go_sem, z0, z1, z2]; try rfl) rfl ?_
      have hE : Ext w w6 := (hE1.trans hA).grown g6 (fun j hj => by cases hj; omega)
      exact hR'.out w6 [.pointer none, pl, pm] hE ⟨_, _, _, rfl, hs'.out.mv (hE.mv _), hl'.out.mv (hE.mv _), hm'.out.mv (hE.mv _)⟩
    | some q =>
      obtain ⟨pb, po1, pc, rfl, -⟩ := id hs'.out
      go_enter Try.func85, Try.ntmps85
      go_upto_if 5 with (fail)
      refine abs2 (G := Code.wp _ _ _ _) ?_
      intro w1 hE1 hb1 hz hs1
      have a0 : w1.cell? ⟨w.heap.size, 0, none⟩ = some (.pointer (some ⟨pb, po1, none⟩)) := cells_of hb1 0
      have a1 : w1.cell? ⟨w.heap.size, 1, none⟩ = some (pl) := cells_of hb1 1
      have a2 : w1.cell? ⟨w.heap.size, 2, none⟩ = some (pm) := cells_of hb1 2
      have hc := hE1.keep (cells_of h2 0)
      have hA := Ext.refl w1
      have hl2 : w.heap.size + 1 < w1.heap.size := by omega
      clear hb1 hs1
      go_wp2_with (first | (go_at_call 147; refine isFloat_c h4 _ ?_; intro w2 hE; dsimp only [T.isFloat, T.isInt, T.isString, T.isBool, T.isList, T.isMap]; replace hc := hE.keep hc; replace a0 := hE.keep a0; replace a1 := hE.keep a1; replace a2 := hE.keep a2; replace hz := (hE.below.block _ hl2).trans hz; replace hl2 := Nat.lt_of_lt_of_le hl2 hE.size; replace hA := hA.trans hE; clear hE) | (go_at_call 148; refine isInt_c h4 _ ?_; intro w2 hE; dsimp only [T.isFloat, T.isInt, T.isString, T.isBool, T.isList, T.isMap]; replace hc := hE.keep hc; replace a0 := hE.keep a0; replace a1 := hE.keep a1; replace a2 := hE.keep a2; replace hz := (hE.below.block _ hl2).trans hz; replace hl2 := Nat.lt_of_lt_of_le hl2 hE.size; replace hA := hA.trans hE; clear hE) | (go_at_call 152; refine isString_c h4 _ ?_; intro w2 hE; dsimp only [T.isFloat, T.isInt, T.isString, T.isBool, T.isList, T.isMap]; replace hc := hE.keep hc; replace a0 := hE.keep a0; replace a1 := hE.keep a1; replace a2 := hE.keep a2; replace hz := (hE.below.block _ hl2).trans hz; replace hl2 := Nat.lt_of_lt_of_le hl2 hE.size; replace hA := hA.trans hE; clear hE) | (go_at_call 146; refine isBool_c h4 _ ?_; intro w2 hE; dsimp only [T.isFloat, T.isInt, T.isString, T.isBool, T.isList, T.isMap]; replace hc := hE.keep hc; replace a0 := hE.keep a0; replace a1 := hE.keep a1; replace a2 := hE.keep a2; replace hz := (hE.below.block _ hl2).trans hz; replace hl2 := Nat.lt_of_lt_of_le hl2 hE.size; replace hA := hA.trans hE; clear hE) | (go_at_call 149; refine isList_c h4 _ ?_; intro w2 hE; dsimp only [T.isFloat, T.isInt, T.isString, T.isBool, T.isList, T.isMap]; replace hc := hE.keep hc; replace a0 := hE.keep a0; replace a1 := hE.keep a1; replace a2 := hE.keep a2; replace hz := (hE.below.block _ hl2).trans hz; replace hl2 := Nat.lt_of_lt_of_le hl2 hE.size; replace hA := hA.trans hE; clear hE) | (go_at_call 150; refine isMap_c h4 _ ?_; intro w2 hE; dsimp only [T.isFloat, T.isInt, T.isString, T.isBool, T.isList, T.isMap]; replace hc := hE.keep hc; replace a0 := hE.keep a0; replace a1 := hE.keep a1; replace a2 := hE.keep a2; replace hz := (hE.below.block _ hl2).trans hz; replace hl2 := Nat.lt_of_lt_of_le hl2 hE.size; replace hA := hA.trans hE; clear hE) | (refine wpL_storeRow (cells := #[.pointer (some ⟨pb, po1, none⟩), .pointer none, .pointer none]) rfl 101 _ _ rfl Try.size101 rfl rfl hz rfl (by simp [po]; try rfl) ?_; intro w6 h6 g6) | go_in)
      have z0 : w6.cell? ⟨w.heap.size + 1, 0, none⟩ = some (.pointer (some ⟨pb, po1, none⟩)) := cells_of h6 0
      have z1 : w6.cell? ⟨w.heap.size + 1, 1, none⟩ = some (.pointer none) := cells_of h6 1
      have z2 : w6.cell? ⟨w.heap.size + 1, 2, none⟩ = some (.pointer none) := cells_of h6 2
      refine bodyPost_ret (by simp [results, Try.results85, go_sem, z0, z1, z2]; try rfl) rfl ?_
      have hE : Ext w w6 := (hE1.trans hA).grown g6 (fun j hj => by cases hj; omega)
      exact hR'.out w6 [.pointer (some ⟨pb, po1, none⟩), .pointer none, .pointer none] hE ⟨_, _, _, rfl, hs'.out.mv (hE.mv _), rfl, rfl⟩
  case int =>
    cases s with
    | none =>
      obtain rfl : ps = .pointer none := hs'.out
      go_enter Try.func85, Try.ntmps85
      go_upto_if 5 with (fail)
      refine abs2 (G := Code.wp _ _ _ _) ?_
      intro w1 hE1 hb1 hz hs1
      have a0 : w1.cell? ⟨w.heap.size, 0, none⟩ = some (.pointer none) := cells_of hb1 0
      have a1 : w1.cell? ⟨w.heap.size, 1, none⟩ = some (pl) := cells_of hb1 1
      have a2 : w1.cell? ⟨w.heap.size, 2, none⟩ = some (pm) := cells_of hb1 2
      have hc := hE1.keep (cells_of h2 0)
      have hA := Ext.refl w1
      have hl2 : w.heap.size + 1 < w1.heap.size := by omega
      clear hb1 hs1
      go_wp2_with (first | (go_at_call 147; refine isFloat_c h4 _ ?_; intro w2 hE; dsimp only [T.isFloat, T.isInt, T.isString, T.isBool, T.isList, T.isMap]; replace hc := hE.keep hc; replace a0 := hE.keep a0; replace a1 := hE.keep a1; replace a2 := hE.keep a2; replace hz := (hE.below.block _ hl2).trans hz; replace hl2 := Nat.lt_of_lt_of_le hl2 hE.size; replace hA := hA.trans hE; clear hE) | (go_at_call 148; refine isInt_c h4 _ ?_; intro w2 hE; dsimp only [T.isFloat, T.isInt, T.isString, T.isBool, T.isList, T.isMap]; replace hc := hE.keep hc; replace a0 := hE.keep a0; replace a1 := hE.keep a1; replace a2 := hE.keep a2; replace hz := (hE.below.block _ hl2).trans hz; replace hl2 := Nat.lt_of_lt_of_le hl2 hE.size; replace hA := hA.trans hE; clear hE) | (go_at_call 152; refine isString_c h4 _ ?_; intro w2 hE; dsimp only [T.isFloat, T.isInt, T.isString, T.isBool, T.isList, T.isMap]; replace hc := hE.keep hc; replace a0 := hE.keep a0; replace a1 := hE.keep a1; replace a2 := hE.keep a2; replace hz := (hE.below.block _ hl2).trans hz; replace hl2 := Nat.lt_of_lt_of_le hl2 hE.size; replace hA := hA.trans hE; clear hE) | (go_at_call 146; refine isBool_c h4 _ ?_; intro w2 hE; dsimp only [T.isFloat, T.isInt, T.isString, T.isBool, T.isList, T.isMap]; replace hc := hE.keep hc; replace a0 := hE.keep a0; replace a1 := hE.keep a1; replace a2 := hE.keep a2; replace hz := (hE.below.block _ hl2).trans hz; replace hl2 := Nat.lt_of_lt_of_le hl2 hE.size; replace hA := hA.trans hE; clear hE) | (go_at_call 149; refine isList_c h4 _ ?_; intro w2 hE; dsimp only [T.isFloat, T.isInt, T.isString, T.isBool, T.isList, T.isMap]; replace hc := hE.keep hc; replace a0 := hE.keep a0; replace a1 := hE.keep a1; replace a2 := hE.keep a2; replace hz := (hE.below.block _ hl2).trans hz; replace hl2 := Nat.lt_of_lt_of_le hl2 hE.size; replace hA := hA.trans hE; clear hE) | (go_at_call 150; refine isMap_c h4 _ ?_; intro w2 hE; dsimp only [T.isFloat, T.isInt, T.isString, T.isBool, T.isList, T.isMap]; replace hc := hE.keep hc; replace a0 := hE.keep a0; replace a1 := hE.keep a1; replace a2 := hE.keep a2; replace hz := (hE.below.block _ hl2).trans hz; replace hl2 := Nat.lt_of_lt_of_le hl2 hE.size; replace hA := hA.trans hE; clear hE) | (refine wpL_storeRow (cells := #[.pointer none, pl, pm]) rfl 101 _ _ rfl Try.size101 rfl rfl hz rfl (by simp [po, pl1, pm1]; try rfl) ?_; intro w6 h6 g6) | go_in)
      have z0 : w6.cell? ⟨w.heap.size + 1, 0, none⟩ = some (.pointer none) := cells_of h6 0
      have z1 : w6.cell? ⟨w.heap.size + 1, 1, none⟩ = some (pl) := cells_of h6 1
      have z2 : w6.cell? ⟨w.heap.size + 1, 2, none⟩ = some (pm) := cells_of h6 2
      refine bodyPost_ret (by simp [results, Try.results85, go_sem, z0, z1, z2]; try rfl) rfl ?_
      have hE : Ext w w6 := (hE1.trans hA).grown g6 (fun j hj => by cases hj; omega)
      exact hR'.out w6 [.pointer none, pl, pm] hE ⟨_, _, _, rfl, hs'.out.mv (hE.mv _), hl'.out.mv (hE.mv _), hm'.out.mv (hE.mv _)⟩
    | some q =>
      obtain ⟨pb, po1, pc, rfl, -⟩ := id hs'.out
      go_enter Try.func85, Try.ntmps85
      go_upto_if 5 with (fail)
      refine abs2 (G := Code.wp _ _ _ _) ?_
      intro w1 hE1 hb1 hz hs1
      have a0 : w1.cell? ⟨w.heap.size, 0, none⟩ = some (.pointer (some ⟨pb, po1, none⟩)) := cells_of hb1 0
      have a1 : w1.cell? ⟨w.heap.size, 1, none⟩ = some (pl) := cells_of hb1 1
      have a2 : w1.cell? ⟨w.heap.size, 2, none⟩ = some (pm) := cells_of hb1 2
      have hc := hE1.keep (cells_of h2 0)
      have hA := Ext.refl w1
      have hl2 : w.heap.size + 1 < w1.heap.size := by omega
      clear hb1 hs1
      go_wp2_with (first | (go_at_call 147; refine isFloat_c h4 _ ?_; intro w2 hE; dsimp only [T.isFloat, T.isInt, T.isString, T.isBool, T.isList, T.isMap]; replace hc := hE.keep hc; replace a0 := hE.keep a0; replace a1 := hE.keep a1; replace a2 := hE.keep a2; replace hz := (hE.below.block _ hl2).trans hz; replace hl2 := Nat.lt_of_lt_of_le hl2 hE.size; replace hA := hA.trans hE; clear hE) | (go_at_call 148; refine isInt_c h4 _ ?_; intro w2 hE; dsimp only [T.isFloat, T.isInt, T.isString, T.isBool, T.isList, T.isMap]; replace hc := hE.keep hc; replace a0 := hE.keep a0; replace a1 := hE.keep a1; replace a2 := hE.keep a2; replace hz := (hE.below.block _ hl2).trans hz; replace hl2 := Nat.lt_of_lt_of_le hl2 hE.size; replace hA := hA.trans hE; clear hE) | (go_at_call 152; refine isString_c h4 _ ?_; intro w2 hE; dsimp only [T.isFloat, T.isInt, T.isString, T.isBool, T.isList, T.isMap]; replace hc := hE.keep hc; replace a0 := hE.keep a0; replace a1 := hE.keep a1; replace a2 := hE.keep a2; replace hz := (hE.below.block _ hl2).trans hz; replace hl2 := Nat.lt_of_lt_of_le hl2 hE.size; replace hA := hA.trans hE; clear hE) | (go_at_call 146; refine isBool_c h4 _ ?_; intro w2 hE; dsimp only [T.isFloat, T.isInt, T.isString, T.isBool, T.isList, T.isMap]; replace hc := hE.keep hc; replace a0 := hE.keep a0; replace a1 := hE.keep a1; replace a2 := hE.keep a2; replace hz := (hE.below.block _ hl2).trans hz; replace hl2 := Nat.lt_of_lt_of_le hl2 hE.size; replace hA := hA.trans hE; clear hE) | (go_at_call 149; refine isList_c h4 _ ?_; intro w2 hE; dsimp only [T.isFloat, T.isInt, T.isString, T.isBool, T.isList, T.isMap]; replace hc := hE.keep hc; replace a0 := hE.keep a0; replace a1 := hE.keep a1; replace a2 := hE.keep a2; replace hz := (hE.below.block _ hl2).trans hz; replace hl2 := Nat.lt_of_lt_of_le hl2 hE.size; replace hA := hA.trans hE; clear hE) | (go_at_call 150; refine isMap_c h4 _ ?_; intro w2 hE; dsimp only [T.isFloat, T.isInt, T.isString, T.isBool, T.isList, T.isMap]; replace hc := hE.keep hc; replace a0 := hE.keep a0; replace a1 := hE.keep a1; replace a2 := hE.keep a2; replace hz := (hE.below.block _ hl2).trans hz; replace hl2 := Nat.lt_of_lt_of_le hl2 hE.size; replace hA := hA.trans hE; clear hE) | (refine wpL_storeRow (cells := #[.pointer (some ⟨pb, po1, none⟩), .pointer none, .pointer none]) rfl 101 _ _ rfl Try.size101 rfl rfl hz rfl (by simp [po]; try rfl) ?_; intro w6 h6 g6) | go_in)
      have z0 : w6.cell? ⟨w.heap.size + 1, 0, none⟩ = some (.pointer (some ⟨pb, po1, none⟩)) := cells_of h6 0
      have z1 : w6.cell? ⟨w.heap.size + 1, 1, none⟩ = some (.pointer none) := cells_of h6 1
      have z2 : w6.cell? ⟨w.heap.size + 1, 2, none⟩ = some (.pointer none) := cells_of h6 2
      refine bodyPost_ret (by simp [results, Try.results85, go_sem, z0, z1, z2]; try rfl) rfl ?_
      have hE : Ext w w6 := (hE1.trans hA).grown g6 (fun j hj => by cases hj; omega)
      exact hR'.out w6 [.pointer (some ⟨pb, po1, none⟩), .pointer none, .pointer none] hE ⟨_, _, _, rfl, hs'.out.mv (hE.mv _), rfl, rfl⟩
  case float =>
    cases s with
    | none =>
      obtain rfl : ps = .pointer none := hs'.out
      go_enter Try.func85, Try.ntmps85
      go_upto_if 5 with (fail)
      refine abs2 (G := Code.wp _ _ _ _) ?_
      intro w1 hE1 hb1 hz hs1
      have a0 : w1.cell? ⟨w.heap.size, 0, none⟩ = some (.pointer none) := cells_of hb1 0
      have a1 : w1.cell? ⟨w.heap.size, 1, none⟩ = some (pl) := cells_of hb1 1
      have a2 : w1.cell? ⟨w.heap.size, 2, none⟩ = some (pm) := cells_of hb1 2
      have hc := hE1.keep (cells_of h2 0)
      have hA := Ext.refl w1
      have hl2 : w.heap.size + 1 < w1.heap.size := by omega
      clear hb1 hs1
      go_wp2_with (first | (go_at_call 147; refine isFloat_c h4 _ ?_; intro w2 hE; dsimp only [T.isFloat, T.isInt, T.isString, T.isBool, T.isList, T.isMap]; replace hc := hE.keep hc; replace a0 := hE.keep a0; replace a1 := hE.keep a1; replace a2 := hE.keep a2; replace hz := (hE.below.block _ hl2).trans hz; replace hl2 := Nat.lt_of_lt_of_le hl2 hE.size; replace hA := hA.trans hE; clear hE) | (go_at_call 148; refine isInt_c h4 _ ?_; intro w2 hE; dsimp only [T.isFloat, T.isInt, T.isString, T.isBool, T.isList, T.isMap]; replace hc := hE.keep hc; replace a0 := hE.keep a0; replace a1 := hE.keep a1; replace a2 := hE.keep a2; replace hz := (hE.below.block _ hl2).trans hz; replace hl2 := Nat.lt_of_lt_of_le hl2 hE.size; replace hA := hA.trans hE; clear hE) | (go_at_call 152; refine isString_c h4 _ ?_; intro w2 hE; dsimp only [T.isFloat, T.isInt, T.isString, T.isBool, T.isList, T.isMap]; replace hc := hE.keep hc; replace a0 := hE.keep a0; replace a1 := hE.keep a1; replace a2 := hE.keep a2; replace hz := (hE.below.block _ hl2).trans hz; replace hl2 := Nat.lt_of_lt_of_le hl2 hE.size; replace hA := hA.trans hE; clear hE) | (go_at_call 146; refine isBool_c h4 _ ?_; intro w2 hE; dsimp only [T.isFloat, T.isInt, T.isString, T.isBool, T.isList, T.isMap]; replace hc := hE.keep hc; replace a0 := hE.keep a0; replace a1 := hE.keep a1; replace a2 := hE.keep a2; replace hz := (hE.below.block _ hl2).trans hz; replace hl2 := Nat.lt_of_lt_of_le hl2 hE.size; replace hA := hA.trans hE; clear hE) | (go_at_call 149; refine isList_c h4 _ ?_; intro w2 hE; dsimp only [T.isFloat, T.isInt, T.isString, T.isBool, T.isList, T.isMap]; replace hc := hE.keep hc; replace a0 := hE.keep a0; replace a1 := hE.keep a1; replace a2 := hE.keep a2; replace hz := (hE.below.block _ hl2).trans hz; replace hl2 := Nat.lt_of_lt_of_le hl2 hE.size; replace hA := hA.trans hE; clear hE) | (go_at_call 150; refine isMap_c h4 _ ?_; intro w2 hE; dsimp only [T.isFloat, T.isInt, T.isString, T.isBool, T.isList, T.isMap]; replace hc := hE.keep hc; replace a0 := hE.keep a0; replace a1 := hE.keep a1; replace a2 := hE.keep a2; replace hz := (hE.below.block _ hl2).trans hz; replace hl2 := Nat.lt_of_lt_of_le hl2 hE.size; replace hA := hA.trans hE; clear hE) | (refine wpL_storeRow (cells := #[.pointer none, pl, pm]) rfl 101 _ _ rfl Try.size101 rfl rfl hz rfl (by simp [po, pl1, pm1]; try rfl) ?_; intro w6 h6 g6) | go_in)
      have z0 : w6.cell? ⟨w.heap.size + 1, 0, none⟩ = some (.pointer none) := cells_of h6 0
      have z1 : w6.cell? ⟨w.heap.size + 1, 1, none⟩ = some (pl) := cells_of h6 1
      have z2 : w6.cell? ⟨w.heap.size + 1, 2, none⟩ = some (pm) := cells_of h6 2
      refine bodyPost_ret (by simp [results, Try.results85, go_sem, z0, z1, z2]; try rfl) rfl ?_
      have hE : Ext w w6 := (hE1.trans hA).grown g6 (fun j hj => by cases hj; omega)
      exact hR'.out w6 [.pointer none, pl, pm] hE ⟨_, _, _, rfl, hs'.out.mv (hE.mv _), hl'.out.mv (hE.mv _), hm'.out.mv (hE.mv _)⟩
    | some q =>
      obtain ⟨pb, po1, pc, rfl, -⟩ := id hs'.out
      go_enter Try.func85, Try.ntmps85
      go_upto_if 5 with (fail)
      refine abs2 (G := Code.wp _ _ _ _) ?_
      intro w1 hE1 hb1 hz hs1
      have a0 : w1.cell? ⟨w.heap.size, 0, none⟩ = some (.pointer (some ⟨pb, po1, none⟩)) := cells_of hb1 0
      have a1 : w1.cell? ⟨w.heap.size, 1, none⟩ = some (pl) := cells_of hb1 1
      have a2 : w1.cell? ⟨w.heap.size, 2, none⟩ = some (pm) := cells_of hb1 2
      have hc := hE1.keep (cells_of h2 0)
      have hA := Ext.refl w1
      have hl2 : w.heap.size + 1 < w1.heap.size := by omega
      clear hb1 hs1
      go_wp2_with (first | (go_at_call 147; refine isFloat_c h4 _ ?_; intro w2 hE; dsimp only [T.isFloat, T.isInt, T.isString, T.isBool, T.isList, T.isMap]; replace hc := hE.keep hc; replace a0 := hE.keep a0; replace a1 := hE.keep a1; replace a2 := hE.keep a2; replace hz := (hE.below.block _ hl2).trans hz; replace hl2 := Nat.lt_of_lt_of_le hl2 hE.size; replace hA := hA.trans hE; clear hE) | (go_at_call 148; refine isInt_c h4 _ ?_; intro w2 hE; dsimp only [T.isFloat, T.isInt, T.isString, T.isBool, T.isList, T.isMap]; replace hc := hE.keep hc; replace a0 := hE.keep a0; replace a1 := hE.keep a1; replace a2 := hE.keep a2; replace hz := (hE.below.block _ hl2).trans hz; replace hl2 := Nat.lt_of_lt_of_le hl2 hE.size; replace hA := hA.trans hE; clear hE) | (go_at_call 152; refine isString_c h4 _ ?_; intro w2 hE; dsimp only [T.isFloat, T.isInt, T.isString, T.isBool, T.isList, T.isMap]; replace hc := hE.keep hc; replace a0 := hE.keep a0; replace a1 := hE.keep a1; replace a2 := hE.keep a2; replace hz := (hE.below.block _ hl2).trans hz; replace hl2 := Nat.lt_of_lt_of_le hl2 hE.size; replace hA := hA.trans hE; clear hE) | (go_at_call 146; refine isBool_c h4 _ ?_; intro w2 hE; dsimp only [T.isFloat, T.isInt, T.isString, T.isBool, T.isList, T.isMap]; replace hc := hE.keep hc; replace a0 := hE.keep a0; replace a1 := hE.keep a1; replace a2 := hE.keep a2; replace hz := (hE.below.block _ hl2).trans hz; replace hl2 := Nat.lt_of_lt_of_le hl2 hE.size; replace hA := hA.trans hE; clear hE) | (go_at_call 149; refine isList_c h4 _ ?_; intro w2 hE; dsimp only [T.isFloat, T.isInt, T.isString, T.isBool, T.isList, T.isMap]; replace hc := hE.keep hc; replace a0 := hE.keep a0; replace a1 := hE.keep a1; replace a2 := hE.keep a2; replace hz := (hE.below.block _ hl2).trans hz; replace hl2 := Nat.lt_of_lt_of_le hl2 hE.size; replace hA := hA.trans hE; clear hE) | (go_at_call 150; refine isMap_c h4 _ ?_; intro w2 hE; dsimp only [T.isFloat, T.isInt, T.isString, T.isBool, T.isList, T.isMap]; replace hc := hE.keep hc; replace a0 := hE.keep a0; replace a1 := hE.keep a1; replace a2 := hE.keep a2; replace hz := (hE.below.block _ hl2).trans hz; replace hl2 := Nat.lt_of_lt_of_le hl2 hE.size; replace hA := hA.trans hE; clear hE) | (refine wpL_storeRow (cells := #[.pointer (some ⟨pb, po1, none⟩), .pointer none, .pointer none]) rfl 101 _ _ rfl Try.size101 rfl rfl hz rfl (by simp [po]; try rfl) ?_; intro w6 h6 g6) | go_in)
      have z0 : w6.cell? ⟨w.heap.size + 1, 0, none⟩ = some (.pointer (some ⟨pb, po1, none⟩)) := cells_of h6 0
      have z1 : w6.cell? ⟨w.heap.size + 1, 1, none⟩ = some (.pointer none) := cells_of h6 1
      have z2 : w6.cell? ⟨w.heap.size + 1, 2, none⟩ = some (.pointer none) := cells_of h6 2
      refine bodyPost_ret (by simp [results, Try.results85, go_sem, z0, z1, z2]; try rfl) rfl ?_
      have hE : Ext w w6 := (hE1.trans hA).grown g6 (fun j hj => by cases hj; omega)
      exact hR'.out w6 [.pointer (some ⟨pb, po1, none⟩), .pointer none, .pointer none] hE ⟨_, _, _, rfl, hs'.out.mv (hE.mv _), rfl, rfl⟩
  case str =>
    cases s with
    | none =>
      obtain rfl : ps = .pointer none := hs'.out
      go_enter Try.func85, Try.ntmps85
      go_upto_if 5 with (fail)
      refine abs2 (G := Code.wp _ _ _ _) ?_
      intro w1 hE1 hb1 hz hs1
      have a0 : w1.cell? ⟨w.heap.size, 0, none⟩ = some (.pointer none) := cells_of hb1 0
      have a1 : w1.cell? ⟨w.heap.size, 1, none⟩ = some (pl) := cells_of hb1 1
      have a2 : w1.cell? ⟨w.heap.size, 2, none⟩ = some (pm) := cells_of hb1 2
      have hc := hE1.keep (cells_of h2 0)
      have hA := Ext.refl w1
      have hl2 : w.heap.size + 1 < w1.heap.size := by omega
      clear hb1 hs1
      go_wp2_with (first | (go_at_call 147; refine isFloat_c h4 _ ?_; intro w2 hE; dsimp only [T.isFloat, T.isInt, T.isString, T.isBool, T.isList, T.isMap]; replace hc := hE.keep hc; replace a0 := hE.keep a0; replace a1 := hE.keep a1; replace a2 := hE.keep a2; replace hz := (hE.below.block _ hl2).trans hz; replace hl2 := Nat.lt_of_lt_of_le hl2 hE.size; replace hA := hA.trans hE; clear hE) | (go_at_call 148; refine isInt_c h4 _ ?_; intro w2 hE; dsimp only [T.isFloat, T.isInt, T.isString, T.isBool, T.isList, T.isMap]; replace hc := hE.keep hc; replace a0 := hE.keep a0; replace a1 := hE.keep a1; replace a2 := hE.keep a2; replace hz := (hE.below.block _ hl2).trans hz; replace hl2 := Nat.lt_of_lt_of_le hl2 hE.size; replace hA := hA.trans hE; clear hE) | (go_at_call 152; refine isString_c h4 _ ?_; intro w2 hE; dsimp only [T.isFloat, T.isInt, T.isString, T.isBool, T.isList, T.isMap]; replace hc := hE.keep hc; replace a0 := hE.keep a0; replace a1 := hE.keep a1; replace a2 := hE.keep a2; replace hz := (hE.below.block _ hl2).trans hz; replace hl2 := Nat.lt_of_lt_of_le hl2 hE.size; replace hA := hA.trans hE; clear hE) | (go_at_call 146; refine isBool_c h4 _ ?_; intro w2 hE; dsimp only [T.isFloat, T.isInt, T.isString, T.isBool, T.isList, T.isMap]; replace hc := hE.keep hc; replace a0 := hE.keep a0; replace a1 := hE.keep a1; replace a2 := hE.keep a2; replace hz := (hE.below.block _ hl2).trans hz; replace hl2 := Nat.lt_of_lt_of_le hl2 hE.size; replace hA := hA.trans hE; clear hE) | (go_at_call 149; refine isList_c h4 _ ?_; intro w2 hE; dsimp only [T.isFloat, T.isInt, T.isString, T.isBool, T.isList, T.isMap]; replace hc := hE.keep hc; replace a0 := hE.keep a0; replace a1 := hE.keep a1; replace a2 := hE.keep a2; replace hz := (hE.below.block _ hl2).trans hz; replace hl2 := Nat.lt_of_lt_of_le hl2 hE.size; replace hA := hA.trans hE; clear hE) | (go_at_call 150; refine isMap_c h4 _ ?_; intro w2 hE; dsimp only [T.isFloat, T.isInt, T.isString, T.isBool, T.isList, T.isMap]; replace hc := hE.keep hc; replace a0 := hE.keep a0; replace a1 := hE.keep a1; replace a2 := hE.keep a2; replace hz := (hE.below.block _ hl2).trans hz; replace hl2 := Nat.lt_of_lt_of_le hl2 hE.size; replace hA := hA.trans hE; clear hE) | (refine wpL_storeRow (cells := #[.pointer none, pl, pm]) rfl 101 _ _ rfl Try.size101 rfl rfl hz rfl (by simp [po, pl1, pm1]; try rfl) ?_; intro w6 h6 g6) | go_in)
      have z0 : w6.cell? ⟨w.heap.size + 1, 0, none⟩ = some (.pointer none) := cells_of h6 0
      have z1 : w6.cell? ⟨w.heap.size + 1, 1, none⟩ = some (pl) := cells_of h6 1
      have z2 : w6.cell? ⟨w.heap.size + 1, 2, none⟩ = some (pm) := cells_of h6 2
      refine bodyPost_ret (by simp [results, Try.results85, go_sem, z0, z1, z2]; try rfl) rfl ?_
      have hE : Ext w w6 := (hE1.trans hA).grown g6 (fun j hj => by cases hj; omega)
      exact hR'.out w6 [.pointer none, pl, pm] hE ⟨_, _, _, rfl, hs'.out.mv (hE.mv _), hl'.out.mv (hE.mv _), hm'.out.mv (hE.mv _)⟩
    | some q =>
      obtain ⟨pb, po1, pc, rfl, -⟩ := id hs'.out
      go_enter Try.func85, Try.ntmps85
      go_upto_if 5 with (fail)
      refine abs2 (G := Code.wp _ _ _ _) ?_
      intro w1 hE1 hb1 hz hs1
      have a0 : w1.cell? ⟨w.heap.size, 0, none⟩ = some (.pointer (some ⟨pb, po1, none⟩)) := cells_of hb1 0
      have a1 : w1.cell? ⟨w.heap.size, 1, none⟩ = some (pl) := cells_of hb1 1
      have a2 : w1.cell? ⟨w.heap.size, 2, none⟩ = some (pm) := cells_of hb1 2
      have hc := hE1.keep (cells_of h2 0)
      have hA := Ext.refl w1
      have hl2 : w.heap.size + 1 < w1.heap.size := by omega
      clear hb1 hs1
      go_wp2_with (first | (go_at_call 147; refine isFloat_c h4 _ ?_; intro w2 hE; dsimp only [T.isFloat, T.isInt, T.isString, T.isBool, T.isList, T.isMap]; replace hc := hE.keep hc; replace a0 := hE.keep a0; replace a1 := hE.keep a1; replace a2 := hE.keep a2; replace hz := (hE.below.block _ hl2).trans hz; replace hl2 := Nat.lt_of_lt_of_le hl2 hE.size; replace hA := hA.trans hE; clear hE) | (go_at_call 148; refine isInt_c h4 _ ?_; intro w2 hE; dsimp only [T.isFloat, T.isInt, T.isString, T.isBool, T.isList, T.isMap]; replace hc := hE.keep hc; replace a0 := hE.keep a0; replace a1 := hE.keep a1; replace a2 := hE.keep a2; replace hz := (hE.below.block _ hl2).trans hz; replace hl2 := Nat.lt_of_lt_of_le hl2 hE.size; replace hA := hA.trans hE; clear hE) | (go_at_call 152; refine isString_c h4 _ ?_; intro w2 hE; dsimp only [T.isFloat, T.isInt, T.isString, T.isBool, T.isList, T.isMap]; replace hc := hE.keep hc; replace a0 := hE.keep a0; replace a1 := hE.keep a1; replace a2 := hE.keep a2; replace hz := (hE.below.block _ hl2).trans hz; replace hl2 := Nat.lt_of_lt_of_le hl2 hE.size; replace hA := hA.trans hE; clear hE) | (go_at_call 146; refine isBool_c h4 _ ?_; intro w2 hE; dsimp only [T.isFloat, T.isInt, T.isString, T.isBool, T.isList, T.isMap]; replace hc := hE.keep hc; replace a0 := hE.keep a0; replace a1 := hE.keep a1; replace a2 := hE.keep a2; replace hz := (hE.below.block _ hl2).trans hz; replace hl2 := Nat.lt_of_lt_of_le hl2 hE.size; replace hA := hA.trans hE; clear hE) | (go_at_call 149; refine isList_c h4 _ ?_; intro w2 hE; dsimp only [T.isFloat, T.isInt, T.isString, T.isBool, T.isList, T.isMap]; replace hc := hE.keep hc; replace a0 := hE.keep a0; replace a1 := hE.keep a1; replace a2 := hE.keep a2; replace hz := (hE.below.block _ hl2).trans hz; replace hl2 := Nat.lt_of_lt_of_le hl2 hE.size; replace hA := hA.trans hE; clear hE) | (go_at_call 150; refine isMap_c h4 _ ?_; intro w2 hE; dsimp only [T.isFloat, T.isInt, T.isString, T.isBool, T.isList, T.isMap]; replace hc := hE.keep hc; replace a0 := hE.keep a0; replace a1 := hE.keep a1; replace a2 := hE.keep a2; replace hz := (hE.below.block _ hl2).trans hz; replace hl2 := Nat.lt_of_lt_of_le hl2 hE.size; replace hA := hA.trans hE; clear hE) | (refine wpL_storeRow (cells := #[.pointer (some ⟨pb, po1, none⟩), .pointer none, .pointer none]) rfl 101 _ _ rfl Try.size101 rfl rfl hz rfl (by simp [po]; try rfl) ?_; intro w6 h6 g6) | go_in)
      have z0 : w6.cell? ⟨w.heap.size + 1, 0, none⟩ = some (.pointer (some ⟨pb, po1, none⟩)) := cells_of h6 0
      have z1 : w6.cell? ⟨w.heap.size + 1, 1, none⟩ = some (.pointer none) := cells_of h6 1
      have z2 : w6.cell? ⟨w.heap.size + 1, 2, none⟩ = some (.pointer none) := cells_of h6 2
      refine bodyPost_ret (by simp [results, Try.results85, go_sem, z0, z1, z2]; try rfl) rfl ?_
      have hE : Ext w w6 := (hE1.trans hA).grown g6 (fun j hj => by cases hj; omega)
      exact hR'.out w6 [.pointer (some ⟨pb, po1, none⟩), .pointer none, .pointer none] hE ⟨_, _, _, rfl, hs'.out.mv (hE.mv _), rfl, rfl⟩
  case list =>
    cases l with
    | none =>
      obtain rfl : pl = .pointer none := hl'.out
      go_enter Try.func85, Try.ntmps85
      go_upto_if 5 with (fail)
      refine abs2 (G := Code.wp _ _ _ _) ?_
      intro w1 hE1 hb1 hz hs1
      have a0 : w1.cell? ⟨w.heap.size, 0, none⟩ = some (ps) := cells_of hb1 0
      have a1 : w1.cell? ⟨w.heap.size, 1, none⟩ = some (.pointer none) := cells_of hb1 1
      have a2 : w1.cell? ⟨w.heap.size, 2, none⟩ = some (pm) := cells_of hb1 2
      have hc := hE1.keep (cells_of h2 0)
      have hA := Ext.refl w1
      have hl2 : w.heap.size + 1 < w1.heap.size := by omega
      clear hb1 hs1
      go_wp2_with (first | (go_at_call 147; refine isFloat_c h4 _ ?_; intro w2 hE; dsimp only [T.isFloat, T.isInt, T.isString, T.isBool, T.isList, T.isMap]; replace hc := hE.keep hc; replace a0 := hE.keep a0; replace a1 := hE.keep a1; replace a2 := hE.keep a2; replace hz := (hE.below.block _ hl2).trans hz; replace hl2 := Nat.lt_of_lt_of_le hl2 hE.size; replace hA := hA.trans hE; clear hE) | (go_at_call 148; refine isInt_c h4 _ ?_; intro w2 hE; dsimp only [T.isFloat, T.isInt, T.isString, T.isBool, T.isList, T.isMap]; replace hc := hE.keep hc; replace a0 := hE.keep a0; replace a1 := hE.keep a1; replace a2 := hE.keep a2; replace hz := (hE.below.block _ hl2).trans hz; replace hl2 := Nat.lt_of_lt_of_le hl2 hE.size; replace hA := hA.trans hE; clear hE) | (go_at_call 152; refine isString_c h4 _ ?_; intro w2 hE; dsimp only [T.isFloat, T.isInt, T.isString, T.isBool, T.isList, T.isMap]; replace hc := hE.keep hc; replace a0 := hE.keep a0; replace a1 := hE.keep a1; replace a2 := hE.keep a2; replace hz := (hE.below.block _ hl2).trans hz; replace hl2 := Nat.lt_of_lt_of_le hl2 hE.size; replace hA := hA.trans hE; clear hE) | (go_at_call 146; refine isBool_c h4 _ ?_; intro w2 hE; dsimp only [T.isFloat, T.isInt, T.isString, T.isBool, T.isList, T.isMap]; replace hc := hE.keep hc; replace a0 := hE.keep a0; replace a1 := hE.keep a1; replace a2 := hE.keep a2; replace hz := (hE.below.block _ hl2).trans hz; replace hl2 := Nat.lt_of_lt_of_le hl2 hE.size; replace hA := hA.trans hE; clear hE) | (go_at_call 149; refine isList_c h4 _ ?_; intro w2 hE; dsimp only [T.isFloat, T.isInt, T.isString, T.isBool, T.isList, T.isMap]; replace hc := hE.keep hc; replace a0 := hE.keep a0; replace a1 := hE.keep a1; replace a2 := hE.keep a2; replace hz := (hE.below.block _ hl2).trans hz; replace hl2 := Nat.lt_of_lt_of_le hl2 hE.size; replace hA := hA.trans hE; clear hE) | (go_at_call 150; refine isMap_c h4 _ ?_; intro w2 hE; dsimp only [T.isFloat, T.isInt, T.isString, T.isBool, T.isList, T.isMap]; replace hc := hE.keep hc; replace a0 := hE.keep a0; replace a1 := hE.keep a1; replace a2 := hE.keep a2; replace hz := (hE.below.block _ hl2).trans hz; replace hl2 := Nat.lt_of_lt_of_le hl2 hE.size; replace hA := hA.trans hE; clear hE) | (refine wpL_storeRow (cells := #[ps, .pointer none, pm]) rfl 101 _ _ rfl Try.size101 rfl rfl hz rfl (by simp [po, pl1, pm1]; try rfl) ?_; intro w6 h6 g6) | go_in)
      have z0 : w6.cell? ⟨w.heap.size + 1, 0, none⟩ = some (ps) := cells_of h6 0
      have z1 : w6.cell? ⟨w.heap.size + 1, 1, none⟩ = some (.pointer none) := cells_of h6 1
      have z2 : w6.cell? ⟨w.heap.size + 1, 2, none⟩ = some (pm) := cells_of h6 2
      refine bodyPost_ret (by simp [results, Try.results85, go_sem, z0, z1, z2]; try rfl) rfl ?_
      have hE : Ext w w6 := (hE1.trans hA).grown g6 (fun j hj => by cases hj; omega)
      exact hR'.out w6 [ps, .pointer none, pm] hE ⟨_, _, _, rfl, hs'.out.mv (hE.mv _), hl'.out.mv (hE.mv _), hm'.out.mv (hE.mv _)⟩
    | some q =>
      obtain ⟨pb, po1, pc, rfl, -⟩ := id hl'.out
      go_enter Try.func85, Try.ntmps85
      go_upto_if 5 with (fail)
      refine abs2 (G := Code.wp _ _ _ _) ?_
      intro w1 hE1 hb1 hz hs1
      have a0 : w1.cell? ⟨w.heap.size, 0, none⟩ = some (ps) := cells_of hb1 0
      have a1 : w1.cell? ⟨w.heap.size, 1, none⟩ = some (.pointer (some ⟨pb, po1, none⟩)) := cells_of hb1 1
      have a2 : w1.cell? ⟨w.heap.size, 2, none⟩ = some (pm) := cells_of hb1 2
      have hc := hE1.keep (cells_of h2 0)
      have hA := Ext.refl w1
      have hl2 : w.heap.size + 1 < w1.heap.size := by omega
      clear hb1 hs1
      go_wp2_with (first | (go_at_call 147; refine isFloat_c h4 _ ?_; intro w2 hE; dsimp only [T.isFloat, T.isInt, T.isString, T.isBool, T.isList, T.isMap]; replace hc := hE.keep hc; replace a0 := hE.keep a0; replace a1 := hE.keep a1; replace a2 := hE.keep a2; replace hz := (hE.below.block _ hl2).trans hz; replace hl2 := Nat.lt_of_lt_of_le hl2 hE.size; replace hA := hA.trans hE; clear hE) | (go_at_call 148; refine isInt_c h4 _ ?_; intro w2 hE; dsimp only [T.isFloat, T.isInt, T.isString, T.isBool, T.isList, T.isMap]; replace hc := hE.keep hc; replace a0 := hE.keep a0; replace a1 := hE.keep a1; replace a2 := hE.keep a2; replace hz := (hE.below.block _ hl2).trans hz; replace hl2 := Nat.lt_of_lt_of_le hl2 hE.size; replace hA := hA.trans hE; clear hE) | (go_at_call 152; refine isString_c h4 _ ?_; intro w2 hE; dsimp only [T.isFloat, T.isInt, T.isString, T.isBool, T.isList, T.isMap]; replace hc := hE.keep hc; replace a0 := hE.keep a0; replace a1 := hE.keep a1; replace a2 := hE.keep a2; replace hz := (hE.below.block _ hl2).trans hz; replace hl2 := Nat.lt_of_lt_of_le hl2 hE.size; replace hA := hA.trans hE; clear hE) | (go_at_call 146; refine isBool_c h4 _ ?_; intro w2 hE; dsimp only [T.isFloat, T.isInt, T.isString, T.isBool, T.isList, T.isMap]; replace hc := hE.keep hc; replace a0 := hE.keep a0; replace a1 := hE.keep a1; replace a2 := hE.keep a2; replace hz := (hE.below.block _ hl2).trans hz; replace hl2 := Nat.lt_of_lt_of_le hl2 hE.size; replace hA := hA.trans hE; clear hE) | (go_at_call 149; refine isList_c h4 _ ?_; intro w2 hE; dsimp only [T.isFloat, T.isInt, T.isString, T.isBool, T.isList, T.isMap]; replace hc := hE.keep hc; replace a0 := hE.keep a0; replace a1 := hE.keep a1; replace a2 := hE.keep a2; replace hz := (hE.below.block _ hl2).trans hz; replace hl2 := Nat.lt_of_lt_of_le hl2 hE.size; replace hA := hA.trans hE; clear hE) | (go_at_call 150; refine isMap_c h4 _ ?_; intro w2 hE; dsimp only [T.isFloat, T.isInt, T.isString, T.isBool, T.isList, T.isMap]; replace hc := hE.keep hc; replace a0 := hE.keep a0; replace a1 := hE.keep a1; replace a2 := hE.keep a2; replace hz := (hE.below.block _ hl2).trans hz; replace hl2 := Nat.lt_of_lt_of_le hl2 hE.size; replace hA := hA.trans hE; clear hE) | (refine wpL_storeRow (cells := #[.pointer none, .pointer (some ⟨pb, po1, none⟩), .pointer none]) rfl 101 _ _ rfl Try.size101 rfl rfl hz rfl (by simp [pl1]; try rfl) ?_; intro w6 h6 g6) | go_in)
      have z0 : w6.cell? ⟨w.heap.size + 1, 0, none⟩ = some (.pointer none) := cells_of h6 0
      have z1 : w6.cell? ⟨w.heap.size + 1, 1, none⟩ = some (.pointer (some ⟨pb, po1, none⟩)) := cells_of h6 1
      have z2 : w6.cell? ⟨w.heap.size + 1, 2, none⟩ = some (.pointer none) := cells_of h6 2
      refine bodyPost_ret (by simp [results, Try.results85, go_sem, z0, z1, z2]; try rfl) rfl ?_
      have hE : Ext w w6 := (hE1.trans hA).grown g6 (fun j hj => by cases hj; omega)
      exact hR'.out w6 [.pointer none, .pointer (some ⟨pb, po1, none⟩), .pointer none] hE ⟨_, _, _, rfl, rfl, hl'.out.mv (hE.mv _), rfl⟩
  case map =>
    cases m with
    | none =>
      obtain rfl : pm = .pointer none := hm'.out
      go_enter Try.func85, Try.ntmps85
      go_upto_if 5 with (fail)
      refine abs2 (G := Code.wp _ _ _ _) ?_
      intro w1 hE1 hb1 hz hs1
      have a0 : w1.cell? ⟨w.heap.size, 0, none⟩ = some (ps) := cells_of hb1 0
      have a1 : w1.cell? ⟨w.heap.size, 1, none⟩ = some (pl) := cells_of hb1 1
      have a2 : w1.cell? ⟨w.heap.size, 2, none⟩ = some (.pointer none) := cells_of hb1 2
      have hc := hE1.keep (cells_of h2 0)
      have hA := Ext.refl w1
      have hl2 : w.heap.size + 1 < w1.heap.size := by omega
      clear hb1 hs1
      go_wp2_with (first | (go_at_call 147; refine isFloat_c h4 _ ?_; intro w2 hE; dsimp only [T.isFloat, T.isInt, T.isString, T.isBool, T.isList, T.isMap]; replace hc := hE.keep hc; replace a0 := hE.keep a0; replace a1 := hE.keep a1; replace a2 := hE.keep a2; replace hz := (hE.below.block _ hl2).trans hz; replace hl2 := Nat.lt_of_lt_of_le hl2 hE.size; replace hA := hA.trans hE; clear hE) | (go_at_call 148; refine isInt_c h4 _ ?_; intro w2 hE; dsimp only [T.isFloat, T.isInt, T.isString, T.isBool, T.isList, T.isMap]; replace hc := hE.keep hc; replace a0 := hE.keep a0; replace a1 := hE.keep a1; replace a2 := hE.keep a2; replace hz := (hE.below.block _ hl2).trans hz; replace hl2 := Nat.lt_of_lt_of_le hl2 hE.size; replace hA := hA.trans hE; clear hE) | (go_at_call 152; refine isString_c h4 _ ?_; intro w2 hE; dsimp only [T.isFloat, T.isInt, T.isString, T.isBool, T.isList, T.isMap]; replace hc := hE.keep hc; replace a0 := hE.keep a0; replace a1 := hE.keep a1; replace a2 := hE.keep a2; replace hz := (hE.below.block _ hl2).trans hz; replace hl2 := Nat.lt_of_lt_of_le hl2 hE.size; replace hA := hA.trans hE; clear hE) | (go_at_call 146; refine isBool_c h4 _ ?_; intro w2 hE; dsimp only [T.isFloat, T.isInt, T.isString, T.isBool, T.isList, T.isMap]; replace hc := hE.keep hc; replace a0 := hE.keep a0; replace a1 := hE.keep a1; replace a2 := hE.keep a2; replace hz := (hE.below.block _ hl2).trans hz; replace hl2 := Nat.lt_of_lt_of_le hl2 hE.size; replace hA := hA.trans hE; clear hE) | (go_at_call 149; refine isList_c h4 _ ?_; intro w2 hE; dsimp only [T.isFloat, T.isInt, T.isString, T.isBool, T.isList, T.isMap]; replace hc := hE.keep hc; replace a0 := hE.keep a0; replace a1 := hE.keep a1; replace a2 := hE.keep a2; replace hz := (hE.below.block _ hl2).trans hz; replace hl2 := Nat.lt_of_lt_of_le hl2 hE.size; replace hA := hA.trans hE; clear hE) | (go_at_call 150; refine isMap_c h4 _ ?_; intro w2 hE; dsimp only [T.isFloat, T.isInt, T.isString, T.isBool, T.isList, T.isMap]; replace hc := hE.keep hc; replace a0 := hE.keep a0; replace a1 := hE.keep a1; replace a2 := hE.keep a2; replace hz := (hE.below.block _ hl2).trans hz; replace hl2 := Nat.lt_of_lt_of_le hl2 hE.size; replace hA := hA.trans hE; clear hE) | (refine wpL_storeRow (cells := #[ps, pl, .pointer none]) rfl 101 _ _ rfl Try.size101 rfl rfl hz rfl (by simp [po, pl1, pm1]; try rfl) ?_; intro w6 h6 g6) | go_in)
      have z0 : w6.cell? ⟨w.heap.size + 1, 0, none⟩ = some (ps) := cells_of h6 0
      have z1 : w6.cell? ⟨w.heap.size + 1, 1, none⟩ = some (pl) := cells_of h6 1
      have z2 : w6.cell? ⟨w.heap.size + 1, 2, none⟩ = some (.pointer none) := cells_of h6 2
      refine bodyPost_ret (by simp [results, Try.results85, go_sem, z0, z1, z2]; try rfl) rfl ?_
      have hE : Ext w w6 := (hE1.trans hA).grown g6 (fun j hj => by cases hj; omega)
      exact hR'.out w6 [ps, pl, .pointer none] hE ⟨_, _, _, rfl, hs'.out.mv (hE.mv _), hl'.out.mv (hE.mv _), hm'.out.mv (hE.mv _)⟩
    | some q =>
      obtain ⟨pb, po1, pc, rfl, -⟩ := id hm'.out
      go_enter Try.func85, Try.ntmps85
      go_upto_if 5 with (fail)
      refine abs2 (G := Code.wp _ _ _ _) ?_
      intro w1 hE1 hb1 hz hs1
      have a0 : w1.cell? ⟨w.heap.size, 0, none⟩ = some (ps) := cells_of hb1 0
      have a1 : w1.cell? ⟨w.heap.size, 1, none⟩ = some (pl) := cells_of hb1 1
      have a2 : w1.cell? ⟨w.heap.size, 2, none⟩ = some (.pointer (some ⟨pb, po1, none⟩)) := cells_of hb1 2
      have hc := hE1.keep (cells_of h2 0)
      have hA := Ext.refl w1
      have hl2 : w.heap.size + 1 < w1.heap.size := by omega
      clear hb1 hs1
      go_wp2_with (first | (go_at_call 147; refine isFloat_c h4 _ ?_; intro w2 hE; dsimp only [T.isFloat, T.isInt, T.isString, T.isBool, T.isList, T.isMap]; replace hc := hE.keep hc; replace a0 := hE.keep a0; replace a1 := hE.keep a1; replace a2 := hE.keep a2; replace hz := (hE.below.block _ hl2).trans hz; replace hl2 := Nat.lt_of_lt_of_le hl2 hE.size; replace hA := hA.trans hE; clear hE) | (go_at_call 148; refine isInt_c h4 _ ?_; intro w2 hE; dsimp only [T.isFloat, T.isInt, T.isString, T.isBool, T.isList, T.isMap]; replace hc := hE.keep hc; replace a0 := hE.keep a0; replace a1 := hE.keep a1; replace a2 := hE.keep a2; replace hz := (hE.below.block _ hl2).trans hz; replace hl2 := Nat.lt_of_lt_of_le hl2 hE.size; replace hA := hA.trans hE; clear hE) | (go_at_call 152; refine isString_c h4 _ ?_; intro w2 hE; dsimp only [T.isFloat, T.isInt, T.isString, T.isBool, T.isList, T.isMap]; replace hc := hE.keep hc; replace a0 := hE.keep a0; replace a1 := hE.keep a1; replace a2 := hE.keep a2; replace hz := (hE.below.block _ hl2).trans hz; replace hl2 := Nat.lt_of_lt_of_le hl2 hE.size; replace hA := hA.trans hE; clear hE) | (go_at_call 146; refine isBool_c h4 _ ?_; intro w2 hE; dsimp only [T.isFloat, T.isInt, T.isString, T.isBool, T.isList, T.isMap]; replace hc := hE.keep hc; replace a0 := hE.keep a0; replace a1 := hE.keep a1; replace a2 := hE.keep a2; replace hz := (hE.below.block _ hl2).trans hz; replace hl2 := Nat.lt_of_lt_of_le hl2 hE.size; replace hA := hA.trans hE; clear hE) | (go_at_call 149; refine isList_c h4 _ ?_; intro w2 hE; dsimp only [T.isFloat, T.isInt, T.isString, T.isBool, T.isList, T.isMap]; replace hc := hE.keep hc; replace a0 := hE.keep a0; replace a1 := hE.keep a1; replace a2 := hE.keep a2; replace hz := (hE.below.block _ hl2).trans hz; replace hl2 := Nat.lt_of_lt_of_le hl2 hE.size; replace hA := hA.trans hE; clear hE) | (go_at_call 150; refine isMap_c h4 _ ?_; intro w2 hE; dsimp only [T.isFloat, T.isInt, T.isString, T.isBool, T.isList, T.isMap]; replace hc := hE.keep hc; replace a0 := hE.keep a0; replace a1 := hE.keep a1; replace a2 := hE.keep a2; replace hz := (hE.below.block _ hl2).trans hz; replace hl2 := Nat.lt_of_lt_of_le hl2 hE.size; replace hA := hA.trans hE; clear hE) | (refine wpL_storeRow (cells := #[.pointer none, .pointer none, .pointer (some ⟨pb, po1, none⟩)]) rfl 101 _ _ rfl Try.size101 rfl rfl hz rfl (by simp [pm1]; try rfl) ?_; intro w6 h6 g6) | go_in)
      have z0 : w6.cell? ⟨w.heap.size + 1, 0, none⟩ = some (.pointer none) := cells_of h6 0
      have z1 : w6.cell? ⟨w.heap.size + 1, 1, none⟩ = some (.pointer none) := cells_of h6 1
      have z2 : w6.cell? ⟨w.heap.size + 1, 2, none⟩ = some (.pointer (some ⟨pb, po1, none⟩)) := cells_of h6 2
      refine bodyPost_ret (by simp [results, Try.results85, go_sem, z0, z1, z2]; try rfl) rfl ?_
      have hE : Ext w w6 := (hE1.trans hA).grown g6 (fun j hj => by cases hj; omega)
      exact hR'.out w6 [.pointer none, .pointer none, .pointer (some ⟨pb, po1, none⟩)] hE ⟨_, _, _, rfl, rfl, rfl, hm'.out.mv (hE.mv _)⟩

end Go.Proofs.Ytmihdlbcjiaibaa
