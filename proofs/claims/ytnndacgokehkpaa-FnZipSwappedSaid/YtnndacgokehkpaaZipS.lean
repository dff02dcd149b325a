/- impl.ZipMaps. -/
import Derived.Test.YtnndacgokehkpaaZipG
import Derived.Test.YtnndacgokehkpaaMapQ
import Derived.Test.YtnndacgokehkpaaConvQ
namespace Go.Proofs.Ytnndacgokehkpaa
open Go.RowKit
set_option linter.unusedSimpArgs false

/-- impl.Zipped -/
def kZp : Kind (ByteArray × List V × List V) where
  size := 3
  is := fun w X cs p => ∃ va vb, cs = [.string p.1, va, vb] ∧ IsVs w X va p.2.1 ∧ IsVs w X vb p.2.2
  mv := fun ⟨va, vb, h1, h2, h3⟩ m => ⟨va, vb, h1, h2.mv m, h3.mv m⟩
  len := fun ⟨va, vb, h1, _⟩ => by rw [h1]; rfl
  one := fun ⟨va, vb, h1, h2, h3⟩ u hu => by
    obtain ⟨o, c, _, _, rfl, _⟩ := h2.ex
    obtain ⟨o2, c2, _, _, rfl, _⟩ := h3.ex
    rw [h1] at hu
    simp only [List.mem_cons, List.not_mem_nil, or_false] at hu
    rcases hu with rfl | rfl | rfl <;> rfl

def optL : Option T → List V
  | none => []
  | some t => [t.back]
/-- what going over two maps tells at a key -/
def zr (P Q : EntsOfT T) (k : ByteArray) : ByteArray × List V × List V := (k, optL (getEnt k P), optL (getEnt k Q))

set_option maxRecDepth 100000 in
theorem Try.info31 : (Try.prog.info? 31).map (fun i => (i.zero, i.size, i.bytes)) = some (some (.agg #[.string ⟨#[]⟩, .slice none 0 0, .slice none 0 0]), 3, 64) := by kernel_rfl
theorem Try.info28 : (Try.prog.info? 28).map (fun i => (i.zero, i.size, i.bytes)) = some (some (.slice none 0 0), 1, 24) := by kernel_rfl

set_option maxRecDepth 100000 in
theorem callFunc_zip (args : Array Value) (w : World) : (callFunc 18 args).run Try.prog w = .ok (.enter 18 args) w := rfl


theorem zip_mut {w wz w8 w9 : World} {bo : Nat} {v : Value} (hE : Ext w wz) (h8 : wz.grownBy w8 v.ownBlock) (h9 : w8.grownBy w9 (some bo)) : Mut w (bo :: vb v) w9 :=
  ⟨h9.os.trans (h8.os.trans hE.below.os), h9.tape.trans (h8.tape.trans hE.below.tape), h9.output.trans (h8.output.trans hE.below.output), Nat.le_trans hE.size (Nat.le_trans h8.size h9.size), fun i hi hx => by
    simp only [List.mem_cons, not_or] at hx
    have h1 := Nat.lt_of_lt_of_le hi hE.size
    exact (h9.block i (Nat.lt_of_lt_of_le h1 h8.size) (fun e => hx.1 (Option.some.inj e))).trans ((h8.block i h1 (fun e => hx.2 (by simp [vb, ← e]))).trans (hE.below.block i hi))⟩

set_option maxRecDepth 100000 in
set_option maxHeartbeats 4000000 in
set_option pp.maxSteps 1000000 in
set_option pp.deepTerms true in
theorem zipFn_c {w : World} {bo : Nat} {v va vb' : Value} {k : ByteArray} {o p : Option T} {us : List (ByteArray × List V × List V)} (hb : w.heap[bo]? = some (.cells #[v] 28 (0, 0))) (hrow : Row kZp 31 w [bo] v us)
    (hva : OptVal w (vb v ++ [bo]) va o) (hvb : OptVal w (vb v ++ [bo]) vb' p) (hbytes : (us.length + 1) * 64 ≤ 140737488355328) (K : Ending → World → Prop)
    (hK : ∀ w2 v', Mut w (bo :: vb v) w2 → w2.heap[bo]? = some (.cells #[v'] 28 (0, 0)) → Row kZp 31 w2 [bo] v' (us ++ [(k, optL o, optL p)]) → (∀ g, v'.ownBlock = some g → v.ownBlock = some g ∨ w.heap.size ≤ g) → K (.returned (.bool true)) w2) :
    Calls Try.prog 18 #[.string k, va, vb', .pointer (some ⟨bo, 0, none⟩)] w K := by
  have hb4 : us.length + 1 ≤ maxLen := by rw [maxLen_eq]; omega
  have hvo := hrow.one
  have hbl : bo < w.heap.size := (Array.getElem?_eq_some_iff.1 hb).1
  have hO : Old (vb v ++ [bo]) w := hrow.old (.cons hbl (Old.nil _))
  have hK' := Lib.hid hK
  have hb' := Lib.hid hb
  have hrow' := Lib.hid hrow
  have hva' := Lib.hid hva
  have hvb2' := Lib.hid hvb
  have hO' := Lib.hid hO
  have hbl' := Lib.hid hbl
  have c0 : w.cell? ⟨bo, 0, none⟩ = some v := cells_of hb 0
  clear hK hb hrow hva hvb hO hbl
  rcases o with _ | ta <;> rcases p with _ | tb
  · -- 0 0
    obtain rfl : va = .nilIface := hva'.out
    obtain rfl : vb' = .nilIface := hvb2'.out
    go_enter Try.func18, Try.ntmps18
    go_upto_region 6 with fail
    refine abs1 (G := fun wr => Code.wp _ _ _ _ wr) ?_
    intro w1 hE1 hz1 hs1
    clear hs1
    have hA : IsVs w1 (w.heap.size :: (vb v ++ [bo])) (.slice none 0 0) (optL none) := IsVs.nil _ _
    have hB : IsVs w1 (w.heap.size :: (vb v ++ [bo])) (.slice none 0 0) (optL none) := IsVs.nil _ _
    have c0z := hE1.keep c0
    have hbz := Lib.hid ((hE1.below.block bo hbl'.out).trans hb'.out)
    have z0 : w1.cell? ⟨w.heap.size, 0, none⟩ = some (.string k) := cells_of hz1 0
    have z1 : w1.cell? ⟨w.heap.size, 1, none⟩ = some (.slice none 0 0) := cells_of hz1 1
    have z2 : w1.cell? ⟨w.heap.size, 2, none⟩ = some (.slice none 0 0) := cells_of hz1 2
    have hu := Lib.hid (show kZp.is w1 (vb v ++ [bo]) [.string k, .slice none 0 0, .slice none 0 0] (k, optL none, optL none) from ⟨_, _, rfl, hA.mv ((Mv.refl _ _).less fun b hb => List.mem_cons_of_mem _ hb), hB.mv ((Mv.refl _ _).less fun b hb => List.mem_cons_of_mem _ hb)⟩)
    have hEz := Lib.hid hE1
    have hXz := Lib.hid (show Old [bo] w1 from .cons (Nat.lt_of_lt_of_le hbl'.out hE1.size) (Old.nil _))
    clear hA hB
    go_wp2_with (first
      | (at_builtin; refine wpL_rowApp (c := #[.string k, .slice none 0 0, .slice none 0 0]) rfl hrow'.out hEz.out hXz.out hu.out _ _ _ rfl Try.underlying28 Try.info31 rfl (by decide) rfl rfl hbytes hb4 ?_; intro v' w8 hrow8 hg8 hne8 hd8; have hb8 := Lib.hid ((hg8.block bo (Nat.lt_of_lt_of_le hbl'.out hEz.out.size) (hrow'.out.notin (by simp))).trans hbz.out); have hvo8 := hrow8.one)
      | (refine wpL_storeC rfl 28 _ _ rfl Try.info28 (v := v') (new := #[v']) rfl rfl hvo8 hb8.out (by simp) rfl ?_; intro w9 hb9 hg9))
    exact hK'.out w9 v' (zip_mut hEz.out hg8 hg9) hb9 (hrow8.keep hg9 (by simp)) (fun g hg => (hd8 g hg).imp id fun h => Nat.le_trans hEz.out.size h)
  · -- 0 1
    obtain rfl : va = .nilIface := hva'.out
    obtain ⟨pb, xb, rfl, q1, q2, q3⟩ := hvb2'.out.ex
    clear q1 q2 q3
    go_enter Try.func18, Try.ntmps18
    go_wp2_with fail
    refine abs1 (G := fun wr => Calls _ _ _ wr _) ?_
    intro w1 hE1 hz1 hs1
    clear hs1
    refine fromValue_c (X := (w.heap.size :: (vb v ++ [bo]))) (IsVal.mv hvb2'.out ((hE1.mv _).more (Nat.le_refl _))) (.cons (Array.getElem?_eq_some_iff.1 hz1).1 (hO'.out.le hE1.size)) _ ?_
    intro wB csB hFB hdB
    obtain ⟨yB, rfl⟩ := hdB.shape
    have hltB : w.heap.size < wB.heap.size := Nat.lt_of_lt_of_le (Array.getElem?_eq_some_iff.1 hz1).1 hFB.size
    have hOZB : Old (w.heap.size :: (vb v ++ [bo])) wB := .cons hltB (hO'.out.le (hE1.trans hFB).size)
    have hqB' := Lib.hid ((alloc_old wB (.cells #[.int .i64 yB.kind, .int .i64 yB.n, .float .f64 yB.f, .string yB.s, .slice yB.ko yB.kn yB.kc, .slice yB.o yB.m yB.c] 26 (0, 0)) hltB).trans ((hFB.below.block _ (Array.getElem?_eq_some_iff.1 hz1).1).trans hz1))
    have hdB' := Lib.hid hdB
    have hOZB' := Lib.hid hOZB
    clear hdB hOZB
    dsimp only
    simp only [Cells6.list]
    go_upto_region 6 with (first | (refine wpL_storeC rfl 24 _ _ rfl Try.info24 (v := .slice (some ⟨wB.heap.size, 0, none⟩) 1 1) (new := #[.string k, .slice none 0 0, .slice (some ⟨wB.heap.size, 0, none⟩) 1 1]) rfl rfl rfl hqB'.out (by simp) rfl ?_; intro wBs hzB hgB))
    have hEB : Ext w wBs := (((hE1).trans hFB).push _).grown hgB (fun j hj => by cases hj; exact Nat.le_refl _)
    have hGB : Mv wB (w.heap.size :: (vb v ++ [bo])) wBs (w.heap.size :: (vb v ++ [bo])) := (((Ext.refl wB).push _).mv _).grown hgB (fun j hj => by cases hj; simp)
    have hSB : IsVs wBs (w.heap.size :: (vb v ++ [bo])) (.slice (some ⟨wB.heap.size, 0, none⟩) 1 1) [T.back tb] :=
      IsVs.single (y := yB) ((hgB.block _ (by simp) (fun e => by have := Option.some.inj e; omega)).trans (alloc_new _ _ rfl)) (fun h => by have := hOZB'.out _ h; omega) (hdB'.out.mv hGB)
    have hA : IsVs wBs (w.heap.size :: (vb v ++ [bo])) (.slice none 0 0) (optL none) := IsVs.nil _ _
    have hB : IsVs wBs (w.heap.size :: (vb v ++ [bo])) (.slice (some ⟨wB.heap.size, 0, none⟩) 1 1) (optL (some tb)) := hSB
    have c0z := hEB.keep c0
    have hbz := Lib.hid ((hEB.below.block bo hbl'.out).trans hb'.out)
    have z0 : wBs.cell? ⟨w.heap.size, 0, none⟩ = some (.string k) := cells_of hzB 0
    have z1 : wBs.cell? ⟨w.heap.size, 1, none⟩ = some (.slice none 0 0) := cells_of hzB 1
    have z2 : wBs.cell? ⟨w.heap.size, 2, none⟩ = some (.slice (some ⟨wB.heap.size, 0, none⟩) 1 1) := cells_of hzB 2
    have hu := Lib.hid (show kZp.is wBs (vb v ++ [bo]) [.string k, .slice none 0 0, .slice (some ⟨wB.heap.size, 0, none⟩) 1 1] (k, optL none, optL (some tb)) from ⟨_, _, rfl, hA.mv ((Mv.refl _ _).less fun b hb => List.mem_cons_of_mem _ hb), hB.mv ((Mv.refl _ _).less fun b hb => List.mem_cons_of_mem _ hb)⟩)
    have hEz := Lib.hid hEB
    have hXz := Lib.hid (show Old [bo] wBs from .cons (Nat.lt_of_lt_of_le hbl'.out hEB.size) (Old.nil _))
    clear hA hB
    go_wp2_with (first
      | (at_builtin; refine wpL_rowApp (c := #[.string k, .slice none 0 0, .slice (some ⟨wB.heap.size, 0, none⟩) 1 1]) rfl hrow'.out hEz.out hXz.out hu.out _ _ _ rfl Try.underlying28 Try.info31 rfl (by decide) rfl rfl hbytes hb4 ?_; intro v' w8 hrow8 hg8 hne8 hd8; have hb8 := Lib.hid ((hg8.block bo (Nat.lt_of_lt_of_le hbl'.out hEz.out.size) (hrow'.out.notin (by simp))).trans hbz.out); have hvo8 := hrow8.one)
      | (refine wpL_storeC rfl 28 _ _ rfl Try.info28 (v := v') (new := #[v']) rfl rfl hvo8 hb8.out (by simp) rfl ?_; intro w9 hb9 hg9))
    exact hK'.out w9 v' (zip_mut hEz.out hg8 hg9) hb9 (hrow8.keep hg9 (by simp)) (fun g hg => (hd8 g hg).imp id fun h => Nat.le_trans hEz.out.size h)
  · -- 1 0
    obtain ⟨pa, xa, rfl, q1, q2, q3⟩ := hva'.out.ex
    clear q1 q2 q3
    obtain rfl : vb' = .nilIface := hvb2'.out
    go_enter Try.func18, Try.ntmps18
    go_wp2_with fail
    refine abs1 (G := fun wr => Calls _ _ _ wr _) ?_
    intro w1 hE1 hz1 hs1
    clear hs1
    refine fromValue_c (X := (w.heap.size :: (vb v ++ [bo]))) (IsVal.mv hva'.out ((hE1.mv _).more (Nat.le_refl _))) (.cons (Array.getElem?_eq_some_iff.1 hz1).1 (hO'.out.le hE1.size)) _ ?_
    intro wA csA hFA hdA
    obtain ⟨yA, rfl⟩ := hdA.shape
    have hltA : w.heap.size < wA.heap.size := Nat.lt_of_lt_of_le (Array.getElem?_eq_some_iff.1 hz1).1 hFA.size
    have hOZA : Old (w.heap.size :: (vb v ++ [bo])) wA := .cons hltA (hO'.out.le (hE1.trans hFA).size)
    have hqA' := Lib.hid ((alloc_old wA (.cells #[.int .i64 yA.kind, .int .i64 yA.n, .float .f64 yA.f, .string yA.s, .slice yA.ko yA.kn yA.kc, .slice yA.o yA.m yA.c] 26 (0, 0)) hltA).trans ((hFA.below.block _ (Array.getElem?_eq_some_iff.1 hz1).1).trans hz1))
    have hdA' := Lib.hid hdA
    have hOZA' := Lib.hid hOZA
    clear hdA hOZA
    dsimp only
    simp only [Cells6.list]
    go_upto_region 6 with (first | (refine wpL_storeC rfl 24 _ _ rfl Try.info24 (v := .slice (some ⟨wA.heap.size, 0, none⟩) 1 1) (new := #[.string k, .slice (some ⟨wA.heap.size, 0, none⟩) 1 1, .slice none 0 0]) rfl rfl rfl hqA'.out (by simp) rfl ?_; intro wAs hzA hgA))
    have hEA : Ext w wAs := (((hE1).trans hFA).push _).grown hgA (fun j hj => by cases hj; exact Nat.le_refl _)
    have hGA : Mv wA (w.heap.size :: (vb v ++ [bo])) wAs (w.heap.size :: (vb v ++ [bo])) := (((Ext.refl wA).push _).mv _).grown hgA (fun j hj => by cases hj; simp)
    have hSA : IsVs wAs (w.heap.size :: (vb v ++ [bo])) (.slice (some ⟨wA.heap.size, 0, none⟩) 1 1) [T.back ta] :=
      IsVs.single (y := yA) ((hgA.block _ (by simp) (fun e => by have := Option.some.inj e; omega)).trans (alloc_new _ _ rfl)) (fun h => by have := hOZA'.out _ h; omega) (hdA'.out.mv hGA)
    have hA : IsVs wAs (w.heap.size :: (vb v ++ [bo])) (.slice (some ⟨wA.heap.size, 0, none⟩) 1 1) (optL (some ta)) := hSA
    have hB : IsVs wAs (w.heap.size :: (vb v ++ [bo])) (.slice none 0 0) (optL none) := IsVs.nil _ _
    have c0z := hEA.keep c0
    have hbz := Lib.hid ((hEA.below.block bo hbl'.out).trans hb'.out)
    have z0 : wAs.cell? ⟨w.heap.size, 0, none⟩ = some (.string k) := cells_of hzA 0
    have z1 : wAs.cell? ⟨w.heap.size, 1, none⟩ = some (.slice (some ⟨wA.heap.size, 0, none⟩) 1 1) := cells_of hzA 1
    have z2 : wAs.cell? ⟨w.heap.size, 2, none⟩ = some (.slice none 0 0) := cells_of hzA 2
    have hu := Lib.hid (show kZp.is wAs (vb v ++ [bo]) [.string k, .slice (some ⟨wA.heap.size, 0, none⟩) 1 1, .slice none 0 0] (k, optL (some ta), optL none) from ⟨_, _, rfl, hA.mv ((Mv.refl _ _).less fun b hb => List.mem_cons_of_mem _ hb), hB.mv ((Mv.refl _ _).less fun b hb => List.mem_cons_of_mem _ hb)⟩)
    have hEz := Lib.hid hEA
    have hXz := Lib.hid (show Old [bo] wAs from .cons (Nat.lt_of_lt_of_le hbl'.out hEA.size) (Old.nil _))
    clear hA hB
    go_wp2_with (first
      | (at_builtin; refine wpL_rowApp (c := #[.string k, .slice (some ⟨wA.heap.size, 0, none⟩) 1 1, .slice none 0 0]) rfl hrow'.out hEz.out hXz.out hu.out _ _ _ rfl Try.underlying28 Try.info31 rfl (by decide) rfl rfl hbytes hb4 ?_; intro v' w8 hrow8 hg8 hne8 hd8; have hb8 := Lib.hid ((hg8.block bo (Nat.lt_of_lt_of_le hbl'.out hEz.out.size) (hrow'.out.notin (by simp))).trans hbz.out); have hvo8 := hrow8.one)
      | (refine wpL_storeC rfl 28 _ _ rfl Try.info28 (v := v') (new := #[v']) rfl rfl hvo8 hb8.out (by simp) rfl ?_; intro w9 hb9 hg9))
    exact hK'.out w9 v' (zip_mut hEz.out hg8 hg9) hb9 (hrow8.keep hg9 (by simp)) (fun g hg => (hd8 g hg).imp id fun h => Nat.le_trans hEz.out.size h)
  · -- 1 1
    obtain ⟨pa, xa, rfl, q1, q2, q3⟩ := hva'.out.ex
    clear q1 q2 q3
    obtain ⟨pb, xb, rfl, q1, q2, q3⟩ := hvb2'.out.ex
    clear q1 q2 q3
    go_enter Try.func18, Try.ntmps18
    go_wp2_with fail
    refine abs1 (G := fun wr => Calls _ _ _ wr _) ?_
    intro w1 hE1 hz1 hs1
    clear hs1
    refine fromValue_c (X := (w.heap.size :: (vb v ++ [bo]))) (IsVal.mv hva'.out ((hE1.mv _).more (Nat.le_refl _))) (.cons (Array.getElem?_eq_some_iff.1 hz1).1 (hO'.out.le hE1.size)) _ ?_
    intro wA csA hFA hdA
    obtain ⟨yA, rfl⟩ := hdA.shape
    have hltA : w.heap.size < wA.heap.size := Nat.lt_of_lt_of_le (Array.getElem?_eq_some_iff.1 hz1).1 hFA.size
    have hOZA : Old (w.heap.size :: (vb v ++ [bo])) wA := .cons hltA (hO'.out.le (hE1.trans hFA).size)
    have hqA' := Lib.hid ((alloc_old wA (.cells #[.int .i64 yA.kind, .int .i64 yA.n, .float .f64 yA.f, .string yA.s, .slice yA.ko yA.kn yA.kc, .slice yA.o yA.m yA.c] 26 (0, 0)) hltA).trans ((hFA.below.block _ (Array.getElem?_eq_some_iff.1 hz1).1).trans hz1))
    have hdA' := Lib.hid hdA
    have hOZA' := Lib.hid hOZA
    clear hdA hOZA
    dsimp only
    simp only [Cells6.list]
    go_wp2_with (first | (refine wpL_storeC rfl 24 _ _ rfl Try.info24 (v := .slice (some ⟨wA.heap.size, 0, none⟩) 1 1) (new := #[.string k, .slice (some ⟨wA.heap.size, 0, none⟩) 1 1, .slice none 0 0]) rfl rfl rfl hqA'.out (by simp) rfl ?_; intro wAs hzA hgA))
    have hEA : Ext w wAs := (((hE1).trans hFA).push _).grown hgA (fun j hj => by cases hj; exact Nat.le_refl _)
    have hGA : Mv wA (w.heap.size :: (vb v ++ [bo])) wAs (w.heap.size :: (vb v ++ [bo])) := (((Ext.refl wA).push _).mv _).grown hgA (fun j hj => by cases hj; simp)
    have hSA : IsVs wAs (w.heap.size :: (vb v ++ [bo])) (.slice (some ⟨wA.heap.size, 0, none⟩) 1 1) [T.back ta] :=
      IsVs.single (y := yA) ((hgA.block _ (by simp) (fun e => by have := Option.some.inj e; omega)).trans (alloc_new _ _ rfl)) (fun h => by have := hOZA'.out _ h; omega) (hdA'.out.mv hGA)
    refine fromValue_c (X := (w.heap.size :: (vb v ++ [bo]))) (IsVal.mv hvb2'.out ((hEA.mv _).more (Nat.le_refl _))) (.cons (Array.getElem?_eq_some_iff.1 hzA).1 (hO'.out.le hEA.size)) _ ?_
    intro wB csB hFB hdB
    obtain ⟨yB, rfl⟩ := hdB.shape
    have hltB : w.heap.size < wB.heap.size := Nat.lt_of_lt_of_le (Array.getElem?_eq_some_iff.1 hzA).1 hFB.size
    have hOZB : Old (w.heap.size :: (vb v ++ [bo])) wB := .cons hltB (hO'.out.le (hEA.trans hFB).size)
    have hqB' := Lib.hid ((alloc_old wB (.cells #[.int .i64 yB.kind, .int .i64 yB.n, .float .f64 yB.f, .string yB.s, .slice yB.ko yB.kn yB.kc, .slice yB.o yB.m yB.c] 26 (0, 0)) hltB).trans ((hFB.below.block _ (Array.getElem?_eq_some_iff.1 hzA).1).trans hzA))
    have hdB' := Lib.hid hdB
    have hOZB' := Lib.hid hOZB
    clear hdB hOZB
    dsimp only
    simp only [Cells6.list]
    go_upto_region 6 with (first | (refine wpL_storeC rfl 24 _ _ rfl Try.info24 (v := .slice (some ⟨wB.heap.size, 0, none⟩) 1 1) (new := #[.string k, .slice (some ⟨wA.heap.size, 0, none⟩) 1 1, .slice (some ⟨wB.heap.size, 0, none⟩) 1 1]) rfl rfl rfl hqB'.out (by simp) rfl ?_; intro wBs hzB hgB))
    have hEB : Ext w wBs := (((hEA).trans hFB).push _).grown hgB (fun j hj => by cases hj; exact Nat.le_refl _)
    have hGB : Mv wB (w.heap.size :: (vb v ++ [bo])) wBs (w.heap.size :: (vb v ++ [bo])) := (((Ext.refl wB).push _).mv _).grown hgB (fun j hj => by cases hj; simp)
    have hSB : IsVs wBs (w.heap.size :: (vb v ++ [bo])) (.slice (some ⟨wB.heap.size, 0, none⟩) 1 1) [T.back tb] :=
      IsVs.single (y := yB) ((hgB.block _ (by simp) (fun e => by have := Option.some.inj e; omega)).trans (alloc_new _ _ rfl)) (fun h => by have := hOZB'.out _ h; omega) (hdB'.out.mv hGB)
    have hA : IsVs wBs (w.heap.size :: (vb v ++ [bo])) (.slice (some ⟨wA.heap.size, 0, none⟩) 1 1) (optL (some ta)) := hSA.mv ((hFB.mv _).trans hGB)
    have hB : IsVs wBs (w.heap.size :: (vb v ++ [bo])) (.slice (some ⟨wB.heap.size, 0, none⟩) 1 1) (optL (some tb)) := hSB
    have c0z := hEB.keep c0
    have hbz := Lib.hid ((hEB.below.block bo hbl'.out).trans hb'.out)
    have z0 : wBs.cell? ⟨w.heap.size, 0, none⟩ = some (.string k) := cells_of hzB 0
    have z1 : wBs.cell? ⟨w.heap.size, 1, none⟩ = some (.slice (some ⟨wA.heap.size, 0, none⟩) 1 1) := cells_of hzB 1
    have z2 : wBs.cell? ⟨w.heap.size, 2, none⟩ = some (.slice (some ⟨wB.heap.size, 0, none⟩) 1 1) := cells_of hzB 2
    have hu := Lib.hid (show kZp.is wBs (vb v ++ [bo]) [.string k, .slice (some ⟨wA.heap.size, 0, none⟩) 1 1, .slice (some ⟨wB.heap.size, 0, none⟩) 1 1] (k, optL (some ta), optL (some tb)) from ⟨_, _, rfl, hA.mv ((Mv.refl _ _).less fun b hb => List.mem_cons_of_mem _ hb), hB.mv ((Mv.refl _ _).less fun b hb => List.mem_cons_of_mem _ hb)⟩)
    have hEz := Lib.hid hEB
    have hXz := Lib.hid (show Old [bo] wBs from .cons (Nat.lt_of_lt_of_le hbl'.out hEB.size) (Old.nil _))
    clear hA hB
    go_wp2_with (first
      | (at_builtin; refine wpL_rowApp (c := #[.string k, .slice (some ⟨wA.heap.size, 0, none⟩) 1 1, .slice (some ⟨wB.heap.size, 0, none⟩) 1 1]) rfl hrow'.out hEz.out hXz.out hu.out _ _ _ rfl Try.underlying28 Try.info31 rfl (by decide) rfl rfl hbytes hb4 ?_; intro v' w8 hrow8 hg8 hne8 hd8; have hb8 := Lib.hid ((hg8.block bo (Nat.lt_of_lt_of_le hbl'.out hEz.out.size) (hrow'.out.notin (by simp))).trans hbz.out); have hvo8 := hrow8.one)
      | (refine wpL_storeC rfl 28 _ _ rfl Try.info28 (v := v') (new := #[v']) rfl rfl hvo8 hb8.out (by simp) rfl ?_; intro w9 hb9 hg9))
    exact hK'.out w9 v' (zip_mut hEz.out hg8 hg9) hb9 (hrow8.keep hg9 (by simp)) (fun g hg => (hd8 g hg).imp id fun h => Nat.le_trans hEz.out.size h)

theorem zr_len {O : List ByteArray} {P Q : EntsOfT T} (hO : Rising O) (hm : ∀ k, k ∈ O ↔ k ∈ P.map (·.1) ∨ k ∈ Q.map (·.1)) : O.length ≤ P.length + Q.length := by
  have := nodup_le (G := P.map (·.1) ++ Q.map (·.1)) hO.nodup (fun k hk => by rw [List.mem_append]; exact (hm k).1 hk)
  simpa using this

theorem zip_visit {w : World} {bo : Nat} {P Q : EntsOfT T} {O : List ByteArray} (hO : Rising O) (hm : ∀ k, k ∈ O ↔ k ∈ P.map (·.1) ∨ k ∈ Q.map (·.1)) (hbd : (P.length + Q.length) * 64 ≤ 140737488351232) (hb : w.heap[bo]? = some (.cells #[.slice none 0 0] 28 (0, 0))) :
    ZipW w [bo] P Q O 18 #[.pointer (some ⟨bo, 0, none⟩)]
      (fun j w1 => ∃ v, w1.heap[bo]? = some (.cells #[v] 28 (0, 0)) ∧ Row kZp 31 w1 [bo] v ((O.take j).map (zr P Q)) ∧ ∀ g, v.ownBlock = some g → w.heap.size ≤ g) where
  start := ⟨_, hb, Row.nil _ _ _ _, fun g h => by simp [Value.ownBlock] at h⟩
  step := fun j hj wr w1 va vb' hM ⟨v, h1, h2, h3⟩ hE hva hvb K hK => by
    have hbl : bo < w.heap.size := (Array.getElem?_eq_some_iff.1 hb).1
    have hsub : ∀ b ∈ vb v ++ [bo], b ∈ newer w wr [bo] := fun b hb => mem_newer.2 (by
      rcases List.mem_append.1 hb with h | h
      · have h4 : v.ownBlock = some b := by simpa [vb] using h
        exact .inr ⟨h3 b h4, h2.lt h4⟩
      · exact .inl h)
    have hlen : ((O.take j).map (zr P Q)).length = j := by rw [List.length_map, List.length_take]; omega
    refine zipFn_c (us := (O.take j).map (zr P Q)) (o := getEnt O[j] P) (p := getEnt O[j] Q) ((hE.below.block _ (Nat.lt_of_lt_of_le hbl hM.size)).trans h1) (h2.ext hE) (hva.mv ((Mv.refl _ _).less hsub)) (hvb.mv ((Mv.refl _ _).less hsub)) ?_ K ?_
    · have := zr_len hO hm
      rw [hlen]
      exact Nat.le_trans (Nat.mul_le_mul_right 64 (by omega : j + 1 ≤ P.length + Q.length)) (Nat.le_trans hbd (by decide))
    · intro w2 v' hM2 hb2 hr2 hd2
      refine hK w2 true ⟨hM2.os.trans (hE.below.os.trans hM.os), hM2.tape.trans (hE.below.tape.trans hM.tape), hM2.output.trans (hE.below.output.trans hM.output), Nat.le_trans hM.size (Nat.le_trans hE.size hM2.size), fun i hi hx => ?_⟩ (fun _ => ⟨v', hb2, ?_, fun g hg => ?_⟩) (fun h => by cases h)
      · have hi1 := Nat.lt_of_lt_of_le hi hM.size
        refine (hM2.block i (Nat.lt_of_lt_of_le hi1 hE.size) (fun hb => ?_)).trans ((hE.below.block i hi1).trans (hM.block i hi hx))
        rcases List.mem_cons.1 hb with h | h
        · exact hx (by simp [h])
        · have := h3 i (by simpa [vb] using h); omega
      · rw [List.take_succ_eq_append_getElem hj, List.map_append]
        exact hr2
      · rcases hd2 g hg with h | h
        · exact h3 g h
        · exact Nat.le_trans hM.size (Nat.le_trans hE.size h)
  enter := callFunc_zip

set_option maxRecDepth 100000 in
theorem mapZipN_c {w : World} {X : List Nat} {r1 r2 : Nat} {P Q : EntsOfT T} {F : FuncId} {cap : Array Value} {Inv : List ByteArray → World → Nat → World → Prop} (h1 : IsTm w X r1 P) (h2 : IsTm w X r2 Q) (hX : Old X w)
    (hv : ∀ O, Rising O → (∀ k, k ∈ O ↔ k ∈ P.map (·.1) ∨ k ∈ Q.map (·.1)) → ∀ w0, Ext w w0 → ZipW w0 X P Q O F cap (Inv O w0))
    (R : Ending → World → Prop) (hR : ∀ O w0 w', Rising O → (∀ k, k ∈ O ↔ k ∈ P.map (·.1) ∨ k ∈ Q.map (·.1)) → Ext w w0 → Mut w0 X w' → Inv O w0 O.length w' → R (.returned (.bool true)) w') :
    Calls Try.prog 16 #[.iface 183 (.map (some r1)), .iface 183 (.map (some r2)), .int .i64 1, .func (.func F) #[] cap] w R := by
  have h1' := Lib.hid h1
  have h2' := Lib.hid h2
  have hX' := Lib.hid hX
  have hv' := Lib.hid hv
  have hR' := Lib.hid hR
  clear h1 h2 hX hv hR
  go_enter Try.func16, Try.ntmps16
  go_wp2_with fail
  refine abs1 (G := fun wr => Calls _ _ _ wr _) ?_
  intro w1 hE1 hb1 hs1
  clear hb1 hs1
  refine mapZipW_c (h1'.out.mv (hE1.mv X)) (h2'.out.mv (hE1.mv X)) (hX'.out.le hE1.size) ⟨_, rfl⟩ (fun O a b w0 hE0 => hv'.out O a b w0 (hE1.trans hE0)) _ ?_
  intro O w0 w' a1 a2 a0 a3 a4
  have hh := Lib.hid (hR'.out O w0 w' a1 a2 (hE1.trans a0) a3 a4)
  clear a1 a2 a0 a3 a4
  dsimp only
  go_wp2_with fail
  exact hh.out

set_option maxRecDepth 100000 in
set_option maxHeartbeats 2000000 in
set_option pp.maxSteps 1000000 in
set_option pp.deepTerms true in
theorem implZipMaps_c {w : World} {X Y : List Nat} {cs ds : List Value} {k n : Int} {f : Nat} {s : ByteArray} {keys : List ByteArray} {l : List V} {k2 n2 : Int} {f2 : Nat} {s2 : ByteArray} {keys2 : List ByteArray} {l2 : List V} (ha : IsV w X cs (.mk k n f s keys l)) (hb : IsV w Y ds (.mk k2 n2 f2 s2 keys2 l2))
    (hbd : (l.length + l2.length) * 64 ≤ 140737488351232) (R : Ending → World → Prop)
    (hR : ∀ w' v O, Ext w w' → Rising O → (∀ k, k ∈ O ↔ k ∈ (plainEnts keys l).map (·.1) ∨ k ∈ (plainEnts keys2 l2).map (·.1)) → IsSl kZp 64 w' [] v (O.map (zr (plainEnts keys l) (plainEnts keys2 l2))) → R (.returned v) w') :
    Calls Try.prog 6 #[.agg cs.toArray, .agg ds.toArray] w R := by
  have hmf : ∀ (fn : Fn) (first cap : Array Value) (w : World), (Instr.makeFunc fn first cap).run Try.prog w = .ok (.func fn first cap) w := fun _ _ _ _ => rfl
  obtain ⟨x, rfl⟩ := ha.shape
  obtain ⟨y, rfl⟩ := hb.shape
  have hPl := plainEnts_len keys l
  have hQl := plainEnts_len keys2 l2
  have hPQ : ((plainEnts keys l).length + (plainEnts keys2 l2).length) * 64 ≤ 140737488351232 := Nat.le_trans (Nat.mul_le_mul_right 64 (Nat.add_le_add hPl hQl)) hbd
  obtain ⟨P, hP⟩ : ∃ P, plainEnts keys l = P := ⟨_, rfl⟩
  obtain ⟨Q, hQ⟩ : ∃ Q, plainEnts keys2 l2 = Q := ⟨_, rfl⟩
  rw [hP, hQ] at hR hPQ
  have hP' := Lib.hid hP
  have hQ' := Lib.hid hQ
  have hPQ' := Lib.hid hPQ
  have ha' := Lib.hid (ha.mv ((Mv.refl _ _).less (Z := []) (by simp)))
  have hb' := Lib.hid (hb.mv ((Mv.refl _ _).less (Z := []) (by simp)))
  have hR' := Lib.hid hR
  clear hR ha hb hbd hPl hQl hP hQ hPQ
  simp only [Cells6.list]
  go_enter Try.func6, Try.ntmps6
  go_wp2_with fail
  refine abs3 (G := fun wr => Code.wp _ _ _ _ wr) ?_
  intro w1 hE1 hb1 hb2 hb3 hs1
  have e0 : w1.cell? ⟨w.heap.size, 0, none⟩ = some (.int .i64 x.kind) := cells_of hb1 0; have e1 : w1.cell? ⟨w.heap.size, 1, none⟩ = some (.int .i64 x.n) := cells_of hb1 1; have e2 : w1.cell? ⟨w.heap.size, 2, none⟩ = some (.float .f64 x.f) := cells_of hb1 2; have e3 : w1.cell? ⟨w.heap.size, 3, none⟩ = some (.string x.s) := cells_of hb1 3; have e4 : w1.cell? ⟨w.heap.size, 4, none⟩ = some (.slice x.ko x.kn x.kc) := cells_of hb1 4; have e5 : w1.cell? ⟨w.heap.size, 5, none⟩ = some (.slice x.o x.m x.c) := cells_of hb1 5
  have f0 : w1.cell? ⟨w.heap.size + 1, 0, none⟩ = some (.int .i64 y.kind) := cells_of hb2 0; have f1 : w1.cell? ⟨w.heap.size + 1, 1, none⟩ = some (.int .i64 y.n) := cells_of hb2 1; have f2 : w1.cell? ⟨w.heap.size + 1, 2, none⟩ = some (.float .f64 y.f) := cells_of hb2 2; have f3 : w1.cell? ⟨w.heap.size + 1, 3, none⟩ = some (.string y.s) := cells_of hb2 3; have f4 : w1.cell? ⟨w.heap.size + 1, 4, none⟩ = some (.slice y.ko y.kn y.kc) := cells_of hb2 4; have f5 : w1.cell? ⟨w.heap.size + 1, 5, none⟩ = some (.slice y.o y.m y.c) := cells_of hb2 5
  have hb3' := Lib.hid hb3
  have hs1' := Lib.hid hs1
  clear hb1 hb2 hb3 hs1
  have hC : Ext w1 w1.drew := (Ext.refl _).drew
  refine wp_region_script [0, 2, 4] [1] (fun w' => Ext w1 w') [(.read, 0), (.read, 2), (.pure, 4), (.one, 1), (.one, 3), (.one, 5)] (by kernel_rfl) (by kernel_rfl) ?_
  (apply scr_read'; (· rfl); (· rfl); (· first | exact hC | exact (Ext.refl _).drew); (· (intro w' hw'; have e0_ := hw'.keep e0; have e1_ := hw'.keep e1; have e2_ := hw'.keep e2; have e3_ := hw'.keep e3; have e4_ := hw'.keep e4; have e5_ := hw'.keep e5; go_simp; try rfl)); (· (simp [go_sem]; try rfl)))
  (apply scr_read'; (· rfl); (· rfl); (· first | exact hC | exact (Ext.refl _).drew); (· (intro w' hw'; have f0_ := hw'.keep f0; have f1_ := hw'.keep f1; have f2_ := hw'.keep f2; have f3_ := hw'.keep f3; have f4_ := hw'.keep f4; have f5_ := hw'.keep f5; go_simp; try rfl)); (· (simp [go_sem]; try rfl)))
  (apply scr_pure'; (· rfl); (· rfl); (· (intro w'; go_simp; try rfl)); (· (simp [go_sem]; try rfl)))
  refine scr_one rfl rfl (fun K hK => ?_)
  go_simp
  refine toMapping_c (X := [w.heap.size + 2]) (cs := x.list) (ha'.out.mv (((hE1.trans hC).mv _).more (by omega))) (.cons (by have := hC.size; have := hs1'.out; omega) (Old.nil _)) _ ?_
  intro w2 v1 hE2 h2
  rw [hP'.out] at h2
  replace hE2 := hC.trans hE2
  have h2' := Lib.hid h2
  clear h2
  refine hK _ _ (fun _ => hE2) ?_
  clear hK
  refine scr_one rfl rfl (fun K hK => ?_)
  go_simp
  refine toMapping_c (X := [w.heap.size + 2]) (cs := y.list) (hb'.out.mv (((hE1.trans hE2).mv _).more (by omega))) (.cons (by have := hE2.size; have := hs1'.out; omega) (Old.nil _)) _ ?_
  intro w3 v2 hE3 h3
  rw [hQ'.out] at h3
  obtain ⟨r1, rfl, hr1⟩ := (h2'.out.mv (hE3.mv _)).ex
  obtain ⟨r2, rfl, hr2⟩ := h3.ex
  replace hE3 := hE2.trans hE3
  have hr1' := Lib.hid hr1
  have hr2' := Lib.hid hr2
  have hb33 := Lib.hid ((hE3.below.block (w.heap.size + 2) (Array.getElem?_eq_some_iff.1 hb3'.out).1).trans hb3'.out)
  clear h3 h2' hr1 hr2
  refine hK _ _ (fun h => by simp at h) ?_
  clear hK
  refine scr_one rfl rfl (fun K hK => ?_)
  go_simp
  refine mapZipN_c (X := [w.heap.size + 2]) hr1'.out hr2'.out (.cons (Array.getElem?_eq_some_iff.1 hb33.out).1 (Old.nil _)) (fun O hO hm w0 hE0 => zip_visit hO hm hPQ'.out ((hE0.below.block _ (Array.getElem?_eq_some_iff.1 hb33.out).1).trans hb33.out)) _ ?_
  intro O w0 w5 hO hm hE0 hM5 hI
  rw [List.take_length] at hI
  obtain ⟨v, hv1, hv2, -⟩ := hI
  have hE5 : Ext w w5 := ((hE1.trans hE3).trans hE0).mutated hM5 (fun b hb => by rw [List.mem_singleton] at hb; omega)
  have c0 : w5.cell? ⟨w.heap.size + 2, 0, none⟩ = some v := cells_of hv1 0
  have hsl := hv2.isSl (bytes := 64) (by rw [List.length_map]; exact Nat.le_trans (Nat.mul_le_mul_right 64 (zr_len hO hm)) hPQ'.out)
  have hfin := Lib.hid (hR'.out w5 v O hE5 hO hm (hsl.mv ((Mv.refl _ _).less (by simp)) (by simp [kZp])))
  refine hK _ _ (fun h => by simp at h) ?_
  clear hK hO hm hE0 hM5 hv1 hv2 hsl
  refine scr_end ?_
  simp only [Exit.then]
  go_wp2_with fail
  exact hfin.out
end Go.Proofs.Ytnndacgokehkpaa
