/- spec.Clean: what a value is without what its kind does not use, its fields in order. What impl.fromTree makes of a tree; of a plain value it makes the clean value (plain law). -/
import Derived.Test.YtihapgangilncaaGreatKGField
import Derived.Test.YtihapgangilncaaGreatKGPar
import Derived.Test.YtihapgangilncaaGreatKGPlain
namespace Go.Proofs.YtihapgangilncaaGreat
open Go.RowKit

/-- the fields (k, v) put one after the other into the fields acc -/
def insAll {α : Type} (acc : EntsOfT α) (ps : EntsOfT α) : EntsOfT α := ps.foldl (fun es p => insK p.1 p.2 es) acc
theorem insAll_snoc {α : Type} (acc ps : EntsOfT α) (p : ByteArray × α) : insAll acc (ps ++ [p]) = insK p.1 p.2 (insAll acc ps) := by simp [insAll]
theorem insAll_rising {α : Type} (ps : EntsOfT α) : ∀ {acc : EntsOfT α}, Rising (acc.map (·.1)) → Rising ((insAll acc ps).map (·.1)) := by
  induction ps with
  | nil => intro acc h; exact h
  | cons p ps ih => intro acc h; exact ih (insK_rising h)
theorem insAll_length {α : Type} (ps : EntsOfT α) : ∀ (acc : EntsOfT α), (insAll acc ps).length ≤ acc.length + ps.length := by
  induction ps with
  | nil => intro acc; exact Nat.le_refl _
  | cons p ps ih =>
    intro acc
    have h1 := ih (insK p.1 p.2 acc)
    have h2 := insK_length p.1 p.2 acc
    have e : insAll acc (p :: ps) = insAll (insK p.1 p.2 acc) ps := rfl
    rw [e]
    simp only [List.length_cons]
    omega

mutual
def V.clean : V → V
  | .mk kind n f s keys l => if kind = 1 then .mk 1 (if n = 0 then 0 else 1) 0 ⟨#[]⟩ [] [] else if kind = 2 then .mk 2 n 0 ⟨#[]⟩ [] [] else if kind = 3 then .mk 3 0 f ⟨#[]⟩ [] [] else if kind = 4 then .mk 4 0 0 s [] []
    else if kind = 5 then .mk 5 0 0 ⟨#[]⟩ [] (V.cleanL l)
    else if kind = 6 then .mk 6 0 0 ⟨#[]⟩ ((insAll [] (keys.zip (V.cleanL l))).map (·.1)) ((insAll [] (keys.zip (V.cleanL l))).map (·.2)) else .mk 0 0 0 ⟨#[]⟩ [] []
def V.cleanL : List V → List V
  | [] => []
  | v :: l => v.clean :: V.cleanL l
end
theorem V.cleanL_eq (l : List V) : V.cleanL l = l.map V.clean := by
  induction l with
  | nil => rfl
  | cons v l ih => simp [V.cleanL, ih]
theorem cleanL_length (l : List V) : (V.cleanL l).length = l.length := by rw [V.cleanL_eq]; simp
theorem cleanL_get {l : List V} {k : Nat} (h : k < l.length) : (V.cleanL l)[k]'(by rw [cleanL_length]; exact h) = (l[k]).clean := by simp [V.cleanL_eq]

def CleanC (v : V) : Prop := ∀ (w : World) (X : List Nat) (cs : List Value), IsV w X cs v → Old X w → ∀ R : Ending → World → Prop, (∀ w' cs', Ext w w' → IsV w' X cs' v.clean → R (.returned (.agg cs'.toArray)) w') →
    Calls Tryz.prog 40 #[.agg cs.toArray] w R

set_option maxRecDepth 100000 in
set_option maxHeartbeats 1000000 in
theorem plainList_of {l : List V} (ih : ∀ i (h : i < l.length), CleanC (l[i])) {w : World} {X : List Nat} {o : Option Addr} {c : Nat} (hl : IsVs w X (.slice o l.length c) l) (hX : Old X w)
    (R : Ending → World → Prop) (hR : ∀ w' v', Ext w w' → IsVs w' X v' (V.cleanL l) → R (.returned v') w') : Calls Tryz.prog 78 #[.slice o l.length c] w R := by
  obtain ⟨_, _, b, off, e, h2, h3, h4, h5⟩ := hl.ex
  cases e
  have hR' := Lib.hid hR
  have hih := Lib.hid ih
  have hX' := Lib.hid hX
  clear hR ih hl hX
  go_enter Tryz.func78, Tryz.ntmps78
  have hb1 : 88 * l.length ≤ 281474976710656 := by omega
  have hb2 : l.length ≤ maxLen := by rw [maxLen_eq]; omega
  go_wp2_with (refine wpL_make rfl 42 _ _ rfl 45 Tryz.underlying42 Tryz.info45 l.length rfl rfl hb1 hb2 ?_; intro w2 hown hE2)
  go_loopw [3, 11] (fun v i wr => ∃ (k g cap : Nat) (rows : List Cells6), k ≤ l.length ∧ i = .int .i64 k ∧ v = .slice (some ⟨g, 0, none⟩) k cap ∧ Ext w wr ∧ w.heap.size ≤ g ∧ k ≤ cap ∧ Own wr 45 6 (.slice (some ⟨g, 0, none⟩) k cap) k (flat6 rows) ∧ All2 (fun x u => IsV wr (g :: X) (Cells6.list x) u) rows ((V.cleanL l).take k))
    (fun _ i _ => l.length - (intOf i).toNat)
  case atStart => exact ⟨0, w.heap.size, l.length, [], Nat.zero_le _, rfl, by simp, hE2, Nat.le_refl _, Nat.zero_le _, by simpa [flat6] using hown, .nil⟩
  case round =>
    obtain ⟨k, g, cap, rows, hk, rfl, rfl, hE, hgw, hkc, ho, hxs⟩ := hrel
    clear hE2 hown hb1 hb2
    by_cases hlt : k < l.length
    · obtain ⟨rfl, hbX⟩ := h4 (by omega)
      obtain ⟨x, c0, c1, c2, c3, c4, c5, hx⟩ := h5 k hlt
      have q0 := (hE.mv X |>.cell hbX c0).1
      have q1 := (hE.mv X |>.cell hbX c1).1
      have q2 := (hE.mv X |>.cell hbX c2).1
      have q3 := (hE.mv X |>.cell hbX c3).1
      have q4 := (hE.mv X |>.cell hbX c4).1
      have q5 := (hE.mv X |>.cell hbX c5).1
      clear c0 c1 c2 c3 c4 c5 h4 h5
      go_wp2_with fail
      refine hih.out k hlt (wr.alloc _) (g :: X) x.list (hx.mv (((hE.push _).mv X).more hgw)) (.cons (by have : g < wr.heap.size := ho.lt rfl; simp; omega) (Old.le hX'.out (hE.push _).size)) _ ?_
      intro w3 cy hE3 hy
      obtain ⟨y, rfl⟩ := hy.shape
      have hy' := Lib.hid hy
      clear hy
      have hone1 : ∀ u ∈ y.list.toArray.toList, u.oneCell' = true := by simp [Cells6.list, Value.oneCell']
      have hb3 : (k + 1) * 88 ≤ 140737488355328 := Nat.le_trans (Nat.mul_le_mul_right 88 (by omega : k + 1 ≤ l.length)) (Nat.le_trans h3 (by decide))
      have hb4 : k + 1 ≤ maxLen := by rw [maxLen_eq]; omega
      have ho3 := ho.ext ((Ext.alloc _ _).trans hE3)
      simp only [Cells6.list] at hone1 ⊢
      go_wp2_with (at_builtin; refine wpL_app1 rfl _ _ 42 rfl 45 Tryz.underlying42 Tryz.info45 rfl (by decide) ho3 rfl rfl rfl hone1 hb3 hb4 ?_; intro v' w4 ho4 hg4 hne4 hd4)
      go_roundw
      case rel =>
        obtain ⟨g', cap', hv4, hkc'⟩ := ho4.shape hne4
        have hd5 : g = g' ∨ w3.heap.size ≤ g' := by simpa [Value.ownBlock] using hd4 g' (by rw [hv4]; rfl)
        have hE4 := (hE.push _).trans hE3
        have hg5 : w3.grownBy w4 (some g) := hg4
        refine ⟨k + 1, g', cap', rows ++ [y], by omega, by go_num, hv4, hE4.grown hg5 (by intro j hj; cases hj; exact hgw), by have := hE4.size; omega, hkc', ?_, ?_⟩
        · rw [flat6_append]; exact hv4 ▸ ho4
        · rw [List.take_succ_eq_append_getElem (by rw [cleanL_length]; exact hlt), cleanL_get hlt]
          exact (hxs.imp fun _ _ h => h.mv (Mv.row (((Ext.alloc _ _).trans hE3).mv _) hg5 hd5)).snoc (hy'.out.mv (Mv.row (.refl _ _) hg5 hd5))
      case measure => simp [intOf]; omega
    · go_wp2_with fail
      have : k = l.length := by omega
      subst this
      refine hR'.out _ _ hE ?_
      rw [List.take_of_length_le (by simp [cleanL_length])] at hxs
      exact IsVs.of_own ho (hxs.imp fun _ _ h => h.mv ((Mv.refl _ _).less (fun j hj => List.mem_cons_of_mem _ hj))) (fun j hj hx => by simp [Value.ownBlock] at hj; have := hX'.out _ hx; omega) (by rw [cleanL_length]; exact h3)

set_option maxRecDepth 100000 in
set_option maxHeartbeats 1000000 in
theorem cleanMap_of {kind n : Int} {f : Nat} {s : ByteArray} {keys : List ByteArray} {l : List V} (ih : ∀ i (h : i < l.length), CleanC (l[i])) {w : World} {X : List Nat} {cs : List Value} (hv : IsV w X cs (.mk kind n f s keys l)) (hX : Old X w)
    (R : Ending → World → Prop) (hR : ∀ w' cs', Ext w w' → IsV w' X cs' (.mk 6 0 0 ⟨#[]⟩ ((insAll [] (keys.zip (V.cleanL l))).map (·.1)) ((insAll [] (keys.zip (V.cleanL l))).map (·.2))) → R (.returned (.agg cs'.toArray)) w') :
    Calls Tryz.prog 79 #[.agg cs.toArray] w R := by
  obtain ⟨ko, kc, o, c, rfl, hwf, hks, hl⟩ := hv.inv
  obtain ⟨_, _, kb, koff, e, hkc, hk16, hk4, hk5⟩ := hks.ex
  cases e
  obtain ⟨_, _, b, off, e, h2, h3, h4, h5⟩ := hl.ex
  cases e
  have hR' := Lib.hid hR
  have hih := Lib.hid ih
  have hX' := Lib.hid hX
  have hks' := Lib.hid hks
  clear hR ih hl hX hv hwf hks
  go_enter Tryz.func79, Tryz.ntmps79
  go_wp2_with fail
  refine abs3 (G := Code.wp _ _ _ _) ?_
  intro w1 hE1 hb1 hb2 hb3 hs1
  go_loopw [4] (fun i wr => ∃ (k : Nat) (y : Cells6), k ≤ keys.length ∧ k ≤ l.length ∧ i = .int .i64 k ∧ Ext w wr ∧ w1.heap.size ≤ wr.heap.size ∧ wr.heap[w.heap.size]? = w1.heap[w.heap.size]? ∧ wr.heap[w.heap.size + 1]? = w1.heap[w.heap.size + 1]? ∧
      wr.heap[w.heap.size + 2]? = some (.cells y.list.toArray 45 (0, 0)) ∧
      IsV wr ((w.heap.size + 2) :: (w.heap.size + 1) :: X) y.list (.mk 6 0 0 ⟨#[]⟩ ((insAll [] ((keys.zip (V.cleanL l)).take k)).map (·.1)) ((insAll [] ((keys.zip (V.cleanL l)).take k)).map (·.2))))
    (fun i _ => keys.length - (intOf i).toNat)
  case atStart =>
    refine ⟨0, ⟨6, 0, 0, ⟨#[]⟩, none, 0, 0, none, 0, 0⟩, Nat.zero_le _, Nat.zero_le _, rfl, hE1, Nat.le_refl _, rfl, rfl, hb3, ?_⟩
    exact IsV.of (by decide) (by decide) (by decide) (by decide) ⟨none, 0, 0, 0, rfl, by simp [insAll], by simp [insAll], fun h => by simp [insAll] at h, fun i hi => by simp [insAll] at hi⟩ ⟨none, 0, 0, 0, rfl, by simp [insAll], by simp [insAll], fun h => by simp [insAll] at h, fun i hi => by simp [insAll] at hi⟩
  case round =>
    obtain ⟨k, y, hk, hkl, rfl, hE0, hsz, hmb, hrb, hy, hyv⟩ := hrel
    have hyv' := Lib.hid hyv
    have hm1 : wr.heap[w.heap.size]? = _ := hmb.trans hb1
    have hr1 : wr.heap[w.heap.size + 1]? = _ := hrb.trans hb2
    have m4 : wr.cell? ⟨w.heap.size, 4, none⟩ = some (.slice ko keys.length kc) := cells_of hm1 4
    have m5 : wr.cell? ⟨w.heap.size, 5, none⟩ = some (.slice o l.length c) := cells_of hm1 5
    have y0 : wr.cell? ⟨w.heap.size + 1 + 1, 0, none⟩ = some (.int .i64 y.kind) := cells_of hy 0
    have y1 : wr.cell? ⟨w.heap.size + 1 + 1, 1, none⟩ = some (.int .i64 y.n) := cells_of hy 1
    have y2 : wr.cell? ⟨w.heap.size + 1 + 1, 2, none⟩ = some (.float .f64 y.f) := cells_of hy 2
    have y3 : wr.cell? ⟨w.heap.size + 1 + 1, 3, none⟩ = some (.string y.s) := cells_of hy 3
    have y4 : wr.cell? ⟨w.heap.size + 1 + 1, 4, none⟩ = some (.slice y.ko y.kn y.kc) := cells_of hy 4
    have y5 : wr.cell? ⟨w.heap.size + 1 + 1, 5, none⟩ = some (.slice y.o y.m y.c) := cells_of hy 5
    have hXX : Old ((w.heap.size + 2) :: (w.heap.size + 1) :: X) wr := .cons (by omega) (.cons (by omega) (Old.le hX'.out hE0.size))
    have onec : y.list.toArray.all (·.oneCell') = true := by simp [Cells6.list, Value.oneCell']
    have out : k = keys.length ∨ k = l.length → (keys.zip (V.cleanL l)).take k = keys.zip (V.cleanL l) := fun h => List.take_of_length_le (by rw [List.length_zip, cleanL_length]; omega)
    have out' := Lib.hid out
    have hm0 := hb1
    have hr0 := hb2
    clear hyv hmb hrb hb3 out
    by_cases hlk : k < keys.length
    · by_cases hll : k < l.length
      · obtain ⟨rfl, hkX⟩ := hk4 (by omega)
        obtain ⟨rfl, hbX⟩ := h4 (by omega)
        obtain ⟨x, c0, c1, c2, c3, c4, c5, hx⟩ := h5 k hll
        obtain ⟨d0, hsm⟩ := hk5 k hlk
        have hx' := Lib.hid hx
        clear h5 hk5 hk4 h4 hx
        have e0 := hE0.keep d0
        have x0 := hE0.keep c0
        have x1 := hE0.keep c1
        have x2 := hE0.keep c2
        have x3 := hE0.keep c3
        have x4 := hE0.keep c4
        have x5 := hE0.keep c5
        clear d0 c0 c1 c2 c3 c4 c5
        go_wp2_with fail
        refine wp_region_script [0, 1, 2, 3, 4, 5, 6, 7, 8, 9, 10] [11] (fun w' => Ext wr w') [(.read, 0), (.pure, 1), (.read, 2), (.pure, 3), (.pure, 4), (.read, 5), (.pure, 6), (.read, 7), (.pure, 8), (.pure, 9), (.read, 10), (.one, 11), (.one, 12), (.one, 13)] (by kernel_rfl) (by kernel_rfl) ?_
        refine scr_read (v := .agg y.list.toArray) rfl rfl (Ext.refl wr).drew (fun w' hw' => ?_) ?_
        · replace y0 := hw'.keep y0
          replace y1 := hw'.keep y1
          replace y2 := hw'.keep y2
          replace y3 := hw'.keep y3
          replace y4 := hw'.keep y4
          replace y5 := hw'.keep y5
          simp only [Cells6.list]
          go_simp
        refine scr_pure (v := .pointer (some ⟨w.heap.size, 4, none⟩)) rfl rfl (fun w' => ?_) ?_
        · go_simp
        refine scr_read (v := .slice (some ⟨kb, koff, none⟩) keys.length kc) rfl rfl (Ext.refl wr).drew (fun w' hw' => ?_) ?_
        · replace m4 := hw'.keep m4
          go_simp
        refine scr_pure (v := .int .i64 k) rfl rfl (fun w' => ?_) ?_
        · go_simp
        refine scr_pure (v := .pointer (some ⟨kb, koff + k, none⟩)) rfl rfl (fun w' => ?_) ?_
        · go_simp
        refine scr_read (v := .string (keys.getD k ByteArray.empty)) rfl rfl (Ext.refl wr).drew (fun w' hw' => ?_) ?_
        · replace e0 := hw'.keep e0
          go_simp
        refine scr_pure (v := .pointer (some ⟨w.heap.size, 5, none⟩)) rfl rfl (fun w' => ?_) ?_
        · go_simp
        refine scr_read (v := .slice (some ⟨b, off, none⟩) l.length c) rfl rfl (Ext.refl wr).drew (fun w' hw' => ?_) ?_
        · replace m5 := hw'.keep m5
          go_simp
        refine scr_pure (v := .int .i64 k) rfl rfl (fun w' => ?_) ?_
        · go_simp
        refine scr_pure (v := .pointer (some ⟨b, off + k * 6, none⟩)) rfl rfl (fun w' => ?_) ?_
        · go_simp
        refine scr_read (v := .agg x.list.toArray) rfl rfl (Ext.refl wr).drew (fun w' hw' => ?_) ?_
        · replace x0 := hw'.keep x0
          replace x1 := hw'.keep x1
          replace x2 := hw'.keep x2
          replace x3 := hw'.keep x3
          replace x4 := hw'.keep x4
          replace x5 := hw'.keep x5
          simp only [Cells6.list]
          go_simp
        refine scr_one rfl rfl (fun K hK => ?_)
        go_simp
        refine hih.out k hll wr.drew _ x.list (hx'.out.mv (((hE0.drew.mv X).more (n := w.heap.size + 1) (by omega)).more (n := w.heap.size + 2) (by omega))) hXX _ ?_
        intro w3 cz hE3 hz
        obtain ⟨z, rfl⟩ := hz.shape
        have hwz := (Ext.refl wr).drew.trans hE3
        refine hK _ _ (fun _ => hwz) ?_
        clear hK
        refine scr_one rfl rfl (fun K hK => ?_)
        go_simp
        refine withField_c (es := insAll [] ((keys.zip (V.cleanL l)).take k)) (hyv'.out.mv (hwz.mv _)) (keys[k]) (by simpa [hlk] using hsm) hz (insAll_rising _ (by simp [Rising])) (Nat.le_trans (Nat.mul_le_mul_right 88 (by have h1 := insAll_length ((keys.zip (V.cleanL l)).take k) []; have h2 := List.length_take_le k (keys.zip (V.cleanL l)); simp only [List.length_nil] at h1; omega)) h3) (Old.le hXX hwz.size) _ ?_
        intro w4 cy hE4 hy4
        obtain ⟨y', rfl⟩ := hy4.shape
        refine hK _ _ (fun h => by simp at h) ?_
        clear hK
        refine scr_one rfl rfl (fun K hK => ?_)
        refine wp_storeRow (cells := y'.list.toArray) (b := w.heap.size + 2) _ _ _ rfl Tryz.size45 rfl rfl ((hwz.trans hE4).below.block _ (by omega) |>.trans hy) rfl (by simp [Cells6.list, Value.oneCell']) ?_
        intro w5 hh5 hg5
        refine hK _ _ (fun h => by simp at h) ?_
        clear hK
        simp only [scr, Exit.inBlock, Exit.then]
        go_wp2_with fail
        go_roundw
        case rel =>
          have hE5 := hwz.trans hE4
          have h0 : ∀ j, j < w1.heap.size → j ≠ w.heap.size + 2 → w5.heap[j]? = wr.heap[j]? := fun j hj hne => (hg5.block j (by have := hE5.size; omega) (fun e => hne (by simpa using e))).trans (hE5.below.block j (by omega))
          refine ⟨k + 1, y', by omega, by omega, by go_num, (hE0.trans hE5).grown hg5 (fun j hj => by simp at hj; omega), by have := hE5.size; have := hg5.size; omega, (h0 _ (by omega) (by omega)).trans (hm1.trans hm0.symm), (h0 _ (by omega) (by omega)).trans (hr1.trans hr0.symm), hh5, ?_⟩
          have hzl : k < (keys.zip (V.cleanL l)).length := by rw [List.length_zip, cleanL_length]; omega
          have e : insAll [] ((keys.zip (V.cleanL l)).take (k + 1)) = insK (keys[k]) (l[k]).clean (insAll [] ((keys.zip (V.cleanL l)).take k)) := by
            rw [List.take_succ_eq_append_getElem hzl, insAll_snoc, List.getElem_zip, cleanL_get hll]
          rw [e]
          exact hy4.mv ((Mv.refl _ _).grown hg5 (fun j hj => by simp at hj; subst hj; simp))
        case measure => simp [intOf]; omega
      · have e : k = l.length := by omega
        have hq := out'.out (.inr e)
        have hq' := Lib.hid hq
        clear e hq
        go_wp2_with (refine wpL_storeRow (cells := y.list.toArray) rfl _ _ _ rfl Tryz.size45 rfl rfl hr1 rfl onec ?_; intro w16 hh16 hg16)
        go_simp
        have r0 : w16.cell? ⟨w.heap.size + 1, 0, none⟩ = some (.int .i64 y.kind) := cells_of hh16 0
        have r1 : w16.cell? ⟨w.heap.size + 1, 1, none⟩ = some (.int .i64 y.n) := cells_of hh16 1
        have r2 : w16.cell? ⟨w.heap.size + 1, 2, none⟩ = some (.float .f64 y.f) := cells_of hh16 2
        have r3 : w16.cell? ⟨w.heap.size + 1, 3, none⟩ = some (.string y.s) := cells_of hh16 3
        have r4 : w16.cell? ⟨w.heap.size + 1, 4, none⟩ = some (.slice y.ko y.kn y.kc) := cells_of hh16 4
        have r5 : w16.cell? ⟨w.heap.size + 1, 5, none⟩ = some (.slice y.o y.m y.c) := cells_of hh16 5
        refine bodyPost_ret (by simp [results, Tryz.results79, go_sem, r0, r1, r2, r3, r4, r5]; try rfl) rfl ?_
        have hf := hyv'.out
        rw [hq'.out] at hf
        exact hR'.out w16 y.list (hE0.grown hg16 (fun j hj => by simp at hj; omega)) ((hf.mv ((Mv.refl _ _).grown hg16 (fun j hj => by simp at hj; subst hj; simp))).mv ((Mv.refl _ _).less (fun j hj => by simp [hj])))
    · have e : k = keys.length := by omega
      have hq := out'.out (.inl e)
      have hq' := Lib.hid hq
      clear e hq
      go_wp2_with (refine wpL_storeRow (cells := y.list.toArray) rfl _ _ _ rfl Tryz.size45 rfl rfl hr1 rfl onec ?_; intro w16 hh16 hg16)
      go_simp
      have r0 : w16.cell? ⟨w.heap.size + 1, 0, none⟩ = some (.int .i64 y.kind) := cells_of hh16 0
      have r1 : w16.cell? ⟨w.heap.size + 1, 1, none⟩ = some (.int .i64 y.n) := cells_of hh16 1
      have r2 : w16.cell? ⟨w.heap.size + 1, 2, none⟩ = some (.float .f64 y.f) := cells_of hh16 2
      have r3 : w16.cell? ⟨w.heap.size + 1, 3, none⟩ = some (.string y.s) := cells_of hh16 3
      have r4 : w16.cell? ⟨w.heap.size + 1, 4, none⟩ = some (.slice y.ko y.kn y.kc) := cells_of hh16 4
      have r5 : w16.cell? ⟨w.heap.size + 1, 5, none⟩ = some (.slice y.o y.m y.c) := cells_of hh16 5
      refine bodyPost_ret (by simp [results, Tryz.results79, go_sem, r0, r1, r2, r3, r4, r5]; try rfl) rfl ?_
      have hf := hyv'.out
      rw [hq'.out] at hf
      exact hR'.out w16 y.list (hE0.grown hg16 (fun j hj => by simp at hj; omega)) ((hf.mv ((Mv.refl _ _).grown hg16 (fun j hj => by simp at hj; subst hj; simp))).mv ((Mv.refl _ _).less (fun j hj => by simp [hj])))

theorem clean_1 {n : Int} {f : Nat} {s : ByteArray} {keys : List ByteArray} {l : List V} : V.clean (.mk 1 n f s keys l) = .mk 1 (if n = 0 then 0 else 1) 0 ⟨#[]⟩ [] [] := by simp [V.clean]
theorem clean_2 {n : Int} {f : Nat} {s : ByteArray} {keys : List ByteArray} {l : List V} : V.clean (.mk 2 n f s keys l) = .mk 2 n 0 ⟨#[]⟩ [] [] := by simp [V.clean]
theorem clean_3 {n : Int} {f : Nat} {s : ByteArray} {keys : List ByteArray} {l : List V} : V.clean (.mk 3 n f s keys l) = .mk 3 0 f ⟨#[]⟩ [] [] := by simp [V.clean]
theorem clean_4 {n : Int} {f : Nat} {s : ByteArray} {keys : List ByteArray} {l : List V} : V.clean (.mk 4 n f s keys l) = .mk 4 0 0 s [] [] := by simp [V.clean]
theorem clean_5 {n : Int} {f : Nat} {s : ByteArray} {keys : List ByteArray} {l : List V} : V.clean (.mk 5 n f s keys l) = .mk 5 0 0 ⟨#[]⟩ [] (V.cleanL l) := by simp [V.clean]
theorem clean_else {kind n : Int} {f : Nat} {s : ByteArray} {keys : List ByteArray} {l : List V} (h1 : (kind == 1) = false) (h2 : (kind == 2) = false) (h3 : (kind == 3) = false) (h4 : (kind == 4) = false) (h5 : (kind == 5) = false) (h6 : (kind == 6) = false) :
    V.clean (.mk kind n f s keys l) = .mk 0 0 0 ⟨#[]⟩ [] [] := by
  simp only [beq_eq_false_iff_ne, ne_eq] at h1 h2 h3 h4 h5 h6
  simp [V.clean, h1, h2, h3, h4, h5, h6]
theorem clean_6 {n : Int} {f : Nat} {s : ByteArray} {keys : List ByteArray} {l : List V} : V.clean (.mk 6 n f s keys l) = .mk 6 0 0 ⟨#[]⟩ ((insAll [] (keys.zip (V.cleanL l))).map (·.1)) ((insAll [] (keys.zip (V.cleanL l))).map (·.2)) := by simp [V.clean]

set_option maxRecDepth 100000 in
set_option maxHeartbeats 1000000 in
theorem clean_all (v : V) : CleanC v := by
  induction v using V.ind with
  | h kind n f s keys l ih =>
  intro w X cs hv hX R hR
  obtain ⟨ko, kc, o, c, rfl, hwf, hks, hl⟩ := hv.inv
  have hR' := Lib.hid hR
  have hih := Lib.hid ih
  have hv' := Lib.hid hv
  have hX' := Lib.hid hX
  have hwf' := Lib.hid hwf
  have hl' := Lib.hid hl
  clear hR ih hks hl hwf hv hX
  go_enter Tryz.func40, Tryz.ntmps40
  go_wp2_with fail
  all_goals first | (refine bodyPost_ret (by simp [results, Tryz.results40, go_sem]; try rfl) rfl ?_) | skip
  · obtain rfl : kind = 1 := by simpa using ‹(kind == 1) = true›
    refine hR'.out _ [_, _, _, _, _, _] ((Ext.alloc _ _).push _) ?_
    rw [clean_1]
    have hn : n ≠ 0 := by simpa using ‹(n != 0) = true›
    rw [if_neg hn]
    refine IsV.of (by decide) (by decide) (by decide) (by decide) (IsStrs.nil _ _) (IsVs.nil _ _)
  · obtain rfl : kind = 1 := by simpa using ‹(kind == 1) = true›
    refine hR'.out _ [_, _, _, _, _, _] ((Ext.alloc _ _).push _) ?_
    rw [clean_1]
    have hn : n = 0 := by simpa using ‹(n != 0) = false›
    rw [if_pos hn]
    refine IsV.of (by decide) (by decide) (by decide) (by decide) (IsStrs.nil _ _) (IsVs.nil _ _)
  · obtain rfl : kind = 2 := by simpa using ‹(kind == 2) = true›
    refine hR'.out _ [_, _, _, _, _, _] ((Ext.alloc _ _).push _) ?_
    rw [clean_2]
    refine IsV.of (by decide) hwf'.out.2.1 (by decide) (by decide) (IsStrs.nil _ _) (IsVs.nil _ _)
  · obtain rfl : kind = 3 := by simpa using ‹(kind == 3) = true›
    refine hR'.out _ [_, _, _, _, _, _] ((Ext.alloc _ _).push _) ?_
    rw [clean_3]
    refine IsV.of (by decide) (by decide) hwf'.out.2.2.1 (by decide) (IsStrs.nil _ _) (IsVs.nil _ _)
  · obtain rfl : kind = 4 := by simpa using ‹(kind == 4) = true›
    refine hR'.out _ [_, _, _, _, _, _] ((Ext.alloc _ _).push _) ?_
    rw [clean_4]
    refine IsV.of (by decide) (by decide) (by decide) hwf'.out.2.2.2 (IsStrs.nil _ _) (IsVs.nil _ _)
  · obtain rfl : kind = 5 := by simpa using ‹(kind == 5) = true›
    refine abs2 (G := fun wr => Calls _ _ _ wr _) ?_
    intro w1 hE1 hb1 hb2 hs1
    refine plainList_of hih.out (hl'.out.mv (((hE1.mv X).more (n := w.heap.size + 1) (by omega)))) (.cons (by omega) (Old.le hX'.out hE1.size)) _ ?_
    intro w2 v' hE2 hv2
    obtain ⟨o', c', b', off', rfl, _⟩ := id hv2.ex
    have hr2 : w2.heap[w.heap.size + 1]? = _ := (hE2.below.block _ (by omega)).trans hb2
    dsimp only
    go_wp2_with (refine wpL_storeRow (cells := #[Value.int .i64 5, .int .i64 0, .float .f64 0, .string ⟨#[]⟩, .slice none 0 0, .slice o' (V.cleanL l).length c']) rfl _ _ _ rfl Tryz.size45 rfl rfl hr2 rfl (by simp [Value.oneCell']) ?_; intro w3 hh3 hg3)
    go_simp
    have z0 : w3.cell? ⟨w.heap.size + 1, 0, none⟩ = some (.int .i64 5) := cells_of hh3 0
    have z1 : w3.cell? ⟨w.heap.size + 1, 1, none⟩ = some (.int .i64 0) := cells_of hh3 1
    have z2 : w3.cell? ⟨w.heap.size + 1, 2, none⟩ = some (.float .f64 0) := cells_of hh3 2
    have z3 : w3.cell? ⟨w.heap.size + 1, 3, none⟩ = some (.string ⟨#[]⟩) := cells_of hh3 3
    have z4 : w3.cell? ⟨w.heap.size + 1, 4, none⟩ = some (.slice none 0 0) := cells_of hh3 4
    have z5 : w3.cell? ⟨w.heap.size + 1, 5, none⟩ = some (.slice o' (V.cleanL l).length c') := cells_of hh3 5
    refine bodyPost_ret (by simp [results, Tryz.results40, go_sem, z0, z1, z2, z3, z4, z5]; try rfl) rfl ?_
    refine hR'.out _ [_, _, _, _, _, _] ((hE1.trans hE2).grown hg3 (fun j hj => by simp at hj; omega)) ?_
    rw [clean_5]
    refine IsV.of (by decide) (by decide) (by decide) (by decide) (IsStrs.nil _ _) ?_
    exact (hv2.mv ((Mv.refl _ _).grown hg3 (fun j hj => by simp at hj; subst hj; simp))).mv ((Mv.refl _ _).less (fun j hj => by simp [hj]))
  · obtain rfl : kind = 6 := by simpa using ‹(kind == 6) = true›
    refine abs2 (G := fun wr => Calls _ _ _ wr _) ?_
    intro w1 hE1 hb1 hb2 hs1
    refine cleanMap_of hih.out (hv'.out.mv (((hE1.mv X).more (n := w.heap.size + 1) (by omega)))) (.cons (by omega) (Old.le hX'.out hE1.size)) _ ?_
    intro w2 cs' hE2 hv2
    obtain ⟨y, rfl⟩ := hv2.shape
    have hv3 := Lib.hid hv2
    clear hv2
    have hr2 : w2.heap[w.heap.size + 1]? = _ := (hE2.below.block _ (by omega)).trans hb2
    dsimp only
    go_wp2_with (refine wpL_storeRow (cells := y.list.toArray) rfl _ _ _ rfl Tryz.size45 rfl rfl hr2 rfl (by simp [Cells6.list, Value.oneCell']) ?_; intro w3 hh3 hg3)
    go_simp
    have z0 : w3.cell? ⟨w.heap.size + 1, 0, none⟩ = some (.int .i64 y.kind) := cells_of hh3 0
    have z1 : w3.cell? ⟨w.heap.size + 1, 1, none⟩ = some (.int .i64 y.n) := cells_of hh3 1
    have z2 : w3.cell? ⟨w.heap.size + 1, 2, none⟩ = some (.float .f64 y.f) := cells_of hh3 2
    have z3 : w3.cell? ⟨w.heap.size + 1, 3, none⟩ = some (.string y.s) := cells_of hh3 3
    have z4 : w3.cell? ⟨w.heap.size + 1, 4, none⟩ = some (.slice y.ko y.kn y.kc) := cells_of hh3 4
    have z5 : w3.cell? ⟨w.heap.size + 1, 5, none⟩ = some (.slice y.o y.m y.c) := cells_of hh3 5
    refine bodyPost_ret (by simp [results, Tryz.results40, go_sem, z0, z1, z2, z3, z4, z5]; try rfl) rfl ?_
    refine hR'.out _ y.list ((hE1.trans hE2).grown hg3 (fun j hj => by simp at hj; omega)) ?_
    rw [clean_6]
    exact (hv3.out.mv ((Mv.refl _ _).grown hg3 (fun j hj => by simp at hj; subst hj; simp))).mv ((Mv.refl _ _).less (fun j hj => by simp [hj]))
  · refine hR'.out _ [_, _, _, _, _, _] ((Ext.alloc _ _).push _) ?_
    rw [clean_else (by assumption) (by assumption) (by assumption) (by assumption) (by assumption) (by assumption)]
    refine IsV.of (by decide) (by decide) (by decide) (by decide) (IsStrs.nil _ _) (IsVs.nil _ _)

end Go.Proofs.YtihapgangilncaaGreat
namespace Go.Proofs.YtihapgangilncaaGreat
open Go.RowKit

theorem slt_irrefl' (a : ByteArray) : slt a a = false := by
  cases h : slt a a with
  | false => rfl
  | true => exact absurd h (by simp [slt_irrefl])

theorem rising_ext : ∀ {a b : List ByteArray}, Rising a → Rising b → (∀ k, k ∈ a ↔ k ∈ b) → a = b
  | [], [], _, _, _ => rfl
  | [], y :: b, _, _, h => by simpa using (h y).2 (by simp)
  | x :: a, [], _, _, h => by simpa using (h x).1 (by simp)
  | x :: a, y :: b, ha, hb, h => by
    have hxy : x = y := by
      rcases List.mem_cons.1 ((h x).1 (by simp)) with e | hx
      · exact e
      · rcases List.mem_cons.1 ((h y).2 (by simp)) with e | hy
        · exact e.symm
        · have := slt_trans (hb.1 x hx) (ha.1 y hy)
          rw [slt_irrefl'] at this
          cases this
    subst hxy
    have : a = b := rising_ext ha.2 hb.2 (fun k => by
      constructor
      · intro hk
        rcases List.mem_cons.1 ((h k).1 (by simp [hk])) with e | hk'
        · subst e
          have := ha.1 k hk
          rw [slt_irrefl'] at this
          cases this
        · exact hk'
      · intro hk
        rcases List.mem_cons.1 ((h k).2 (by simp [hk])) with e | hk'
        · subst e
          have := hb.1 k hk
          rw [slt_irrefl'] at this
          cases this
        · exact hk')
    rw [this]

theorem Rising.nodup : ∀ {ks : List ByteArray}, Rising ks → ks.Nodup
  | [], _ => List.nodup_nil
  | k :: ks, h => List.nodup_cons.2 ⟨fun hm => (by have := h.1 _ hm; rw [slt_irrefl] at this; cases this), h.2.nodup⟩

/-- the value under a key, the first one of it -/
def lookK {α : Type} (q : ByteArray) : EntsOfT α → Option α
  | [] => none
  | e :: es => if q = e.1 then some e.2 else lookK q es
theorem lookK_put {α : Type} (q k : ByteArray) (v : α) (es : EntsOfT α) : lookK q (putEnt k v es) = if q = k then some v else lookK q es := by
  induction es with
  | nil => simp [putEnt, lookK]
  | cons e es ih =>
    simp only [putEnt]
    by_cases hk : k = e.1
    · subst hk
      by_cases hq : q = e.1 <;> simp [lookK, hq]
    · rw [if_neg (by simpa using hk)]
      by_cases hq : q = e.1
      · subst hq
        simp [lookK, Ne.symm hk]
      · simp [lookK, hq, ih]
theorem lookK_ins {α : Type} (q k : ByteArray) (v : α) (es : EntsOfT α) : lookK q (insK k v es) = if q = k then some v else lookK q es := by
  induction es with
  | nil => simp [insK, lookK]
  | cons e es ih =>
    simp only [insK]
    cases hs : slt e.1 k with
    | true =>
      have hk : ¬ k = e.1 := fun h => by rw [h, slt_irrefl] at hs; cases hs
      by_cases hq : q = e.1
      · subst hq
        simp [lookK, Ne.symm hk]
      · simp [lookK, hq, ih]
    | false =>
      by_cases hk : e.1 = k
      · subst hk
        by_cases hq : q = e.1 <;> simp [lookK, hq]
      · by_cases hq : q = k <;> simp [lookK, hq, hk]
theorem lookK_none {α : Type} {q : ByteArray} {es : EntsOfT α} : lookK q es = none ↔ q ∉ es.map (·.1) := by
  induction es with
  | nil => simp [lookK]
  | cons e es ih => by_cases hq : q = e.1 <;> simp [lookK, hq, ih]
theorem rising_ents : ∀ {α : Type} {a b : EntsOfT α}, Rising (a.map (·.1)) → Rising (b.map (·.1)) → (∀ q, lookK q a = lookK q b) → a = b := by
  intro α a b ha hb h
  have hk : a.map (·.1) = b.map (·.1) := rising_ext ha hb (fun k => by
    have := h k
    constructor
    · intro h1
      refine Classical.not_not.1 fun h2 => ?_
      rw [lookK_none.2 h2, lookK_none] at this
      exact this h1
    · intro h1
      refine Classical.not_not.1 fun h2 => ?_
      rw [lookK_none.2 h2] at this
      exact lookK_none.1 this.symm h1)
  induction a generalizing b with
  | nil => cases b with
    | nil => rfl
    | cons e b => simp at hk
  | cons e a ih =>
    cases b with
    | nil => simp at hk
    | cons e' b =>
      simp only [List.map_cons, List.cons.injEq] at hk
      have h1 := h e.1
      simp only [lookK, if_true, hk.1] at h1
      have e1 : e = e' := Prod.ext hk.1 (by simpa using h1)
      subst e1
      congr 1
      refine ih ha.2 hb.2 (fun q => ?_) hk.2
      have h2 := h q
      by_cases hq : q = e.1
      · subst hq
        have n1 : e.1 ∉ a.map (·.1) := fun hm => by have := ha.1 _ hm; rw [slt_irrefl] at this; cases this
        have n2 : e.1 ∉ b.map (·.1) := fun hm => by have := hb.1 _ hm; rw [slt_irrefl] at this; cases this
        rw [lookK_none.2 n1, lookK_none.2 n2]
      · simpa [lookK, hq] using h2

theorem snoc_ind {α : Type} {motive : List α → Prop} (h0 : motive []) (h1 : ∀ l a, motive l → motive (l ++ [a])) (l : List α) : motive l := by
  have : ∀ r : List α, motive r.reverse := fun r => by
    induction r with
    | nil => exact h0
    | cons a r ih => rw [List.reverse_cons]; exact h1 _ _ ih
  simpa using this l.reverse

theorem lookK_insAll {α : Type} (q : ByteArray) (ps : EntsOfT α) : lookK q (insAll [] ps) = lookK q (putAll ps) := by
  induction ps using snoc_ind with
  | h0 => rfl
  | h1 l a ih => rw [insAll_snoc, putAll_snoc, lookK_ins, lookK_put, ih]
theorem putAll_nodup {α : Type} (ps : EntsOfT α) : ((putAll ps).map (·.1)).Nodup := by
  induction ps using snoc_ind with
  | h0 => simp [putAll]
  | h1 l a ih => rw [putAll_snoc]; exact putEnt_keys ih
theorem putAll_self {α : Type} {es : EntsOfT α} (h : (es.map (·.1)).Nodup) : putAll es = es := by
  induction es using snoc_ind with
  | h0 => rfl
  | h1 l a ih =>
    rw [List.map_append, List.nodup_append] at h
    rw [putAll_snoc, ih h.1, putEnt_none (fun hm => h.2.2 _ hm _ (by simp) rfl)]
theorem insAll_putAll {α : Type} (ps : EntsOfT α) : insAll [] (putAll ps) = insAll [] ps :=
  rising_ents (insAll_rising _ (by simp [Rising])) (insAll_rising _ (by simp [Rising])) (fun q => by rw [lookK_insAll, lookK_insAll, putAll_self (putAll_nodup ps)])
theorem putEnt_map {α β : Type} (f : α → β) (k : ByteArray) (v : α) (es : EntsOfT α) : (putEnt k v es).map (fun p => (p.1, f p.2)) = putEnt k (f v) (es.map fun p => (p.1, f p.2)) := by
  induction es with
  | nil => rfl
  | cons e es ih => by_cases h : k = e.1 <;> simp [putEnt, h, ih]
theorem putAll_map {α β : Type} (f : α → β) (ps : EntsOfT α) : (putAll ps).map (fun p => (p.1, f p.2)) = putAll (ps.map fun p => (p.1, f p.2)) := by
  induction ps using snoc_ind with
  | h0 => rfl
  | h1 l a ih => rw [putAll_snoc, putEnt_map, ih, List.map_append, List.map_singleton, putAll_snoc]
theorem insAll_self {α : Type} {es : EntsOfT α} (h : Rising (es.map (·.1))) : insAll [] es = es :=
  rising_ents (insAll_rising _ (by simp [Rising])) h (fun q => by rw [lookK_insAll, putAll_self h.nodup])

mutual
def T.back : T → V
  | .null => .mk 0 0 0 ⟨#[]⟩ [] []
  | .bool b => .mk 1 (if b then 1 else 0) 0 ⟨#[]⟩ [] []
  | .int n => .mk 2 n 0 ⟨#[]⟩ [] []
  | .float f => .mk 3 0 f ⟨#[]⟩ [] []
  | .str s => .mk 4 0 0 s [] []
  | .list l => .mk 5 0 0 ⟨#[]⟩ [] (T.backL l)
  | .map keys l => .mk 6 0 0 ⟨#[]⟩ ((insAll [] (keys.zip (T.backL l))).map (·.1)) ((insAll [] (keys.zip (T.backL l))).map (·.2))
def T.backL : List T → List V
  | [] => []
  | t :: l => t.back :: T.backL l
end
theorem T.backL_eq (l : List T) : T.backL l = l.map T.back := by
  induction l with
  | nil => rfl
  | cons v l ih => simp [T.backL, ih]

theorem zip_map_snd {α β : Type} (f : α → β) (es : EntsOfT α) : (es.map (·.1)).zip ((es.map (·.2)).map f) = es.map fun p => (p.1, f p.2) := by
  induction es with
  | nil => rfl
  | cons e es ih => simp only [List.map_cons, List.zip_cons_cons, ih]
theorem zip_map_right {α β : Type} (f : α → β) : ∀ (ks : List ByteArray) (l : List α), (ks.zip l).map (fun p => (p.1, f p.2)) = ks.zip (l.map f)
  | [], _ => by simp
  | _ :: _, [] => by simp
  | k :: ks, a :: l => by simp [zip_map_right f ks l]

/-- taken apart, the plain form of a value is the clean value -/
theorem back_plain (v : V) : v.plain.back = v.clean := by
  induction v using V.ind with
  | h kind n f s keys l ih =>
  have hl : T.backL (V.plainL l) = V.cleanL l := by
    rw [T.backL_eq, V.plainL_eq, V.cleanL_eq, List.map_map]
    refine List.map_congr_left fun v hv => ?_
    obtain ⟨i, hi, rfl⟩ := List.getElem_of_mem hv
    exact ih i hi
  simp only [V.plain, V.clean]
  split
  · by_cases hn : n = 0 <;> simp [T.back, hn]
  split
  · rfl
  split
  · rfl
  split
  · rfl
  split
  · simp [T.back, hl]
  split
  · have e : ((putAll (keys.zip (V.plainL l))).map (·.1)).zip (T.backL ((putAll (keys.zip (V.plainL l))).map (·.2))) = putAll (keys.zip (V.cleanL l)) := by
      rw [T.backL_eq, zip_map_snd, putAll_map, zip_map_right, ← T.backL_eq, hl]
    simp only [T.back]
    rw [e, insAll_putAll]
  · rfl

theorem clean_clean (v : V) : v.clean.clean = v.clean := by
  induction v using V.ind with
  | h kind n f s keys l ih =>
  have hl : V.cleanL (V.cleanL l) = V.cleanL l := by
    rw [V.cleanL_eq, V.cleanL_eq, List.map_map]
    refine List.map_congr_left fun v hv => ?_
    obtain ⟨i, hi, rfl⟩ := List.getElem_of_mem hv
    exact ih i hi
  simp only [V.clean]
  split
  · by_cases hn : n = 0 <;> simp [V.clean, hn]
  split
  · simp [V.clean]
  split
  · simp [V.clean]
  split
  · simp [V.clean]
  split
  · simp [V.clean, hl]
  split
  · simp only [clean_6]
    have hm : ∀ p ∈ insAll [] (keys.zip (V.cleanL l)), p.2.clean = p.2 := by
      have key : ∀ (ps acc : EntsOfT V), (∀ p ∈ acc, p.2.clean = p.2) → (∀ p ∈ ps, p.2.clean = p.2) → ∀ p ∈ insAll acc ps, p.2.clean = p.2 := by
        intro ps
        induction ps with
        | nil => intro acc h _; exact h
        | cons q ps ih2 =>
          intro acc h1 h2
          refine ih2 (insK q.1 q.2 acc) (fun p hp => ?_) (fun p hp => h2 p (by simp [hp]))
          rcases insK_mem hp with rfl | hp
          · exact h2 q (by simp)
          · exact h1 p hp
      refine key _ _ (by simp) (fun p hp => ?_)
      have h2 := (List.of_mem_zip hp).2
      rw [V.cleanL_eq] at h2
      obtain ⟨v, hv, e⟩ := List.mem_map.1 h2
      obtain ⟨i, hi, rfl⟩ := List.getElem_of_mem hv
      rw [← e]
      exact ih i hi
    have e : ((insAll [] (keys.zip (V.cleanL l))).map (·.1)).zip (V.cleanL ((insAll [] (keys.zip (V.cleanL l))).map (·.2))) = insAll [] (keys.zip (V.cleanL l)) := by
      rw [V.cleanL_eq (List.map _ _), zip_map_snd]
      refine (List.map_congr_left fun p hp => ?_).trans (List.map_id _)
      rw [hm p hp]
      rfl
    rw [e, insAll_self (insAll_rising _ (by simp [Rising]))]
  · simp [V.clean]

end Go.Proofs.YtihapgangilncaaGreat
