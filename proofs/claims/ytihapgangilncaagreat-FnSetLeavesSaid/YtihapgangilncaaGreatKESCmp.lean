/- PathElementSet.Insert. Sets of path elements as sorted lists (plain), and impl.toElemSet. Orderly path elements: the comparison among them is transitive (plain). spec.CompareElems. -/
import Derived.Test.YtihapgangilncaaGreatKEBSearch
import Derived.Test.YtihapgangilncaaGreatKETransT
import Derived.Test.YtihapgangilncaaGreatKETameS
import Derived.Test.YtihapgangilncaaGreatKEKeysD
namespace Go.Proofs.YtihapgangilncaaGreat
open Go.RowKit
set_option linter.unusedSimpArgs false

theorem ins_mut {w wz w8 w9 : World} {bo : Nat} {v : Value} (hE : Ext w wz) (h8 : wz.grownBy w8 v.ownBlock) (h9 : w8.grownBy w9 (some bo)) : Mut w (bo :: vb v) w9 :=
  ⟨h9.os.trans (h8.os.trans hE.below.os), h9.tape.trans (h8.tape.trans hE.below.tape), h9.output.trans (h8.output.trans hE.below.output), Nat.le_trans hE.size (Nat.le_trans h8.size h9.size), fun i hi hx => by
    simp only [List.mem_cons, not_or] at hx
    have h1 := Nat.lt_of_lt_of_le hi hE.size
    exact (h9.block i (Nat.lt_of_lt_of_le h1 h8.size) (fun e => hx.1 (Option.some.inj e))).trans ((h8.block i h1 (fun e => hx.2 (by simp [vb, ← e]))).trans (hE.below.block i hi))⟩
/-- the set us with t put in at place i, if it is not there -/
def insAt (us : List PEl) (t : PEl) (i : Nat) : List PEl := if HasAt us t i then us else us.take i ++ t :: us.drop i

theorem Tryz.info79 : (Tryz.prog.info? 79).map (fun i => (i.zero, i.size, i.bytes)) = some (some (.slice none 0 0), 1, 24) := by kernel_rfl

set_option maxRecDepth 100000 in
set_option maxHeartbeats 8000000 in
set_option pp.maxSteps 1000000 in
set_option pp.deepTerms true in
theorem esInsert_c {w : World} {X : List Nat} {bs off : Nat} {old : Array Value} {T : TypeId} {v : Value} {us : List PEl} {cs : List Value} {t : PEl} (hb : w.heap[bs]? = some (.cells old T (0, 0))) (hoff : off < old.size) (hov : old[off]? = some v)
    (hrow : Row kPe 89 w (bs :: X) v us) (hX : Old (bs :: X) w) (ht : kPe.is w (vb v ++ bs :: X) cs t) (hmono : ∀ i j (hi : i < us.length) (hj : j < us.length), i ≤ j → cmpPe us[j] t < 0 → cmpPe us[i] t < 0)
    (hbytes : (us.length + 1) * 32 ≤ 140737488351232) (R : Ending → World → Prop)
    (hR : ∀ w' v' i, At us t i → w'.heap[bs]? = some (.cells (old.setIfInBounds off v') T (0, 0)) → Row kPe 89 w' (bs :: X) v' (insAt us t i) → Mut w (bs :: vb v) w' → (∀ g, v'.ownBlock = some g → v.ownBlock = some g ∨ w.heap.size ≤ g) → R (.returned (.tuple #[])) w') :
    Calls Tryz.prog 51 #[.pointer (some ⟨bs, off, none⟩), .agg cs.toArray] w R := by
  obtain ⟨a0, a1, a2, a3, rfl, o0, o1, o2, o3⟩ := kPe_4 ht
  have hsl := hrow.isSl (bytes := 32) (Nat.le_trans (Nat.mul_le_mul_right _ (Nat.le_succ _)) hbytes)
  have hvo := hrow.one
  have hblt := (Array.getElem?_eq_some_iff.1 hb).1
  have c0 : w.cell? ⟨bs, off, none⟩ = some v := by rw [cells_of hb]; exact hov
  have hself : old.setIfInBounds off v = old := by
    apply Array.ext_getElem?
    intro j
    rw [Array.getElem?_setIfInBounds]
    split
    · rename_i e; rw [← e, hov]
    · rfl
  have hsl' := Lib.hid (hsl.mv ((Mv.refl w _).less (Z := []) (by simp)) (by decide))
  have hb' := Lib.hid hb
  have hoff' := Lib.hid hoff
  have hrow' := Lib.hid hrow
  have hX' := Lib.hid hX
  have ht' := Lib.hid ht
  have hm' := Lib.hid hmono
  have hbytes' := Lib.hid hbytes
  have hself' := Lib.hid hself
  have hR' := Lib.hid hR
  clear hb hoff hov hrow hX ht hmono hbytes hR hsl hself
  go_enter Tryz.func51, Tryz.ntmps51
  go_wp2_with fail
  refine abs1 (G := fun wr => Code.wp _ _ _ _ wr) ?_
  intro w1 hE1 hb1 hs1
  have e0 : w1.cell? ⟨w.heap.size, 0, none⟩ = some (a0) := cells_of hb1 0; have e1 : w1.cell? ⟨w.heap.size, 1, none⟩ = some (a1) := cells_of hb1 1; have e2 : w1.cell? ⟨w.heap.size, 2, none⟩ = some (a2) := cells_of hb1 2; have e3 : w1.cell? ⟨w.heap.size, 3, none⟩ = some (a3) := cells_of hb1 3
  replace c0 := hE1.keep c0
  clear hb1 hs1
  refine wp_region_script [0, 1, 2, 3, 4, 6, 7, 8, 9, 10] [] (fun w' => Ext w1 w') [(.pure, 0), (.pure, 1), (.pure, 2), (.read, 3), (.read, 4), (.one, 5), (.pure, 6), (.pure, 7), (.pure, 8), (.pure, 9), (.pure, 10)] (by kernel_rfl) (by kernel_rfl) ?_
  have hC : Ext w1 w1.drew := (Ext.refl _).drew
  iterate 3 (apply scr_pure'; (· rfl); (· rfl); (· (intro w'; go_simp; try rfl)); (· (simp [go_sem]; try rfl)))
  (apply scr_read'; (· rfl); (· rfl); (· first | exact hC | exact (Ext.refl _).drew); (· (intro w' hw'; have c0_ := hw'.keep c0; go_simp; try rfl)); (· (simp [go_sem]; try rfl)))
  (apply scr_read'; (· rfl); (· rfl); (· first | exact hC | exact (Ext.refl _).drew); (· (intro w' hw'; have e0_ := hw'.keep e0; have e1_ := hw'.keep e1; have e2_ := hw'.keep e2; have e3_ := hw'.keep e3; go_simp; try rfl)); (· (simp [go_sem]; try rfl)))
  refine scr_one rfl rfl (fun K hK => ?_)
  go_simp
  refine bsearch_c (cs := [a0, a1, a2, a3]) (t := t) (hsl'.out.mv ((hE1.trans hC).mv []) (by decide)) (kPe.mv (kPe.mv ht'.out ((Mv.refl w _).less (Z := []) (by simp))) ((hE1.trans hC).mv [])) hm'.out _ ?_
  intro w2 i hE2 hat
  have hE12 := hC.trans hE2
  refine hK _ _ (fun h => by simp at h) ?_
  clear hK
  obtain ⟨fb, hfb⟩ : ∃ q, HasAt us t i = q := ⟨_, rfl⟩
  rw [hfb]
  have hfb' := Lib.hid hfb
  have hat' := Lib.hid hat
  clear hfb hat
  iterate 5 (apply scr_pure'; (· rfl); (· rfl); (· (intro w'; go_simp; try rfl)); (· (simp [go_sem]; try rfl)))
  refine scr_end ?_
  simp only [Exit.then]
  replace c0 := hE12.keep c0; replace e0 := hE12.keep e0; replace e1 := hE12.keep e1; replace e2 := hE12.keep e2; replace e3 := hE12.keep e3
  replace hE1 := hE1.trans hE12
  clear hE2 hE12 hC
  cases fb
  · go_wp2_with fail
    refine wp_region_script [0, 1, 2, 3, 4, 5, 6, 9, 10] [7] (fun w' => Ext w2 w') [(.pure, 0), (.pure, 1), (.pure, 2), (.pure, 3), (.read, 4), (.pure, 5), (.read, 6), (.one, 7), (.one, 8), (.pure, 9), (.pure, 10), (.one, 11)] (by kernel_rfl) (by kernel_rfl) ?_
    have hC : Ext w2 w2.drew := (Ext.refl _).drew
    iterate 4 (apply scr_pure'; (· rfl); (· rfl); (· (intro w'; go_simp; try rfl)); (· (simp [go_sem]; try rfl)))
    (apply scr_read'; (· rfl); (· rfl); (· first | exact hC | exact (Ext.refl _).drew); (· (intro w' hw'; have c0_ := hw'.keep c0; go_simp; try rfl)); (· (simp [go_sem]; try rfl)))
    (apply scr_pure'; (· rfl); (· rfl); (· (intro w'; go_simp; try rfl)); (· (simp [go_sem]; try rfl)))
    (apply scr_read'; (· rfl); (· rfl); (· first | exact hC | exact (Ext.refl _).drew); (· (intro w' hw'; have e0_ := hw'.keep e0; have e1_ := hw'.keep e1; have e2_ := hw'.keep e2; have e3_ := hw'.keep e3; go_simp; try rfl)); (· (simp [go_sem]; try rfl)))
    refine scr_one rfl rfl (fun K hK => ?_)
    go_simp
    refine hK _ _ (fun _ => hC.push _) ?_
    clear hK
    refine scr_one rfl rfl (fun K hK => ?_)
    go_simp
    have hEW : Ext w (w2.alloc (.cells #[a0, a1, a2, a3] 89)).drew := (hE1.push _).drew
    obtain ⟨W, hW⟩ : ∃ W, (w2.alloc (.cells #[a0, a1, a2, a3] 89)).drew = W := ⟨_, rfl⟩
    have hq : W.heap[w2.heap.size]? = some (.cells #[a0, a1, a2, a3] 89 (0, 0)) := by
      rw [← hW]
      exact (push_get _ _ _).trans (if_pos rfl)
    have hC2 : Ext w2 W := by rw [← hW]; exact ((Ext.refl w2).push _).drew
    rw [hW] at hEW ⊢
    have hqv : v.ownBlock ≠ some w2.heap.size := fun e => by have := hrow'.out.lt e; have := hE1.size; omega
    refine insert_c (X := bs :: X) (cs := [a0, a1, a2, a3]) (u := t) (hrow'.out.ext hEW) (hX'.out.le hEW.size) hq (kPe.mv ht'.out (hEW.mv _)) hqv hat'.out.1 hbytes'.out _ ?_
    intro w3 v' hrow3 hg3 hne3 hd3
    have hvo3 := hrow3.one
    have hb3 : w3.heap[bs]? = some (.cells old T (0, 0)) := (hg3.block bs (Nat.lt_of_lt_of_le hblt hEW.size) (hrow'.out.notin (by simp))).trans ((hEW.below.block bs hblt).trans hb'.out)
    have hrow3' := Lib.hid hrow3
    have hd3' := Lib.hid hd3
    have hg3' := Lib.hid hg3
    have hEW' := Lib.hid hEW
    clear hrow3 hd3 hg3 hEW hq hW hqv hC2
    refine hK _ _ (fun h => by simp at h) ?_
    clear hK
    iterate 2 (apply scr_pure'; (· rfl); (· rfl); (· (intro w'; go_simp; try rfl)); (· (simp [go_sem]; try rfl)))
    refine scr_one rfl rfl (fun K hK => ?_)
    refine wp_storeC 79 _ _ rfl Tryz.info79 (v := v') (new := old.setIfInBounds off v') (by go_simp) (by go_simp) hvo3 hb3 hoff'.out rfl ?_
    intro w4 h4 g4
    refine hK _ _ (fun h => by simp at h) ?_
    clear hK
    refine scr_end ?_
    have h4' := Lib.hid h4
    have g4' := Lib.hid g4
    clear h4 g4
    refine bodyPost_end (by simp [results, Tryz.results51, go_sem]) rfl (hR'.out w4 v' i hat'.out h4'.out ?_ (ins_mut hEW'.out hg3'.out g4'.out) (fun g h => (hd3'.out g h).imp id (fun e => Nat.le_trans hEW'.out.size e)))
    unfold insAt
    rw [hfb'.out]
    exact hrow3'.out.keep g4'.out (by simp)
  · go_wp2_with fail
    refine bodyPost_ret (by simp [results, Tryz.results51, go_sem]) rfl (hR'.out w2 v i hat'.out ?_ ?_ (hE1.mut _) (fun g h => .inl h))
    · rw [hself'.out]
      exact (hE1.below.block bs hblt).trans hb'.out
    · unfold insAt
      rw [hfb'.out]
      exact hrow'.out.ext hE1
end Go.Proofs.YtihapgangilncaaGreat
namespace Go.Proofs.YtihapgangilncaaGreat
open Go.RowKit
set_option linter.unusedSimpArgs false

theorem cmpT_neg' (s t : T) : cmpT t s = - cmpT s t := cmpP_neg _ _
theorem cmpT_rng' (s t : T) : cmpT s t = -1 ∨ cmpT s t = 0 ∨ cmpT s t = 1 := cmpP_rng _ _
theorem cmpPe_neg' (a b : PEl) : cmpPe b a = - cmpPe a b := by
  cases a <;> cases b <;> simp only [cmpPe] <;> first | rfl | exact cmpS_neg _ _ | exact cmpE_neg cmpT_neg' _ _ | exact cmpT_neg' _ _ | exact cmpI_neg _ _
theorem cmpPe_rng' (a b : PEl) : cmpPe a b = -1 ∨ cmpPe a b = 0 ∨ cmpPe a b = 1 := by
  cases a <;> cases b <;> simp only [cmpPe] <;> first | exact cmpS_rng _ _ | exact cmpE_rng cmpT_rng' _ _ | exact cmpT_rng' _ _ | exact cmpI_rng _ _ | simp

end Go.Proofs.YtihapgangilncaaGreat
namespace Go.Proofs.YtihapgangilncaaGreat
open Go.RowKit
set_option linter.unusedSimpArgs false

def GoodPe : PEl → Prop
  | .key fs => ∀ p ∈ fs, GoodT p.2
  | .value t => GoodT t
  | _ => True
theorem good_plain (v : V) : v.clean.orderly = true → GoodT v.plain := by
  induction v using V.ind with
  | h kind n f s keys l ih =>
    intro h
    simp only [V.plain]
    simp only [V.clean] at h
    split
    · exact .bool _
    rename_i k1
    rw [if_neg k1] at h
    split
    · rename_i k2
      rw [if_pos k2] at h
      simp [V.orderly] at h
      exact .int h.1 h.2
    rename_i k2
    rw [if_neg k2] at h
    split
    · rename_i k3
      rw [if_pos k3] at h
      exact .float (noNan_of (by simpa [V.orderly] using h))
    rename_i k3
    rw [if_neg k3] at h
    split
    · exact .str _
    rename_i k4
    rw [if_neg k4] at h
    split
    · rename_i k5
      rw [if_pos k5] at h
      have h' : V.orderlyL (V.cleanL l) = true := by simpa [V.orderly] using h
      refine .list fun i hi => ?_
      rw [V.plainL_eq] at hi
      simp only [V.plainL_eq, List.getElem_map]
      have hil : i < l.length := by simpa using hi
      have := (orderlyL_iff _).1 h' i (by rw [cleanL_length]; exact hil)
      rw [cleanL_get hil] at this
      exact ih i hil this
    rename_i k5
    rw [if_neg k5] at h
    split
    · rename_i k6
      rw [if_pos k6] at h
      have h' : V.orderlyL ((insAll [] (keys.zip (V.cleanL l))).map (·.2)) = true := by simpa [V.orderly] using h
      refine .map fun i hi => ?_
      obtain ⟨p, hp, e⟩ := List.mem_map.1 (List.getElem_mem hi)
      rw [← e]
      have hz : keys.zip (V.plainL l) = (keys.zip l).map fun p => (p.1, p.2.plain) := by rw [V.plainL_eq, zip_map_right]
      rw [hz] at hp
      have hl1 := lookK_at (putAll_nodup _) hp
      rw [← lookK_insAll, ← insAll_map, lookK_map] at hl1
      cases hv : lookK p.1 (insAll [] (keys.zip l)) with
      | none => rw [hv] at hl1; cases hl1
      | some v =>
        rw [hv] at hl1
        have hpv : v.plain = p.2 := by simpa using hl1
        rw [← hpv]
        have hm := lookK_mem hv
        have hml := (List.of_mem_zip (insAll_sub hm)).2
        obtain ⟨j, hj, ej⟩ := List.getElem_of_mem hml
        subst ej
        refine ih j hj ?_
        have hc : (p.1, (l[j]).clean) ∈ insAll [] (keys.zip (V.cleanL l)) := by
          rw [V.cleanL_eq, ← zip_map_right, ← insAll_map]
          exact List.mem_map.2 ⟨_, hm, rfl⟩
        obtain ⟨q, hq, eq⟩ := List.getElem_of_mem (List.mem_map.2 ⟨_, hc, rfl⟩ : (l[j]).clean ∈ (insAll [] (keys.zip (V.cleanL l))).map (·.2))
        have := (orderlyL_iff _).1 h' q hq
        rw [eq] at this
        exact this
    · exact .null

theorem key_tame' {e : EL} (h : tameEl e) (hk : e.kind = 1) : ∀ p ∈ e.keys.zip (V.plainL e.l), ∃ v : V, p.2 = v.plain ∧ v.clean.orderly = true := by
  intro p hp
  rw [V.plainL_eq, ← zip_map_right] at hp
  obtain ⟨q, hq, rfl⟩ := List.mem_map.1 hp
  obtain ⟨i, hi, rfl⟩ := List.getElem_of_mem hq
  obtain ⟨-, h2⟩ := h
  unfold cleanEl at h2
  rw [if_pos hk] at h2
  have hi1 : i < e.keys.length := by rw [List.length_zip] at hi; omega
  have hi2 : i < e.l.length := by rw [List.length_zip] at hi; omega
  have ho := (orderlyL_iff _).1 h2 i (by rw [cleanL_length, List.length_take]; omega)
  have e1 : (V.cleanL (e.l.take (min e.keys.length e.l.length)))[i]'(by rw [cleanL_length, List.length_take]; omega) = (e.l[i]).clean := by
    rw [cleanL_get (by rw [List.length_take]; omega), List.getElem_take]
  rw [e1] at ho
  exact ⟨e.l[i], by simp, ho⟩
theorem value_tame' {e : EL} (h : tameEl e) (hk : e.kind = 2) : e.v.clean.orderly = true := by
  obtain ⟨h1, -⟩ := h
  unfold cleanEl at h1
  rw [if_neg (by omega), if_pos hk] at h1
  exact h1
theorem good_toE {e : EL} (h : tameEl e) : GoodPe (toE e) := by
  unfold toE
  split
  · rename_i k1
    intro p hp
    obtain ⟨v, e1, h1⟩ := key_tame' h k1 p hp
    rw [e1]
    exact good_plain v h1
  · split
    · rename_i k2
      exact good_plain _ (value_tame' h k2)
    · split <;> trivial
end Go.Proofs.YtihapgangilncaaGreat
namespace Go.Proofs.YtihapgangilncaaGreat
open Go.RowKit
set_option linter.unusedSimpArgs false

theorem toE_rank (e : EL) : toE e = if rankOf e.kind = 1 then .key (e.keys.zip (V.plainL e.l)) else if rankOf e.kind = 2 then .value e.v.plain else if rankOf e.kind = 3 then .index e.n else .field e.s := by
  unfold toE rankOf
  by_cases h1 : e.kind = 1 <;> by_cases h2 : e.kind = 2 <;> by_cases h3 : e.kind = 3 <;> simp [h1, h2, h3]
theorem rankOf_cases (k : Int) : rankOf k = 0 ∨ rankOf k = 1 ∨ rankOf k = 2 ∨ rankOf k = 3 := by
  unfold rankOf; split <;> omega
theorem rank_law (a b : EL) (h : rankOf a.kind ≠ rankOf b.kind) : cmpPe (toE a) (toE b) = cmpI (rankOf a.kind) (rankOf b.kind) := by
  rw [toE_rank, toE_rank]
  rcases rankOf_cases a.kind with e1 | e1 | e1 | e1 <;> rcases rankOf_cases b.kind with e2 | e2 | e2 | e2 <;> rw [e1, e2] at h ⊢ <;> first | (exact absurd rfl h) | (simp [cmpPe, cmpI])
theorem rank_one (a b : EL) (h1 : rankOf a.kind = 1) (h2 : rankOf b.kind = 1) : cmpPe (toE a) (toE b) = cmpE rV (a.keys.zip a.l) (b.keys.zip b.l) := by
  rw [toE_rank, toE_rank, h1, h2, if_pos rfl, if_pos rfl]
  simp only [cmpPe, V.plainL_eq, ← zip_map_right]
  rw [cmpE_map]
  congr 1
  funext x y
  exact cmpT_plain x y
theorem rank_two (a b : EL) (h1 : rankOf a.kind = 2) (h2 : rankOf b.kind = 2) : cmpPe (toE a) (toE b) = V.cmpP a.v.clean b.v.clean := by
  rw [toE_rank, toE_rank, h1, h2]
  exact cmpT_plain _ _
theorem rank_three (a b : EL) (h1 : rankOf a.kind = 3) (h2 : rankOf b.kind = 3) : cmpPe (toE a) (toE b) = cmpI a.n b.n := by
  rw [toE_rank, toE_rank, h1, h2]; rfl
theorem rank_none (a b : EL) (h1 : rankOf a.kind ≠ 1) (h2 : rankOf a.kind ≠ 2) (h3 : rankOf a.kind ≠ 3) (h : rankOf a.kind = rankOf b.kind) : cmpPe (toE a) (toE b) = cmpS a.s b.s := by
  rw [toE_rank, toE_rank, ← h, if_neg h1, if_neg h2, if_neg h3, if_neg h1, if_neg h2, if_neg h3]; rfl

set_option maxRecDepth 100000 in
set_option maxHeartbeats 4000000 in
set_option pp.maxSteps 1000000 in
set_option pp.deepTerms true in
theorem specCompareElems_c {w : World} {X Y : List Nat} {cs ds : List Value} {a b : EL} (ha : kEl.is w X cs a) (hb : kEl.is w Y ds b) (R : Ending → World → Prop) (hR : Ends R w (.int .i64 (cmpPe (toE a) (toE b)))) :
    Calls Tryz.prog 55 #[.agg cs.toArray, .agg ds.toArray] w R := by
  have ha' := Lib.hid ha
  have hb' := Lib.hid hb
  obtain ⟨kind, s, keys, l, v, n⟩ := a
  obtain ⟨kind2, s2, keys2, l2, v2, n2⟩ := b
  obtain ⟨vk, vl, vs, rfl, -, -, hsz, hks, hl, hv⟩ := ha
  obtain ⟨vk2, vl2, vs2, rfl, -, -, -, hks2, hl2, hv2⟩ := hb
  dsimp only at hks hl hv hks2 hl2 hv2 hsz ⊢
  obtain ⟨x, rfl⟩ := hv.shape
  obtain ⟨y, rfl⟩ := hv2.shape
  obtain ⟨ko, kc, kb, koff, rfl, k2, k3, -, -⟩ := id hks.ex
  obtain ⟨o, c, b, off, rfl, c2, c3, -, -⟩ := id hl.ex
  obtain ⟨ko2, kc2, kb2, koff2, rfl, j2, j3, -, -⟩ := id hks2.ex
  obtain ⟨o2, d, b2, off2, rfl, d2, d3, -, -⟩ := id hl2.ex
  have hv' := Lib.hid hv
  have hv2' := Lib.hid hv2
  have hR' := Lib.hid hR
  clear hR hks hl hv hks2 hl2 hv2
  simp only [Cells6.list, List.cons_append, List.nil_append] at ha' hb' ⊢
  go_enter Tryz.func55, Tryz.ntmps55
  go_wp2_with fail
  refine abs2 (G := Code.wp _ _ _ _) ?_
  intro w1 hE1 hb1 hb2 hs1
  have e0 : w1.cell? ⟨w.heap.size, 0, none⟩ = some (.int .i64 kind) := cells_of hb1 0; have e1 : w1.cell? ⟨w.heap.size, 1, none⟩ = some (.string s) := cells_of hb1 1; have e2 : w1.cell? ⟨w.heap.size, 2, none⟩ = some (.slice ko keys.length kc) := cells_of hb1 2; have e3 : w1.cell? ⟨w.heap.size, 3, none⟩ = some (.slice o l.length c) := cells_of hb1 3; have e4 : w1.cell? ⟨w.heap.size, 4, none⟩ = some (.int .i64 x.kind) := cells_of hb1 4; have e5 : w1.cell? ⟨w.heap.size, 5, none⟩ = some (.int .i64 x.n) := cells_of hb1 5; have e6 : w1.cell? ⟨w.heap.size, 6, none⟩ = some (.float .f64 x.f) := cells_of hb1 6; have e7 : w1.cell? ⟨w.heap.size, 7, none⟩ = some (.string x.s) := cells_of hb1 7; have e8 : w1.cell? ⟨w.heap.size, 8, none⟩ = some (.slice x.ko x.kn x.kc) := cells_of hb1 8; have e9 : w1.cell? ⟨w.heap.size, 9, none⟩ = some (.slice x.o x.m x.c) := cells_of hb1 9; have e10 : w1.cell? ⟨w.heap.size, 10, none⟩ = some (.int .i64 n) := cells_of hb1 10
  have f0 : w1.cell? ⟨w.heap.size + 1, 0, none⟩ = some (.int .i64 kind2) := cells_of hb2 0; have f1 : w1.cell? ⟨w.heap.size + 1, 1, none⟩ = some (.string s2) := cells_of hb2 1; have f2 : w1.cell? ⟨w.heap.size + 1, 2, none⟩ = some (.slice ko2 keys2.length kc2) := cells_of hb2 2; have f3 : w1.cell? ⟨w.heap.size + 1, 3, none⟩ = some (.slice o2 l2.length d) := cells_of hb2 3; have f4 : w1.cell? ⟨w.heap.size + 1, 4, none⟩ = some (.int .i64 y.kind) := cells_of hb2 4; have f5 : w1.cell? ⟨w.heap.size + 1, 5, none⟩ = some (.int .i64 y.n) := cells_of hb2 5; have f6 : w1.cell? ⟨w.heap.size + 1, 6, none⟩ = some (.float .f64 y.f) := cells_of hb2 6; have f7 : w1.cell? ⟨w.heap.size + 1, 7, none⟩ = some (.string y.s) := cells_of hb2 7; have f8 : w1.cell? ⟨w.heap.size + 1, 8, none⟩ = some (.slice y.ko y.kn y.kc) := cells_of hb2 8; have f9 : w1.cell? ⟨w.heap.size + 1, 9, none⟩ = some (.slice y.o y.m y.c) := cells_of hb2 9; have f10 : w1.cell? ⟨w.heap.size + 1, 10, none⟩ = some (.int .i64 n2) := cells_of hb2 10
  clear hb1 hb2 hs1
  have hC : Ext w1 w1.drew := (Ext.refl _).drew
  refine wp_region_script [0, 2, 5] [1] (fun w' => Ext w1 w') [(.read, 0), (.read, 2), (.one, 1), (.one, 3), (.one, 4), (.pure, 5)] (by kernel_rfl) (by kernel_rfl) ?_
  (apply scr_read'; (· rfl); (· rfl); (· first | exact hC | exact (Ext.refl _).drew); (· (intro w' hw'; have e0_ := hw'.keep e0; have e1_ := hw'.keep e1; have e2_ := hw'.keep e2; have e3_ := hw'.keep e3; have e4_ := hw'.keep e4; have e5_ := hw'.keep e5; have e6_ := hw'.keep e6; have e7_ := hw'.keep e7; have e8_ := hw'.keep e8; have e9_ := hw'.keep e9; have e10_ := hw'.keep e10; go_simp; try rfl)); (· (simp [go_sem]; try rfl)))
  (apply scr_read'; (· rfl); (· rfl); (· first | exact hC | exact (Ext.refl _).drew); (· (intro w' hw'; have f0_ := hw'.keep f0; have f1_ := hw'.keep f1; have f2_ := hw'.keep f2; have f3_ := hw'.keep f3; have f4_ := hw'.keep f4; have f5_ := hw'.keep f5; have f6_ := hw'.keep f6; have f7_ := hw'.keep f7; have f8_ := hw'.keep f8; have f9_ := hw'.keep f9; have f10_ := hw'.keep f10; go_simp; try rfl)); (· (simp [go_sem]; try rfl)))
  refine scr_one rfl rfl (fun K hK => ?_)
  go_simp
  refine elemRank_c _ ?_
  intro w2 hE2
  refine hK _ _ (fun _ => hC.trans hE2) ?_
  clear hK
  refine scr_one rfl rfl (fun K hK => ?_)
  go_simp
  refine elemRank_c _ ?_
  intro w3 hE3
  refine hK _ _ (fun h => by simp at h) ?_
  clear hK
  refine scr_one rfl rfl (fun K hK => ?_)
  go_simp
  refine specCompareInts_c _ ?_
  intro w3b hE3b
  refine hK _ _ (fun h => by simp at h) ?_
  clear hK
  have hE4 : Ext w1 w3b := hC.trans (hE2.trans (hE3.trans hE3b))
  replace e0 := hE4.keep e0; replace e1 := hE4.keep e1; replace e2 := hE4.keep e2; replace e3 := hE4.keep e3; replace e4 := hE4.keep e4; replace e5 := hE4.keep e5; replace e6 := hE4.keep e6; replace e7 := hE4.keep e7; replace e8 := hE4.keep e8; replace e9 := hE4.keep e9; replace e10 := hE4.keep e10; replace f0 := hE4.keep f0; replace f1 := hE4.keep f1; replace f2 := hE4.keep f2; replace f3 := hE4.keep f3; replace f4 := hE4.keep f4; replace f5 := hE4.keep f5; replace f6 := hE4.keep f6; replace f7 := hE4.keep f7; replace f8 := hE4.keep f8; replace f9 := hE4.keep f9; replace f10 := hE4.keep f10
  have hA := hE1.trans hE4
  clear hE4 hE1 hE2 hE3 hE3b hC
  by_cases hrk : rankOf kind = rankOf kind2
  rotate_left
  · obtain ⟨z, hz⟩ : ∃ z, cmpI (rankOf kind) (rankOf kind2) = z := ⟨_, rfl⟩
    have hz0 : z ≠ 0 := fun h => hrk (cmpI_zero.1 (hz.trans h))
    have hzb : (z == 0) = false := by simpa using hz0
    have hlaw := Lib.hid (rank_law ⟨kind, s, keys, l, v, n⟩ ⟨kind2, s2, keys2, l2, v2, n2⟩ hrk)
    rw [hz]
    have hz' := Lib.hid hz
    clear hrk hz
    (apply scr_pure'; (· rfl); (· rfl); (· (intro w'; go_simp; try rfl)); (· (simp [go_sem]; try rfl)))
    refine scr_end ?_
    simp only [Exit.then]
    go_wp2_with fail
    exact hR'.out.int (by rw [hlaw.out]; exact hz'.out) _ hA
  rw [cmpI_zero.2 hrk]
  have hrk' := Lib.hid hrk
  clear hrk
  (apply scr_pure'; (· rfl); (· rfl); (· (intro w'; go_simp; try rfl)); (· (simp [go_sem]; try rfl)))
  refine scr_end ?_
  simp only [Exit.then]
  go_wp2_with fail
  refine elemRank_c _ ?_
  intro w4 hE4
  replace e0 := hE4.keep e0; replace e1 := hE4.keep e1; replace e2 := hE4.keep e2; replace e3 := hE4.keep e3; replace e4 := hE4.keep e4; replace e5 := hE4.keep e5; replace e6 := hE4.keep e6; replace e7 := hE4.keep e7; replace e8 := hE4.keep e8; replace e9 := hE4.keep e9; replace e10 := hE4.keep e10; replace f0 := hE4.keep f0; replace f1 := hE4.keep f1; replace f2 := hE4.keep f2; replace f3 := hE4.keep f3; replace f4 := hE4.keep f4; replace f5 := hE4.keep f5; replace f6 := hE4.keep f6; replace f7 := hE4.keep f7; replace f8 := hE4.keep f8; replace f9 := hE4.keep f9; replace f10 := hE4.keep f10
  replace hA := hA.trans hE4
  clear hE4
  dsimp only
  have hk : rankOf kind = 1 ∨ rankOf kind = 2 ∨ rankOf kind = 3 ∨ ((rankOf kind == 1) = false ∧ (rankOf kind == 2) = false ∧ (rankOf kind == 3) = false) := by
    by_cases h1 : rankOf kind = 1 <;> by_cases h2 : rankOf kind = 2 <;> by_cases h3 : rankOf kind = 3 <;> simp [h1, h2, h3]
  rcases hk with hk | hk | hk | ⟨q1, q2, q3⟩
  · have hlaw := Lib.hid (rank_one ⟨kind, s, keys, l, v, n⟩ ⟨kind2, s2, keys2, l2, v2, n2⟩ hk (hrk'.out ▸ hk))
    rw [hk]
    clear hk
    go_wp2_with fail
    refine specCompareKeys_c (kEl.mv ha'.out (hA.mv _)) (kEl.mv hb'.out (hA.mv _)) _ ?_
    intro w5 hE5
    dsimp only
    go_wp2_with fail
    exact hR'.out.int hlaw.out _ (hA.trans hE5)
  · have hlaw := Lib.hid (rank_two ⟨kind, s, keys, l, v, n⟩ ⟨kind2, s2, keys2, l2, v2, n2⟩ hk (hrk'.out ▸ hk))
    rw [hk]
    clear hk
    go_wp2_with fail
    refine specCompareValues_c (cs := x.list) (ds := y.list) (hv'.out.mv (hA.mv _)) (hv2'.out.mv (hA.mv _)) _ ?_
    intro w5 hE5
    dsimp only
    go_wp2_with fail
    exact hR'.out.int hlaw.out _ (hA.trans hE5)
  · have hlaw := Lib.hid (rank_three ⟨kind, s, keys, l, v, n⟩ ⟨kind2, s2, keys2, l2, v2, n2⟩ hk (hrk'.out ▸ hk))
    rw [hk]
    clear hk
    go_wp2_with fail
    refine specCompareInts_c _ ?_
    intro w5 hE5
    dsimp only
    go_wp2_with fail
    exact hR'.out.int hlaw.out _ (hA.trans hE5)
  · have hlaw := Lib.hid (rank_none ⟨kind, s, keys, l, v, n⟩ ⟨kind2, s2, keys2, l2, v2, n2⟩ (by simpa using q1) (by simpa using q2) (by simpa using q3) hrk'.out)
    go_wp2_with fail
    refine specCompareStrings_c hsz _ ?_
    intro w5 hE5
    dsimp only
    go_wp2_with fail
    exact hR'.out.int hlaw.out _ (hA.trans hE5)
end Go.Proofs.YtihapgangilncaaGreat
