/- PathElementSet.Insert. Sets of path elements as sorted lists (plain), and impl.toElemSet. impl.toElemSet: the elements put into a set one after the other. Orderly path elements: the comparison among them is transitive (plain). -/
import Derived.Test.YtihapgangilncaaGreatKDBSearch
import Derived.Test.YtihapgangilncaaGreatKDTransT
import Derived.Test.YtihapgangilncaaGreatKDTameS
namespace Go.Proofs.YtihapgangilncaaGreat
open Go.RowKit
set_option linter.unusedSimpArgs false

theorem ins_mut {w wz w8 w9 : World} {bo : Nat} {v : Value} (hE : Ext w wz) (h8 : wz.grownBy w8 v.ownBlock) (h9 : w8.grownBy w9 (some bo)) : Mut w (bo :: vb v) w9 :=
  ⟨h9.os.trans (h8.os.trans hE.below.os), h9.tape.trans (h8.tape.trans hE.below.tape), h9.output.trans (h8.output.trans hE.below.output), Nat.le_trans hE.size (Nat.le_trans h8.size h9.size), fun i hi hx => by
    simp only [List.mem_cons, not_or] at hx
    have h1 := Nat.lt_of_lt_of_le hi hE.size
    exact (h9.block i (Nat.lt_of_lt_of_le h1 h8.size) (fun e => hx.1 (Option.some.inj e))).trans ((h8.block i h1 (fun e => hx.2 (by simp [vb, ← e]))).trans (hE.below.block i hi))⟩
/-- the set us with t put in at place i, if it is not there -/
def insAt (us : List PEl) (t : PEl) (i : Nat) : List PEl := if HasAt us t i then us else us.take i ++ t :: us.drop i

theorem Tryz.info79 : (Tryz.prog.info? 79).map (fun i => (i.zero, i.size, i.bytes)) = some (some (.slice none 0 0), 1, 24) := by kernel_rfl

set_option maxRecDepth 100000 in
set_option maxHeartbeats 8000000 in
set_option pp.maxSteps 1000000 in
set_option pp.deepTerms true in
theorem esInsert_c {w : World} {X : List Nat} {bs off : Nat} {old : Array Value} {T : TypeId} {v : Value} {us : List PEl} {cs : List Value} {t : PEl} (hb : w.heap[bs]? = some (.cells old T (0, 0))) (hoff : off < old.size) (hov : old[off]? = some v)
    (hrow : Row kPe 89 w (bs :: X) v us) (hX : Old (bs :: X) w) (ht : kPe.is w (vb v ++ bs :: X) cs t) (hmono : ∀ i j (hi : i < us.length) (hj : j < us.length), i ≤ j → cmpPe us[j] t < 0 → cmpPe us[i] t < 0)
    (hbytes : (us.length + 1) * 32 ≤ 140737488351232) (R : Ending → World → Prop)
    (hR : ∀ w' v' i, At us t i → w'.heap[bs]? = some (.cells (old.setIfInBounds off v') T (0, 0)) → Row kPe 89 w' (bs :: X) v' (insAt us t i) → Mut w (bs :: vb v) w' → (∀ g, v'.ownBlock = some g → v.ownBlock = some g ∨ w.heap.size ≤ g) → R (.returned (.tuple #[])) w') :
    Calls Tryz.prog 51 #[.pointer (some ⟨bs, off, none⟩), .agg cs.toArray] w R := by
  obtain ⟨a0, a1, a2, a3, rfl, o0, o1, o2, o3⟩ := kPe_4 ht
  have hsl := hrow.isSl (bytes := 32) (Nat.le_trans (Nat.mul_le_mul_right _ (Nat.le_succ _)) hbytes)
  have hvo := hrow.one
  have hblt := (Array.getElem?_eq_some_iff.1 hb).1
  have c0 : w.cell? ⟨bs, off, none⟩ = some v := by rw [cells_of hb]; exact hov
  have hself : old.setIfInBounds off v = old := by
    apply Array.ext_getElem?
    intro j
    rw [Array.getElem?_setIfInBounds]
    split
    · rename_i e; rw [← e, hov]
    · rfl
  have hsl' := Lib.hid (hsl.mv ((Mv.refl w _).less (Z := []) (by simp)) (by decide))
  have hb' := Lib.hid hb
  have hoff' := Lib.hid hoff
  have hrow' := Lib.hid hrow
  have hX' := Lib.hid hX
  have ht' := Lib.hid ht
  have hm' := Lib.hid hmono
  have hbytes' := Lib.hid hbytes
  have hself' := Lib.hid hself
  have hR' := Lib.hid hR
  clear hb hoff hov hrow hX ht hmono hbytes hR hsl hself
  go_enter Tryz.func51, Tryz.ntmps51
  go_wp2_with fail
  refine abs1 (G := fun wr => Code.wp _ _ _ _ wr) ?_
  intro w1 hE1 hb1 hs1
  have e0 : w1.cell? ⟨w.heap.size, 0, none⟩ = some (a0) := cells_of hb1 0; have e1 : w1.cell? ⟨w.heap.size, 1, none⟩ = some (a1) := cells_of hb1 1; have e2 : w1.cell? ⟨w.heap.size, 2, none⟩ = some (a2) := cells_of hb1 2; have e3 : w1.cell? ⟨w.heap.size, 3, none⟩ = some (a3) := cells_of hb1 3
  replace c0 := hE1.keep c0
  clear hb1 hs1
  refine wp_region_script [0, 1, 2, 3, 4, 6, 7, 8, 9, 10] [] (fun w' => Ext w1 w') [(.pure, 0), (.pure, 1), (.pure, 2), (.read, 3), (.read, 4), (.one, 5), (.pure, 6), (.pure, 7), (.pure, 8), (.pure, 9), (.pure, 10)] (by kernel_rfl) (by kernel_rfl) ?_
  have hC : Ext w1 w1.drew := (Ext.refl _).drew
  iterate 3 (apply scr_pure'; (· rfl); (· rfl); (· (intro w'; go_simp; try rfl)); (· (simp [go_sem]; try rfl)))
  (apply scr_read'; (· rfl); (· rfl); (· first | exact hC | exact (Ext.refl _).drew); (· (intro w' hw'; have c0_ := hw'.keep c0; go_simp; try rfl)); (· (simp [go_sem]; try rfl)))
  (apply scr_read'; (· rfl); (· rfl); (· first | exact hC | exact (Ext.refl _).drew); (· (intro w' hw'; have e0_ := hw'.keep e0; have e1_ := hw'.keep e1; have e2_ := hw'.keep e2; have e3_ := hw'.keep e3; go_simp; try rfl)); (· (simp [go_sem]; try rfl)))
  refine scr_one rfl rfl (fun K hK => ?_)
  go_simp
  refine bsearch_c (cs := [a0, a1, a2, a3]) (t := t) (hsl'.out.mv ((hE1.trans hC).mv []) (by decide)) (kPe.mv (kPe.mv ht'.out ((Mv.refl w _).less (Z := []) (by simp))) ((hE1.trans hC).mv [])) hm'.out _ ?_
  intro w2 i hE2 hat
  have hE12 := hC.trans hE2
  refine hK _ _ (fun h => by simp at h) ?_
  clear hK
  obtain ⟨fb, hfb⟩ : ∃ q, HasAt us t i = q := ⟨_, rfl⟩
  rw [hfb]
  have hfb' := Lib.hid hfb
  have hat' := Lib.hid hat
  clear hfb hat
  iterate 5 (apply scr_pure'; (· rfl); (· rfl); (· (intro w'; go_simp; try rfl)); (· (simp [go_sem]; try rfl)))
  refine scr_end ?_
  simp only [Exit.then]
  replace c0 := hE12.keep c0; replace e0 := hE12.keep e0; replace e1 := hE12.keep e1; replace e2 := hE12.keep e2; replace e3 := hE12.keep e3
  replace hE1 := hE1.trans hE12
  clear hE2 hE12 hC
  cases fb
  · go_wp2_with fail
    refine wp_region_script [0, 1, 2, 3, 4, 5, 6, 9, 10] [7] (fun w' => Ext w2 w') [(.pure, 0), (.pure, 1), (.pure, 2), (.pure, 3), (.read, 4), (.pure, 5), (.read, 6), (.one, 7), (.one, 8), (.pure, 9), (.pure, 10), (.one, 11)] (by kernel_rfl) (by kernel_rfl) ?_
    have hC : Ext w2 w2.drew := (Ext.refl _).drew
    iterate 4 (apply scr_pure'; (· rfl); (· rfl); (· (intro w'; go_simp; try rfl)); (· (simp [go_sem]; try rfl)))
    (apply scr_read'; (· rfl); (· rfl); (· first | exact hC | exact (Ext.refl _).drew); (· (intro w' hw'; have c0_ := hw'.keep c0; go_simp; try rfl)); (· (simp [go_sem]; try rfl)))
    (apply scr_pure'; (· rfl); (· rfl); (· (intro w'; go_simp; try rfl)); (· (simp [go_sem]; try rfl)))
    (apply scr_read'; (· rfl); (· rfl); (· first | exact hC | exact (Ext.refl _).drew); (· (intro w' hw'; have e0_ := hw'.keep e0; have e1_ := hw'.keep e1; have e2_ := hw'.keep e2; have e3_ := hw'.keep e3; go_simp; try rfl)); (· (simp [go_sem]; try rfl)))
    refine scr_one rfl rfl (fun K hK => ?_)
    go_simp
    refine hK _ _ (fun _ => hC.push _) ?_
    clear hK
    refine scr_one rfl rfl (fun K hK => ?_)
    go_simp
    have hEW : Ext w (w2.alloc (.cells #[a0, a1, a2, a3] 89)).drew := (hE1.push _).drew
    obtain ⟨W, hW⟩ : ∃ W, (w2.alloc (.cells #[a0, a1, a2, a3] 89)).drew = W := ⟨_, rfl⟩
    have hq : W.heap[w2.heap.size]? = some (.cells #[a0, a1, a2, a3] 89 (0, 0)) := by
      rw [← hW]
      exact (push_get _ _ _).trans (if_pos rfl)
    have hC2 : Ext w2 W := by rw [← hW]; exact ((Ext.refl w2).push _).drew
    rw [hW] at hEW ⊢
    have hqv : v.ownBlock ≠ some w2.heap.size := fun e => by have := hrow'.out.lt e; have := hE1.size; omega
    refine insert_c (X := bs :: X) (cs := [a0, a1, a2, a3]) (u := t) (hrow'.out.ext hEW) (hX'.out.le hEW.size) hq (kPe.mv ht'.out (hEW.mv _)) hqv hat'.out.1 hbytes'.out _ ?_
    intro w3 v' hrow3 hg3 hne3 hd3
    have hvo3 := hrow3.one
    have hb3 : w3.heap[bs]? = some (.cells old T (0, 0)) := (hg3.block bs (Nat.lt_of_lt_of_le hblt hEW.size) (hrow'.out.notin (by simp))).trans ((hEW.below.block bs hblt).trans hb'.out)
    have hrow3' := Lib.hid hrow3
    have hd3' := Lib.hid hd3
    have hg3' := Lib.hid hg3
    have hEW' := Lib.hid hEW
    clear hrow3 hd3 hg3 hEW hq hW hqv hC2
    refine hK _ _ (fun h => by simp at h) ?_
    clear hK
    iterate 2 (apply scr_pure'; (· rfl); (· rfl); (· (intro w'; go_simp; try rfl)); (· (simp [go_sem]; try rfl)))
    refine scr_one rfl rfl (fun K hK => ?_)
    refine wp_storeC 79 _ _ rfl Tryz.info79 (v := v') (new := old.setIfInBounds off v') (by go_simp) (by go_simp) hvo3 hb3 hoff'.out rfl ?_
    intro w4 h4 g4
    refine hK _ _ (fun h => by simp at h) ?_
    clear hK
    refine scr_end ?_
    have h4' := Lib.hid h4
    have g4' := Lib.hid g4
    clear h4 g4
    refine bodyPost_end (by simp [results, Tryz.results51, go_sem]) rfl (hR'.out w4 v' i hat'.out h4'.out ?_ (ins_mut hEW'.out hg3'.out g4'.out) (fun g h => (hd3'.out g h).imp id (fun e => Nat.le_trans hEW'.out.size e)))
    unfold insAt
    rw [hfb'.out]
    exact hrow3'.out.keep g4'.out (by simp)
  · go_wp2_with fail
    refine bodyPost_ret (by simp [results, Tryz.results51, go_sem]) rfl (hR'.out w2 v i hat'.out ?_ ?_ (hE1.mut _) (fun g h => .inl h))
    · rw [hself'.out]
      exact (hE1.below.block bs hblt).trans hb'.out
    · unfold insAt
      rw [hfb'.out]
      exact hrow'.out.ext hE1
end Go.Proofs.YtihapgangilncaaGreat
namespace Go.Proofs.YtihapgangilncaaGreat
open Go.RowKit
set_option linter.unusedSimpArgs false

theorem cmpT_neg' (s t : T) : cmpT t s = - cmpT s t := cmpP_neg _ _
theorem cmpT_rng' (s t : T) : cmpT s t = -1 ∨ cmpT s t = 0 ∨ cmpT s t = 1 := cmpP_rng _ _
theorem cmpPe_neg' (a b : PEl) : cmpPe b a = - cmpPe a b := by
  cases a <;> cases b <;> simp only [cmpPe] <;> first | rfl | exact cmpS_neg _ _ | exact cmpE_neg cmpT_neg' _ _ | exact cmpT_neg' _ _ | exact cmpI_neg _ _
theorem cmpPe_rng' (a b : PEl) : cmpPe a b = -1 ∨ cmpPe a b = 0 ∨ cmpPe a b = 1 := by
  cases a <;> cases b <;> simp only [cmpPe] <;> first | exact cmpS_rng _ _ | exact cmpE_rng cmpT_rng' _ _ | exact cmpT_rng' _ _ | exact cmpI_rng _ _ | simp

/-- elements among which the comparison is transitive -/
def TransOn (G : PEl → Prop) : Prop := ∀ a b c, G a → G b → G c → cmpPe a b < 0 → cmpPe b c < 0 → cmpPe a c < 0
def SortedPe (us : List PEl) : Prop := ∀ i j (hi : i < us.length) (hj : j < us.length), i < j → cmpPe us[i] us[j] < 0

theorem mono_of {G : PEl → Prop} (hT : TransOn G) {us : List PEl} {t : PEl} (hs : SortedPe us) (hG : ∀ x ∈ us, G x) (ht : G t) : ∀ i j (hi : i < us.length) (hj : j < us.length), i ≤ j → cmpPe us[j] t < 0 → cmpPe us[i] t < 0 := by
  intro i j hi hj hij h
  by_cases e : i = j
  · subst e; exact h
  · exact hT _ _ _ (hG _ (List.getElem_mem hi)) (hG _ (List.getElem_mem hj)) ht (hs i j hi hj (by omega)) h

theorem insAt_mem {us : List PEl} {t x : PEl} {i : Nat} (h : x ∈ insAt us t i) : x = t ∨ x ∈ us := by
  unfold insAt at h
  split at h
  · exact .inr h
  · rcases List.mem_append.1 h with h | h
    · exact .inr (List.mem_of_mem_take h)
    · rcases List.mem_cons.1 h with h | h
      · exact .inl h
      · exact .inr (List.mem_of_mem_drop h)
theorem insAt_len {us : List PEl} {t : PEl} {i : Nat} (hi : i ≤ us.length) : (insAt us t i).length ≤ us.length + 1 := by
  unfold insAt
  split
  · omega
  · simp; omega

theorem sorted_ins {G : PEl → Prop} (hT : TransOn G) {us : List PEl} {t : PEl} {i : Nat} (hs : SortedPe us) (hG : ∀ x ∈ us, G x) (ht : G t) (hat : At us t i) : SortedPe (insAt us t i) := by
  unfold insAt
  by_cases hh : HasAt us t i = true
  · rw [if_pos hh]; exact hs
  rw [if_neg hh]
  obtain ⟨hi, hlo, hhi⟩ := hat
  have hgt : ∀ j (h : j < us.length), i ≤ j → cmpPe t us[j] < 0 := fun j h hij => by
    have hi' : i < us.length := by omega
    have h0 : cmpPe t us[i] < 0 := by
      have h1 := hhi i hi' (Nat.le_refl _)
      have h2 : cmpPe us[i] t ≠ 0 := fun e => hh (by simp [HasAt, hi', e])
      rw [cmpPe_neg' us[i] t]
      omega
    by_cases e : i = j
    · subst e; exact h0
    · exact hT _ _ _ ht (hG _ (List.getElem_mem hi')) (hG _ (List.getElem_mem h)) h0 (hs i j hi' h (by omega))
  have hget : ∀ k (h : k < (us.take i ++ t :: us.drop i).length), (us.take i ++ t :: us.drop i)[k] = if hk : k < i then us[k]'(by omega) else if hk2 : k = i then t else us[k - 1]'(by simp at h; omega) := fun k h => by
    have hl : (us.take i).length = i := by simp; omega
    by_cases hk : k < i
    · rw [dif_pos hk, List.getElem_append_left (by omega), List.getElem_take]
    · rw [dif_neg hk, List.getElem_append_right (by omega)]
      by_cases hk2 : k = i
      · subst hk2; simp [hl]
      · rw [dif_neg hk2]
        obtain ⟨m, rfl⟩ : ∃ m, k = i + 1 + m := ⟨k - i - 1, by omega⟩
        have e1 : i + 1 + m - (us.take i).length = m + 1 := by omega
        simp only [e1, List.getElem_cons_succ, List.getElem_drop]
        congr 1
        omega
  intro p q hp hq hpq
  have hlen : (us.take i ++ t :: us.drop i).length = us.length + 1 := by simp; omega
  rw [hget p hp, hget q hq]
  by_cases hpi : p < i
  · rw [dif_pos hpi]
    by_cases hqi : q < i
    · rw [dif_pos hqi]; exact hs p q (by omega) (by omega) hpq
    · rw [dif_neg hqi]
      by_cases hqe : q = i
      · rw [dif_pos hqe]; exact hlo p (by omega) hpi
      · rw [dif_neg hqe]; exact hs p (q - 1) (by omega) (by omega) (by omega)
  · rw [dif_neg hpi]
    have hqi : ¬ q < i := by omega
    have hqe : ¬ q = i := by omega
    rw [dif_neg hqi, dif_neg hqe]
    by_cases hpe : p = i
    · rw [dif_pos hpe]; exact hgt (q - 1) (by omega) (by omega)
    · rw [dif_neg hpe]; exact hs (p - 1) (q - 1) (by omega) (by omega) (by omega)

theorem at_count {us : List PEl} {t : PEl} {i : Nat} (h : At us t i) : us.countP (fun x => decide (cmpPe x t < 0)) = i := by
  obtain ⟨hi, hlo, hhi⟩ := h
  have e : us = us.take i ++ us.drop i := (List.take_append_drop i us).symm
  rw [e, List.countP_append]
  have h1 : (us.take i).countP (fun x => decide (cmpPe x t < 0)) = (us.take i).length := List.countP_eq_length.2 fun x hx => by
    obtain ⟨j, hj, rfl⟩ := List.getElem_of_mem hx
    rw [List.getElem_take]
    have : j < i := by simp at hj; omega
    exact decide_eq_true (hlo j (by omega) this)
  have h2 : (us.drop i).countP (fun x => decide (cmpPe x t < 0)) = 0 := List.countP_eq_zero.2 fun x hx => by
    obtain ⟨j, hj, rfl⟩ := List.getElem_of_mem hx
    rw [List.getElem_drop]
    have := hhi (i + j) (by simp at hj; omega) (by omega)
    simp; omega
  rw [h1, h2]
  simp; omega
def esIns (us : List PEl) (t : PEl) : List PEl := insAt us t (us.countP fun x => decide (cmpPe x t < 0))
def esOf (l : List PEl) : List PEl := l.foldl esIns []
theorem esOf_snoc (l : List PEl) (t : PEl) : esOf (l ++ [t]) = esIns (esOf l) t := by simp [esOf]
end Go.Proofs.YtihapgangilncaaGreat
namespace Go.Proofs.YtihapgangilncaaGreat
open Go.RowKit
set_option linter.unusedSimpArgs false

theorem esOf_sorted {G : PEl → Prop} (hT : TransOn G) {us : List PEl} {t : PEl} {i : Nat} (hs : SortedPe us) (hG : ∀ x ∈ us, G x) (ht : G t) (hat : At us t i) : insAt us t i = esIns us t ∧ SortedPe (esIns us t) ∧ (∀ x ∈ esIns us t, G x) ∧ (esIns us t).length ≤ us.length + 1 := by
  have e : insAt us t i = esIns us t := by unfold esIns; rw [at_count hat]
  rw [← e]
  exact ⟨rfl, sorted_ins hT hs hG ht hat, fun x hx => (insAt_mem hx).elim (fun h => h ▸ ht) (hG x), insAt_len hat.1⟩

theorem at_ex {t : PEl} : ∀ {us : List PEl}, (∀ i j (hi : i < us.length) (hj : j < us.length), i ≤ j → cmpPe us[j] t < 0 → cmpPe us[i] t < 0) → ∃ i, At us t i
  | [], _ => ⟨0, Nat.le_refl _, fun j h => by simp at h, fun j h => by simp at h⟩
  | x :: us, hm => by
    by_cases h : cmpPe x t < 0
    · obtain ⟨i, h1, h2, h3⟩ := at_ex (us := us) (fun i j hi hj hij hc => hm (i + 1) (j + 1) (by simpa using hi) (by simpa using hj) (by omega) (by simpa using hc))
      refine ⟨i + 1, by simpa using h1, fun j hj hji => ?_, fun j hj hij => ?_⟩
      · cases j with
        | zero => exact h
        | succ j => exact h2 j (by simpa using hj) (by omega)
      · cases j with
        | zero => omega
        | succ j => exact h3 j (by simpa using hj) (by omega)
    · refine ⟨0, Nat.zero_le _, fun j _ hj => by omega, fun j hj _ => Int.not_lt.1 fun hc => h ?_⟩
      exact hm 0 j (by simp) hj (Nat.zero_le _) hc
theorem esOf_facts {G : PEl → Prop} (hT : TransOn G) {l : List PEl} (hG : ∀ x ∈ l, G x) : SortedPe (esOf l) ∧ (∀ x ∈ esOf l, G x) ∧ (esOf l).length ≤ l.length := by
  induction l using snoc_ind with
  | h0 => exact ⟨fun i j hi => by simp [esOf] at hi, fun x hx => by simp [esOf] at hx, by simp [esOf]⟩
  | h1 l t ih =>
    obtain ⟨h1, h2, h3⟩ := ih (fun x hx => hG x (by simp [hx]))
    rw [esOf_snoc]
    have ht := hG t (by simp)
    obtain ⟨i, hat⟩ := at_ex (mono_of hT h1 h2 ht)
    obtain ⟨-, h4, h5, h6⟩ := esOf_sorted hT h1 h2 ht hat
    exact ⟨h4, h5, by simp; omega⟩

end Go.Proofs.YtihapgangilncaaGreat
namespace Go.Proofs.YtihapgangilncaaGreat
open Go.RowKit
set_option linter.unusedSimpArgs false

def GoodPe : PEl → Prop
  | .key fs => ∀ p ∈ fs, GoodT p.2
  | .value t => GoodT t
  | _ => True
theorem good_plain (v : V) : v.clean.orderly = true → GoodT v.plain := by
  induction v using V.ind with
  | h kind n f s keys l ih =>
    intro h
    simp only [V.plain]
    simp only [V.clean] at h
    split
    · exact .bool _
    rename_i k1
    rw [if_neg k1] at h
    split
    · rename_i k2
      rw [if_pos k2] at h
      simp [V.orderly] at h
      exact .int h.1 h.2
    rename_i k2
    rw [if_neg k2] at h
    split
    · rename_i k3
      rw [if_pos k3] at h
      exact .float (noNan_of (by simpa [V.orderly] using h))
    rename_i k3
    rw [if_neg k3] at h
    split
    · exact .str _
    rename_i k4
    rw [if_neg k4] at h
    split
    · rename_i k5
      rw [if_pos k5] at h
      have h' : V.orderlyL (V.cleanL l) = true := by simpa [V.orderly] using h
      refine .list fun i hi => ?_
      rw [V.plainL_eq] at hi
      simp only [V.plainL_eq, List.getElem_map]
      have hil : i < l.length := by simpa using hi
      have := (orderlyL_iff _).1 h' i (by rw [cleanL_length]; exact hil)
      rw [cleanL_get hil] at this
      exact ih i hil this
    rename_i k5
    rw [if_neg k5] at h
    split
    · rename_i k6
      rw [if_pos k6] at h
      have h' : V.orderlyL ((insAll [] (keys.zip (V.cleanL l))).map (·.2)) = true := by simpa [V.orderly] using h
      refine .map fun i hi => ?_
      obtain ⟨p, hp, e⟩ := List.mem_map.1 (List.getElem_mem hi)
      rw [← e]
      have hz : keys.zip (V.plainL l) = (keys.zip l).map fun p => (p.1, p.2.plain) := by rw [V.plainL_eq, zip_map_right]
      rw [hz] at hp
      have hl1 := lookK_at (putAll_nodup _) hp
      rw [← lookK_insAll, ← insAll_map, lookK_map] at hl1
      cases hv : lookK p.1 (insAll [] (keys.zip l)) with
      | none => rw [hv] at hl1; cases hl1
      | some v =>
        rw [hv] at hl1
        have hpv : v.plain = p.2 := by simpa using hl1
        rw [← hpv]
        have hm := lookK_mem hv
        have hml := (List.of_mem_zip (insAll_sub hm)).2
        obtain ⟨j, hj, ej⟩ := List.getElem_of_mem hml
        subst ej
        refine ih j hj ?_
        have hc : (p.1, (l[j]).clean) ∈ insAll [] (keys.zip (V.cleanL l)) := by
          rw [V.cleanL_eq, ← zip_map_right, ← insAll_map]
          exact List.mem_map.2 ⟨_, hm, rfl⟩
        obtain ⟨q, hq, eq⟩ := List.getElem_of_mem (List.mem_map.2 ⟨_, hc, rfl⟩ : (l[j]).clean ∈ (insAll [] (keys.zip (V.cleanL l))).map (·.2))
        have := (orderlyL_iff _).1 h' q hq
        rw [eq] at this
        exact this
    · exact .null

theorem key_tame' {e : EL} (h : tameEl e) (hk : e.kind = 1) : ∀ p ∈ e.keys.zip (V.plainL e.l), ∃ v : V, p.2 = v.plain ∧ v.clean.orderly = true := by
  intro p hp
  rw [V.plainL_eq, ← zip_map_right] at hp
  obtain ⟨q, hq, rfl⟩ := List.mem_map.1 hp
  obtain ⟨i, hi, rfl⟩ := List.getElem_of_mem hq
  obtain ⟨-, h2⟩ := h
  unfold cleanEl at h2
  rw [if_pos hk] at h2
  have hi1 : i < e.keys.length := by rw [List.length_zip] at hi; omega
  have hi2 : i < e.l.length := by rw [List.length_zip] at hi; omega
  have ho := (orderlyL_iff _).1 h2 i (by rw [cleanL_length, List.length_take]; omega)
  have e1 : (V.cleanL (e.l.take (min e.keys.length e.l.length)))[i]'(by rw [cleanL_length, List.length_take]; omega) = (e.l[i]).clean := by
    rw [cleanL_get (by rw [List.length_take]; omega), List.getElem_take]
  rw [e1] at ho
  exact ⟨e.l[i], by simp, ho⟩
theorem value_tame' {e : EL} (h : tameEl e) (hk : e.kind = 2) : e.v.clean.orderly = true := by
  obtain ⟨h1, -⟩ := h
  unfold cleanEl at h1
  rw [if_neg (by omega), if_pos hk] at h1
  exact h1
theorem good_toE {e : EL} (h : tameEl e) : GoodPe (toE e) := by
  unfold toE
  split
  · rename_i k1
    intro p hp
    obtain ⟨v, e1, h1⟩ := key_tame' h k1 p hp
    rw [e1]
    exact good_plain v h1
  · split
    · rename_i k2
      exact good_plain _ (value_tame' h k2)
    · split <;> trivial
end Go.Proofs.YtihapgangilncaaGreat
