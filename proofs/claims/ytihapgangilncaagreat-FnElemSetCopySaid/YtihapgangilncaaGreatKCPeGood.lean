/- impl.toElemSet: the elements put into a set one after the other. Orderly path elements: the comparison among them is transitive (plain). -/
import Derived.Test.YtihapgangilncaaGreatKCESetL
import Derived.Test.YtihapgangilncaaGreatKCTransT
import Derived.Test.YtihapgangilncaaGreatKCTameS
namespace Go.Proofs.YtihapgangilncaaGreat
open Go.RowKit
set_option linter.unusedSimpArgs false

/-- a set under way: the block bs (cells old, the row at off) holds the set us, in memory of its own since w -/
structure ESAt (w wr : World) (X : List Nat) (bs off : Nat) (old : Array Value) (T : TypeId) (us : List PEl) : Prop where
  ex : ∃ v, wr.heap[bs]? = some (.cells (old.setIfInBounds off v) T (0, 0)) ∧ Row kPe 89 wr (bs :: X) v us ∧ ∀ g, v.ownBlock = some g → w.heap.size ≤ g

theorem esOf_sorted {G : PEl → Prop} (hT : TransOn G) {us : List PEl} {t : PEl} {i : Nat} (hs : SortedPe us) (hG : ∀ x ∈ us, G x) (ht : G t) (hat : At us t i) : insAt us t i = esIns us t ∧ SortedPe (esIns us t) ∧ (∀ x ∈ esIns us t, G x) ∧ (esIns us t).length ≤ us.length + 1 := by
  have e : insAt us t i = esIns us t := by unfold esIns; rw [at_count hat]
  rw [← e]
  exact ⟨rfl, sorted_ins hT hs hG ht hat, fun x hx => (insAt_mem hx).elim (fun h => h ▸ ht) (hG x), insAt_len hat.1⟩

/-- Insert, over a set under way -/
theorem esPut_c {G : PEl → Prop} (hT : TransOn G) {w wr : World} {X : List Nat} {bs off : Nat} {old : Array Value} {T : TypeId} {us : List PEl} {cs : List Value} {t : PEl} (hs : ESAt w wr X bs off old T us) (hE : Ext w wr) (hbs : w.heap.size ≤ bs) (hoff : off < old.size)
    (hX : Old (bs :: X) wr) (ht : ∀ v, wr.heap[bs]? = some (.cells (old.setIfInBounds off v) T (0, 0)) → kPe.is wr (vb v ++ bs :: X) cs t) (hso : SortedPe us) (hG : ∀ x ∈ us, G x) (hGt : G t) (hbytes : (us.length + 1) * 32 ≤ 140737488351232) (R : Ending → World → Prop)
    (hR : ∀ w', Ext w w' → ESAt w w' X bs off old T (esIns us t) → wr.heap.size ≤ w'.heap.size → R (.returned (.tuple #[])) w') :
    Calls Tryz.prog 51 #[.pointer (some ⟨bs, off, none⟩), .agg cs.toArray] wr R := by
  obtain ⟨v, hb, hrow, hg⟩ := hs.ex
  refine esInsert_c hb (by simpa using hoff) (by simp [hoff]) hrow hX (ht v hb) (mono_of hT hso hG hGt) hbytes _ ?_
  intro w' v' i hat hb' hrow' hM hd
  have h1 := esOf_sorted hT hso hG hGt hat
  rw [h1.1] at hrow'
  refine hR w' (hE.mutated hM (fun k hk => ?_)) ⟨v', by simpa using hb', hrow', fun g h => ?_⟩ hM.size
  · rcases List.mem_cons.1 hk with rfl | hk
    · exact hbs
    · exact hg k (by unfold vb at hk; cases h : v.ownBlock <;> simp_all)
  · rcases hd g h with h | h
    · exact hg g h
    · exact Nat.le_trans hE.size h

theorem at_ex {t : PEl} : ∀ {us : List PEl}, (∀ i j (hi : i < us.length) (hj : j < us.length), i ≤ j → cmpPe us[j] t < 0 → cmpPe us[i] t < 0) → ∃ i, At us t i
  | [], _ => ⟨0, Nat.le_refl _, fun j h => by simp at h, fun j h => by simp at h⟩
  | x :: us, hm => by
    by_cases h : cmpPe x t < 0
    · obtain ⟨i, h1, h2, h3⟩ := at_ex (us := us) (fun i j hi hj hij hc => hm (i + 1) (j + 1) (by simpa using hi) (by simpa using hj) (by omega) (by simpa using hc))
      refine ⟨i + 1, by simpa using h1, fun j hj hji => ?_, fun j hj hij => ?_⟩
      · cases j with
        | zero => exact h
        | succ j => exact h2 j (by simpa using hj) (by omega)
      · cases j with
        | zero => omega
        | succ j => exact h3 j (by simpa using hj) (by omega)
    · refine ⟨0, Nat.zero_le _, fun j _ hj => by omega, fun j hj _ => Int.not_lt.1 fun hc => h ?_⟩
      exact hm 0 j (by simp) hj (Nat.zero_le _) hc
theorem esOf_facts {G : PEl → Prop} (hT : TransOn G) {l : List PEl} (hG : ∀ x ∈ l, G x) : SortedPe (esOf l) ∧ (∀ x ∈ esOf l, G x) ∧ (esOf l).length ≤ l.length := by
  induction l using snoc_ind with
  | h0 => exact ⟨fun i j hi => by simp [esOf] at hi, fun x hx => by simp [esOf] at hx, by simp [esOf]⟩
  | h1 l t ih =>
    obtain ⟨h1, h2, h3⟩ := ih (fun x hx => hG x (by simp [hx]))
    rw [esOf_snoc]
    have ht := hG t (by simp)
    obtain ⟨i, hat⟩ := at_ex (mono_of hT h1 h2 ht)
    obtain ⟨-, h4, h5, h6⟩ := esOf_sorted hT h1 h2 ht hat
    exact ⟨h4, h5, by simp; omega⟩

set_option maxRecDepth 100000 in
set_option maxHeartbeats 8000000 in
set_option pp.maxSteps 1000000 in
set_option pp.deepTerms true in
theorem toElemSet_c {G : PEl → Prop} (hT : TransOn G) {w : World} {X : List Nat} {lv : Value} {l : List EL} (hl : IsSl kEl 168 w X lv l) (hX : Old X w) (hG : ∀ e ∈ l, G (toE e)) (hbytes : (l.length + 1) * 32 ≤ 140737488351232) (R : Ending → World → Prop)
    (hR : ∀ w' bs, Ext w w' → w.heap.size ≤ bs → bs < w'.heap.size → ESAt w w' X bs 0 #[.slice none 0 0] 81 (esOf (l.map toE)) → R (.returned (.pointer (some ⟨bs, 0, none⟩))) w') :
    Calls Tryz.prog 49 #[lv] w R := by
  obtain ⟨o, c, b, off, rfl, l2, l3, l4, l5⟩ := id hl.ex
  have l4' := Lib.hid l4
  have l5' := Lib.hid l5
  have hX' := Lib.hid hX
  have hG' := Lib.hid hG
  have hR' := Lib.hid hR
  have hbytes' := Lib.hid hbytes
  clear hR hX hl l4 l5 hG hbytes
  go_enter Tryz.func49, Tryz.ntmps49
  go_wp2_with fail
  refine abs1 (G := fun wr => Code.wp _ _ _ _ wr) ?_
  intro w1 hE1 hb1 hs1
  have hbl := (Array.getElem?_eq_some_iff.1 hb1).1
  have hes0 : ESAt w w1 X w.heap.size 0 #[.slice none 0 0] 81 (esOf ((l.take 0).map toE)) := ⟨.slice none 0 0, hb1, Row.nil _ _ _ _, fun g h => by simp [Value.ownBlock] at h⟩
  have hes0' := Lib.hid hes0
  clear hb1 hs1 hes0
  go_loopw [5, 10] (fun _ i wr => ∃ k : Nat, k ≤ l.length ∧ i = .int .i64 k ∧ Ext w wr ∧ w.heap.size < wr.heap.size ∧ Hid (ESAt w wr X w.heap.size 0 #[.slice none 0 0] 81 (esOf ((l.take k).map toE)))) (fun _ i _ => l.length - (intOf i).toNat)
  case atStart => exact ⟨0, Nat.zero_le _, rfl, hE1, hbl, hes0'⟩
  case round =>
    obtain ⟨k, hk, rfl, hEw, hsz, hes⟩ := hrel
    rename World => wr
    by_cases hlt : k < l.length
    · obtain ⟨cs, hc, hcs⟩ := l5'.out k hlt
      obtain ⟨rfl, -⟩ := l4'.out (by omega)
      have hone := kEl.one hcs
      obtain ⟨c0, c1, c2, c3, c4, c5, c6, c7, c8, c9, c10, rfl⟩ := kEl_eleven hcs
      have q0 := hEw.keep (hc 0 (by decide))
      have q1 := hEw.keep (hc 1 (by decide))
      have q2 := hEw.keep (hc 2 (by decide))
      have q3 := hEw.keep (hc 3 (by decide))
      have q4 := hEw.keep (hc 4 (by decide))
      have q5 := hEw.keep (hc 5 (by decide))
      have q6 := hEw.keep (hc 6 (by decide))
      have q7 := hEw.keep (hc 7 (by decide))
      have q8 := hEw.keep (hc 8 (by decide))
      have q9 := hEw.keep (hc 9 (by decide))
      have q10 := hEw.keep (hc 10 (by decide))
      simp only [show kEl.size = 11 from rfl, Nat.add_zero] at q0 q1 q2 q3 q4 q5 q6 q7 q8 q9 q10
      have hi1 : (k : Int) < (l.length : Int) := by omega
      have hkm : (k : Int) + 1 ≤ 9223372036854775807 := by have := hbytes'.out; omega
      have hcs' := Lib.hid hcs
      have hone' := Lib.hid hone
      obtain ⟨v, hb, hrow, hgv⟩ := hes.out.ex
      have hb' := Lib.hid hb
      have hrow' := Lib.hid hrow
      have hgv' := Lib.hid hgv
      clear hc hcs hone hb hrow hgv
      go_wp2_with (first | (refine wpL_storeRow (cells := #[c0, c1, c2, c3, c4, c5, c6, c7, c8, c9, c10]) rfl 47 _ _ rfl Tryz.size47 rfl rfl ((push_get _ _ _).trans (if_pos rfl)) rfl (by simpa using hone'.out) ?_; intro w5 h5 g5; have hEx : Ext wr w5 := ((Ext.refl wr).push _).grown g5 (fun k hk => by cases hk; exact Nat.le_refl _); have s0 : w5.cell? ⟨wr.heap.size, 0, none⟩ = some (c0) := cells_of h5 0; have s1 : w5.cell? ⟨wr.heap.size, 1, none⟩ = some (c1) := cells_of h5 1; have s2 : w5.cell? ⟨wr.heap.size, 2, none⟩ = some (c2) := cells_of h5 2; have s3 : w5.cell? ⟨wr.heap.size, 3, none⟩ = some (c3) := cells_of h5 3; have s4 : w5.cell? ⟨wr.heap.size, 4, none⟩ = some (c4) := cells_of h5 4; have s5 : w5.cell? ⟨wr.heap.size, 5, none⟩ = some (c5) := cells_of h5 5; have s6 : w5.cell? ⟨wr.heap.size, 6, none⟩ = some (c6) := cells_of h5 6; have s7 : w5.cell? ⟨wr.heap.size, 7, none⟩ = some (c7) := cells_of h5 7; have s8 : w5.cell? ⟨wr.heap.size, 8, none⟩ = some (c8) := cells_of h5 8; have s9 : w5.cell? ⟨wr.heap.size, 9, none⟩ = some (c9) := cells_of h5 9; have s10 : w5.cell? ⟨wr.heap.size, 10, none⟩ = some (c10) := cells_of h5 10; clear q0 q1 q2 q3 q4 q5 q6 q7 q8 q9 q10 h5 g5))
      have hX5 : Old (w.heap.size :: X) w5 := Old.cons (Nat.lt_of_lt_of_le hsz hEx.size) (hX'.out.le (hEw.trans hEx).size)
      have hmv5 : Mv w X w5 (vb v ++ w.heap.size :: X) := ((hEw.trans hEx).mv X).more (n := w.heap.size) (Nat.le_refl _) |>.moreL (fun g hg => hgv'.out g (by simpa [vb] using hg))
      refine toElem_c (X := vb v ++ w.heap.size :: X) (kEl.mv hcs'.out hmv5) ((hrow'.out.ext hEx).old hX5) _ ?_
      intro w6 es hE6 hes6
      obtain ⟨d0, d1, d2, d3, rfl⟩ := kPe_four hes6
      have hes6' := Lib.hid hes6
      have hEw6 := Lib.hid ((hEw.trans hEx).trans hE6)
      have hE56 := Lib.hid (hEx.trans hE6)
      clear hes6 s0 s1 s2 s3 s4 s5 s6 s7 s8 s9 s10
      have hfx := esOf_facts hT (l := (l.take k).map toE) (fun x hx => by
        obtain ⟨e, he, rfl⟩ := List.mem_map.1 hx
        exact hG'.out e (List.mem_of_mem_take he))
      have hfx' := Lib.hid hfx
      have hlk : ((l.take k).map toE).length = k := by rw [List.length_map, List.length_take]; omega
      rw [hlk] at hfx'
      have hGk := Lib.hid (hG'.out _ (List.getElem_mem hlt))
      have htk := Lib.hid (show (l.take (k + 1)).map toE = (l.take k).map toE ++ [toE l[k]] by rw [List.take_succ_eq_append_getElem hlt, List.map_append]; rfl)
      have hb6 := Lib.hid (((hE56.out).below.block w.heap.size hsz).trans hb'.out)
      clear hfx hlk hes
      dsimp only
      go_wp2_with fail
      refine esPut_c hT (w := w) (X := X) (cs := [d0, d1, d2, d3]) (t := toE l[k]) (us := esOf ((l.take k).map toE)) (old := #[.slice none 0 0]) (off := 0) (T := 81) ⟨v, hb6.out, hrow'.out.ext hE56.out, hgv'.out⟩ hEw6.out (Nat.le_refl _) (by simp) (hX5.le hE6.size) (fun v2 hv2 => ?_) hfx'.out.1 hfx'.out.2.1 hGk.out (by have := hfx'.out.2.2; have := hbytes'.out; omega) _ ?_
      · have e1 := hb6.out
        rw [hv2] at e1
        simp at e1
        subst e1
        exact hes6'.out
      · intro w7 hE7 hes7 hs7
        have hes7' := Lib.hid hes7
        clear hes7
        dsimp only
        go_wp2_with fail
        go_roundw
        case rel => exact ⟨k + 1, by omega, by go_num, hE7, Nat.lt_of_lt_of_le hsz (Nat.le_trans hE56.out.size hs7), Lib.hid (by rw [htk.out, esOf_snoc]; exact hes7'.out)⟩
        case measure => simp [intOf]; omega
    · have ek : k = l.length := by omega
      subst ek
      have hfin := hes.out
      rw [List.take_of_length_le (Nat.le_refl _)] at hfin
      have hfin' := Lib.hid hfin
      clear hfin hes
      go_wp2_with fail
      exact hR'.out wr w.heap.size hEw (Nat.le_refl _) hsz hfin'.out
end Go.Proofs.YtihapgangilncaaGreat
namespace Go.Proofs.YtihapgangilncaaGreat
open Go.RowKit
set_option linter.unusedSimpArgs false

def GoodPe : PEl → Prop
  | .key fs => ∀ p ∈ fs, GoodT p.2
  | .value t => GoodT t
  | _ => True
theorem good_plain (v : V) : v.clean.orderly = true → GoodT v.plain := by
  induction v using V.ind with
  | h kind n f s keys l ih =>
    intro h
    simp only [V.plain]
    simp only [V.clean] at h
    split
    · exact .bool _
    rename_i k1
    rw [if_neg k1] at h
    split
    · rename_i k2
      rw [if_pos k2] at h
      simp [V.orderly] at h
      exact .int h.1 h.2
    rename_i k2
    rw [if_neg k2] at h
    split
    · rename_i k3
      rw [if_pos k3] at h
      exact .float (noNan_of (by simpa [V.orderly] using h))
    rename_i k3
    rw [if_neg k3] at h
    split
    · exact .str _
    rename_i k4
    rw [if_neg k4] at h
    split
    · rename_i k5
      rw [if_pos k5] at h
      have h' : V.orderlyL (V.cleanL l) = true := by simpa [V.orderly] using h
      refine .list fun i hi => ?_
      rw [V.plainL_eq] at hi
      simp only [V.plainL_eq, List.getElem_map]
      have hil : i < l.length := by simpa using hi
      have := (orderlyL_iff _).1 h' i (by rw [cleanL_length]; exact hil)
      rw [cleanL_get hil] at this
      exact ih i hil this
    rename_i k5
    rw [if_neg k5] at h
    split
    · rename_i k6
      rw [if_pos k6] at h
      have h' : V.orderlyL ((insAll [] (keys.zip (V.cleanL l))).map (·.2)) = true := by simpa [V.orderly] using h
      refine .map fun i hi => ?_
      obtain ⟨p, hp, e⟩ := List.mem_map.1 (List.getElem_mem hi)
      rw [← e]
      have hz : keys.zip (V.plainL l) = (keys.zip l).map fun p => (p.1, p.2.plain) := by rw [V.plainL_eq, zip_map_right]
      rw [hz] at hp
      have hl1 := lookK_at (putAll_nodup _) hp
      rw [← lookK_insAll, ← insAll_map, lookK_map] at hl1
      cases hv : lookK p.1 (insAll [] (keys.zip l)) with
      | none => rw [hv] at hl1; cases hl1
      | some v =>
        rw [hv] at hl1
        have hpv : v.plain = p.2 := by simpa using hl1
        rw [← hpv]
        have hm := lookK_mem hv
        have hml := (List.of_mem_zip (insAll_sub hm)).2
        obtain ⟨j, hj, ej⟩ := List.getElem_of_mem hml
        subst ej
        refine ih j hj ?_
        have hc : (p.1, (l[j]).clean) ∈ insAll [] (keys.zip (V.cleanL l)) := by
          rw [V.cleanL_eq, ← zip_map_right, ← insAll_map]
          exact List.mem_map.2 ⟨_, hm, rfl⟩
        obtain ⟨q, hq, eq⟩ := List.getElem_of_mem (List.mem_map.2 ⟨_, hc, rfl⟩ : (l[j]).clean ∈ (insAll [] (keys.zip (V.cleanL l))).map (·.2))
        have := (orderlyL_iff _).1 h' q hq
        rw [eq] at this
        exact this
    · exact .null

theorem key_tame' {e : EL} (h : tameEl e) (hk : e.kind = 1) : ∀ p ∈ e.keys.zip (V.plainL e.l), ∃ v : V, p.2 = v.plain ∧ v.clean.orderly = true := by
  intro p hp
  rw [V.plainL_eq, ← zip_map_right] at hp
  obtain ⟨q, hq, rfl⟩ := List.mem_map.1 hp
  obtain ⟨i, hi, rfl⟩ := List.getElem_of_mem hq
  obtain ⟨-, h2⟩ := h
  unfold cleanEl at h2
  rw [if_pos hk] at h2
  have hi1 : i < e.keys.length := by rw [List.length_zip] at hi; omega
  have hi2 : i < e.l.length := by rw [List.length_zip] at hi; omega
  have ho := (orderlyL_iff _).1 h2 i (by rw [cleanL_length, List.length_take]; omega)
  have e1 : (V.cleanL (e.l.take (min e.keys.length e.l.length)))[i]'(by rw [cleanL_length, List.length_take]; omega) = (e.l[i]).clean := by
    rw [cleanL_get (by rw [List.length_take]; omega), List.getElem_take]
  rw [e1] at ho
  exact ⟨e.l[i], by simp, ho⟩
theorem value_tame' {e : EL} (h : tameEl e) (hk : e.kind = 2) : e.v.clean.orderly = true := by
  obtain ⟨h1, -⟩ := h
  unfold cleanEl at h1
  rw [if_neg (by omega), if_pos hk] at h1
  exact h1
theorem good_toE {e : EL} (h : tameEl e) : GoodPe (toE e) := by
  unfold toE
  split
  · rename_i k1
    intro p hp
    obtain ⟨v, e1, h1⟩ := key_tame' h k1 p hp
    rw [e1]
    exact good_plain v h1
  · split
    · rename_i k2
      exact good_plain _ (value_tame' h k2)
    · split <;> trivial
end Go.Proofs.YtihapgangilncaaGreat
