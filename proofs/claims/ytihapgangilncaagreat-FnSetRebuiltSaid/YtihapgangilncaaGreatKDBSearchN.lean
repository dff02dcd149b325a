/- What fromElem yields, compared and put in order (plain). impl.fromPath and spec.CleanPath (printed by gen_pathsc.py). slices.BinarySearchFunc over the nodes of a set, with whatever function value that compares (printed by gen_bsearchn.py). -/
import Derived.Test.YtihapgangilncaaGreatKDFromE
import Derived.Test.YtihapgangilncaaGreatKDPeGood
import Derived.Test.YtihapgangilncaaGreatKDSetM
import Derived.Test.YtihapgangilncaaGreatKDBSearch
namespace Go.Proofs.YtihapgangilncaaGreat
open Go.RowKit
set_option linter.unusedSimpArgs false

theorem zip_back : ∀ (ks : List ByteArray) (l : List V), (ks.zip (V.plainL l)).map (·.1) = ks.take (min ks.length l.length) ∧ (ks.zip (V.plainL l)).map (fun p => p.2.back) = V.cleanL (l.take (min ks.length l.length))
  | [], l => by simp [V.cleanL]
  | k :: ks, [] => by simp [V.plainL, V.cleanL]
  | k :: ks, v :: l => by
    obtain ⟨h1, h2⟩ := zip_back ks l
    have e : min (k :: ks).length (v :: l).length = min ks.length l.length + 1 := by simp only [List.length_cons]; omega
    rw [e]
    simp only [V.plainL, List.zip_cons_cons, List.map_cons, List.take_succ_cons, V.cleanL, back_plain, h1, h2, and_self]

theorem cleanEl_back (e : EL) : cleanEl e = backE (toE e) := by
  obtain ⟨kind, s, keys, l, v, n⟩ := e
  unfold cleanEl toE
  dsimp only
  split
  · obtain ⟨h1, h2⟩ := zip_back keys l
    simp only [backE, h1, h2]
  · split
    · simp only [backE, back_plain]
    · split <;> rfl

theorem cmpT_back (v : V) (u : T) : cmpT v.plain.back.plain u = cmpT v.plain u := by
  unfold cmpT
  rw [back_plain, back_plain, clean_clean]

/-- elements of the program that stand for elements of the reference -/
def FromEl (p : PEl) : Prop := ∃ e, p = toE e

theorem cmpE_back : ∀ (ks : List ByteArray) (l : List V) (gs : EntsOfT T), cmpE cmpT ((ks.zip (V.plainL l)).map fun p => (p.1, p.2.back.plain)) gs = cmpE cmpT (ks.zip (V.plainL l)) gs
  | [], l, gs => by cases gs <;> simp
  | k :: ks, [], gs => by cases gs <;> simp [V.plainL]
  | k :: ks, v :: l, [] => by simp [V.plainL, cmpE]
  | k :: ks, v :: l, g :: gs => by
    simp only [V.plainL, List.zip_cons_cons, List.map_cons, cmpE, cmpT_back, cmpE_back ks l gs]

theorem cmpPe_back {p : PEl} (h : FromEl p) (q : PEl) : cmpPe (toE (backE p)) q = cmpPe p q := by
  obtain ⟨e, rfl⟩ := h
  obtain ⟨kind, s, keys, l, v, n⟩ := e
  unfold toE
  dsimp only
  split
  · have e1 : (backE (.key (keys.zip (V.plainL l)))).keys.zip (V.plainL (backE (.key (keys.zip (V.plainL l)))).l) = (keys.zip (V.plainL l)).map fun p => (p.1, p.2.back.plain) := by
      simp only [backE, V.plainL_eq, List.map_map]
      rw [List.zip_map']
      rfl
    rw [if_pos (show (backE (.key (keys.zip (V.plainL l)))).kind = 1 from rfl), e1]
    cases q <;> simp only [cmpPe]
    exact cmpE_back _ _ _
  · split
    · rw [if_neg (by simp [backE]), if_pos (by simp [backE])]
      cases q <;> simp only [cmpPe, backE]
      exact cmpT_back _ _
    · split
      · rw [if_neg (by simp [backE]), if_neg (by simp [backE]), if_pos (by simp [backE])]
        rfl
      · rw [if_neg (by simp [backE]), if_neg (by simp [backE]), if_neg (by simp [backE])]
        rfl

theorem tame_back {e : EL} (h : tameEl e) : tameEl (backE (toE e)) := by
  rw [← cleanEl_back]
  have hcc : cleanEl (cleanEl e) = cleanEl e := by
    obtain ⟨kind, s, keys, l, v, n⟩ := e
    unfold cleanEl
    dsimp only
    by_cases h1 : kind = 1
    · simp only [if_pos h1]
      have e1 : min (keys.take (min keys.length l.length)).length (V.cleanL (l.take (min keys.length l.length))).length = min keys.length l.length := by
        rw [cleanL_length, List.length_take, List.length_take]; omega
      simp only [if_true, e1, List.take_take, Nat.min_self]
      congr 1
      rw [List.take_of_length_le (by rw [cleanL_length, List.length_take]; omega), V.cleanL_eq, V.cleanL_eq, List.map_map]
      exact List.map_congr_left fun v _ => clean_clean v
    · simp only [if_neg h1]
      by_cases h2 : kind = 2
      · simp only [if_pos h2]
        simp [clean_clean]
      · simp only [if_neg h2]
        by_cases h3 : kind = 3
        · simp [if_pos h3]
        · simp [if_neg h3]
  unfold tameEl at h ⊢
  rw [hcc]
  exact h

/-- a place from which on all come behind t, and ahead of which nothing does: where t is put, if it is not there -/
theorem esIns_put {us : List PEl} {t : PEl} {j : Nat} (hj : j ≤ us.length) (hlo : ∀ h : 0 < j, cmpPe (us[j - 1]'(by omega)) t < 0) (hmono : ∀ i j (hi : i < us.length) (hj : j < us.length), i ≤ j → cmpPe us[j] t < 0 → cmpPe us[i] t < 0) (hhi : ∀ i (h : i < us.length), j ≤ i → 0 < cmpPe us[i] t) :
    esIns us t = us.take j ++ t :: us.drop j := by
  have hat : At us t j := ⟨hj, fun i hi hij => hmono i (j - 1) hi (by omega) (by omega) (hlo (by omega)), fun i hi hij => Int.le_of_lt (hhi i hi hij)⟩
  unfold esIns
  rw [at_count hat, insAt]
  rw [if_neg]
  unfold HasAt
  by_cases h : j < us.length
  · rw [List.getElem?_eq_getElem h]
    have := hhi j h (Nat.le_refl _)
    simp only [decide_eq_true_eq]
    omega
  · rw [List.getElem?_eq_none (by omega)]
    simp
theorem esIns_has {G : PEl → Prop} (hT : TransOn G) {us : List PEl} {t : PEl} {j : Nat} (hs : SortedPe us) (hG : ∀ x ∈ us, G x) (ht : G t) (hj : j < us.length) (h0 : cmpPe us[j] t = 0) : esIns us t = us := by
  obtain ⟨i, hat⟩ := at_ex (mono_of hT hs hG ht)
  unfold esIns
  rw [at_count hat, insAt, if_pos]
  obtain ⟨hi, hlo, hhi⟩ := hat
  have hij : i ≤ j := by
    rcases Nat.lt_or_ge j i with h | h
    · have := hlo j hj h; omega
    · exact h
  unfold HasAt
  rw [List.getElem?_eq_getElem (by omega)]
  simp only [decide_eq_true_eq]
  have h1 := hhi i (by omega) (Nat.le_refl _)
  by_cases e : i = j
  · subst e; exact h0
  · by_cases h2 : cmpPe (us[i]'(by omega)) t = 0
    · exact h2
    · exfalso
      have h3 : cmpPe t (us[i]'(by omega)) < 0 := by rw [cmpPe_neg' (us[i]'(by omega)) t]; omega
      have h4 := hs i j (by omega) hj (by omega)
      have h5 := hT _ _ _ ht (hG _ (List.getElem_mem (by omega))) (hG _ (List.getElem_mem hj)) h3 h4
      rw [cmpPe_neg' us[j] t, h0] at h5
      omega
end Go.Proofs.YtihapgangilncaaGreat
namespace Go.Proofs.YtihapgangilncaaGreat
open Go.RowKit
set_option linter.unusedSimpArgs false

/-- a slice whose elements keep clear of X, wherever it stands itself -/
def SlE {α : Type} (k : Kind α) (bytes : Nat) (w : World) (X : List Nat) (v : Value) (us : List α) : Prop := ∃ o c b off, v = .slice o us.length c ∧ us.length ≤ c ∧ us.length * bytes ≤ 140737488351232 ∧ (0 < us.length → o = some ⟨b, off, none⟩) ∧
  ∀ i (h : i < us.length), ∃ cs : List Value, (∀ j, j < k.size → w.cell? ⟨b, off + i * k.size + j, none⟩ = cs[j]?) ∧ k.is w X cs (us[i])
/-- as k, but clear of the block of v, too -/
def kAv {α : Type} (v : Value) (k : Kind α) : Kind α where
  size := k.size
  is := fun w X cs a => k.is w (vb v ++ X) cs a
  mv := fun h m => k.mv h ⟨m.size, fun j hj hx => by
    simp only [List.mem_append, not_or] at hx ⊢
    exact ⟨(m.block j hj hx.2).1, hx.1, (m.block j hj hx.2).2⟩⟩
  len := k.len
  one := k.one
theorem Row.slE {α : Type} {k : Kind α} {e : TypeId} {bytes : Nat} {w : World} {X : List Nat} {v : Value} {us : List α} (h : Row k e w X v us) (h3 : us.length * bytes ≤ 140737488351232) : SlE k bytes w (vb v ++ X) v us := by
  have h' : Row (kAv v k) e w X v us := by
    obtain ⟨rows, h1, h2, h4⟩ := h.ex
    exact ⟨rows, h1, h2.imp fun _ _ h => k.mv h ((Mv.refl _ _).less fun b hb => by
      simp only [List.mem_append] at hb ⊢
      exact hb.elim .inl id), h4⟩
  obtain ⟨o, c, b, off, rfl, l2, l3, l4, l5⟩ := (h'.isSl h3).ex
  exact ⟨o, c, b, off, rfl, l2, l3, fun hp => (l4 hp).1, l5⟩
theorem IsSl.slE {α : Type} {k : Kind α} {bytes : Nat} {w : World} {X : List Nat} {v : Value} {us : List α} (h : IsSl k bytes w X v us) : SlE k bytes w X v us := by
  obtain ⟨o, c, b, off, rfl, l2, l3, l4, l5⟩ := h.ex
  exact ⟨o, c, b, off, rfl, l2, l3, fun hp => (l4 hp).1, l5⟩
theorem SlE.less {α : Type} {k : Kind α} {bytes : Nat} {w : World} {X Y : List Nat} {v : Value} {us : List α} (h : SlE k bytes w X v us) (hY : ∀ b ∈ Y, b ∈ X) : SlE k bytes w Y v us := by
  obtain ⟨o, c, b, off, rfl, l2, l3, l4, l5⟩ := h
  refine ⟨o, c, b, off, rfl, l2, l3, l4, fun i hi => ?_⟩
  obtain ⟨cs, h1, h2⟩ := l5 i hi
  exact ⟨cs, h1, k.mv h2 ((Mv.refl _ _).less hY)⟩
theorem SlE.ext {α : Type} {k : Kind α} {bytes : Nat} {w w' : World} {X : List Nat} {v : Value} {us : List α} (h : SlE k bytes w X v us) (hE : Ext w w') : SlE k bytes w' X v us := by
  obtain ⟨o, c, b, off, rfl, l2, l3, l4, l5⟩ := h
  refine ⟨o, c, b, off, rfl, l2, l3, l4, fun i hi => ?_⟩
  obtain ⟨cs, h1, h2⟩ := l5 i hi
  refine ⟨cs, fun j hj => ?_, k.mv h2 (hE.mv _)⟩
  have hl := k.len h2
  have h0 := h1 j hj
  rw [List.getElem?_eq_getElem (by omega)] at h0 ⊢
  exact hE.keep h0
theorem SlE.one {α : Type} {k : Kind α} {bytes : Nat} {w : World} {X : List Nat} {v : Value} {us : List α} (h : SlE k bytes w X v us) : v.oneCell' = true := by
  obtain ⟨o, c, b, off, rfl, _⟩ := h
  rfl

set_option maxRecDepth 100000 in
set_option maxHeartbeats 4000000 in
set_option pp.maxSteps 1000000 in
set_option pp.deepTerms true in
theorem fromPath_c {w : World} {X : List Nat} {pv : Value} {p : List PEl} (hp : SlE kPe 32 w X pv p) (hX : Old X w) (hs : ∀ e ∈ p, SmallPe e) (hbo : p.length * 168 ≤ 140737488351232) (R : Ending → World → Prop)
    (hR : ∀ w' v, Ext w w' → IsSl kEl 168 w' X v (p.map backE) → R (.returned v) w') : Calls Tryz.prog 112 #[pv] w R := by
  obtain ⟨o, c, b, off, rfl, l2, l3, l4, l5⟩ := id hp
  have l4' := Lib.hid l4
  have l5' := Lib.hid l5
  have hX' := Lib.hid hX
  have hR' := Lib.hid hR
  have hbo' := Lib.hid hbo
  have hs' := Lib.hid hs
  have hpI : (p.length : Int) ≤ 140737488351232 := by omega
  clear hR hX hp l4 l5 hbo l3 hs
  go_enter Tryz.func112, Tryz.ntmps112
  go_wp2_with fail
  refine abs1 (G := Code.wp _ _ _ _) ?_
  intro w1 hE1 hb1 hs1
  have hrow : Row kEl 47 w1 X (.slice (some ⟨w.heap.size, 0, none⟩) 0 0) [] := Row.made hb1 (fun h => by have := hX'.out _ h; omega)
  have hrow' := Lib.hid hrow
  clear hrow hb1 hs1
  go_loopw [3, 9] (fun v i wr => ∃ k : Nat, k ≤ p.length ∧ i = .int .i64 k ∧ Ext w wr ∧ (∀ g, v.ownBlock = some g → w.heap.size ≤ g) ∧ v ≠ .slice none 0 0 ∧ Hid (Row kEl 47 wr X v ((p.take k).map backE))) (fun _ i _ => p.length - (intOf i).toNat)
  case atStart => exact ⟨0, Nat.zero_le _, rfl, hE1, fun g h => by simp [Value.ownBlock] at h; omega, by simp, hrow'⟩
  case round =>
    obtain ⟨k, hk, rfl, hEw, hgv, hnn, hrow⟩ := hrel
    rename World => wr
    by_cases hlt : k < p.length
    · obtain ⟨cs, hc, hcs⟩ := l5'.out k hlt
      obtain rfl := l4'.out (by omega)
      have hone := kPe.one hcs
      obtain ⟨c0, c1, c2, c3, rfl⟩ := kPe_four hcs
      have q0 := hEw.keep (hc 0 (by decide))
      have q1 := hEw.keep (hc 1 (by decide))
      have q2 := hEw.keep (hc 2 (by decide))
      have q3 := hEw.keep (hc 3 (by decide))
      simp only [show kPe.size = 4 from rfl, Nat.add_zero] at q0 q1 q2 q3
      have hi1 : (k : Int) < (p.length : Int) := by omega
      have hkm : (k : Int) + 1 ≤ 9223372036854775807 := by omega
      have hmv : Mv w X wr (vb u3 ++ X) := (hEw.mv X).moreL (fun g hg => hgv g (by simpa [vb] using hg))
      have hXr : Old X wr := hX'.out.le hEw.size
      have hcs' := Lib.hid (kPe.mv hcs hmv)
      have hmv' := Lib.hid hmv
      have hone' := Lib.hid hone
      clear hc hcs hmv hone
      go_wp2_with (first | (refine wpL_storeRow (cells := #[c0, c1, c2, c3]) rfl 89 _ _ rfl Tryz.size89 rfl rfl (alloc_new _ _ rfl) rfl (by simpa using hone'.out) ?_; intro w5 h5 g5; have hEx : Ext wr w5 := ((Ext.refl wr).push _).grown g5 (fun k hk => by cases hk; exact Nat.le_refl _); have s0 : w5.cell? ⟨wr.heap.size, 0, none⟩ = some (c0) := cells_of h5 0; have s1 : w5.cell? ⟨wr.heap.size, 1, none⟩ = some (c1) := cells_of h5 1; have s2 : w5.cell? ⟨wr.heap.size, 2, none⟩ = some (c2) := cells_of h5 2; have s3 : w5.cell? ⟨wr.heap.size, 3, none⟩ = some (c3) := cells_of h5 3; clear q0 q1 q2 q3 h5 g5))
      have hm5 : Mv wr (vb u3 ++ X) w5 (vb u3 ++ X) := hEx.mv _
      have hX5 : Old X w5 := hXr.le hEx.size
      have hrow5 : Row kEl 47 w5 X u3 ((p.take k).map backE) := hrow.out.ext hEx
      have hrow5' := Lib.hid hrow5
      refine fromElem_c (X := vb u3 ++ X) (kPe.mv hcs'.out hm5) (hrow5.old hX5) (hs'.out _ (List.getElem_mem hlt)) _ ?_
      intro w6 es hE6 hes
      obtain ⟨d0, d1, d2, d3, d4, d5, d6, d7, d8, d9, d10, rfl⟩ := kEl_eleven hes
      have hes' := Lib.hid hes
      have hlk : ((p.take k).map backE).length = k := by rw [List.length_map, List.length_take]; omega
      have hb4 : (((p.take k).map backE).length + 1) * 168 ≤ 140737488355328 := by rw [hlk]; exact Nat.le_trans (Nat.mul_le_mul_right _ hlt) (Nat.le_trans hbo'.out (by decide))
      have hb5 : ((p.take k).map backE).length + 1 ≤ maxLen := by rw [hlk, maxLen_eq]; omega
      have hE6' := Lib.hid hE6
      have htk : (p.take (k + 1)).map backE = (p.take k).map backE ++ [backE p[k]] := by rw [List.take_succ_eq_append_getElem hlt, List.map_append]; rfl
      have htk' := Lib.hid htk
      have hEx' := Lib.hid hEx
      clear hes hlk htk hE6 hEx hrow hrow5 s0 s1 s2 s3
      dsimp only
      go_wp2_with (at_builtin; refine wpL_rowApp (c := #[d0, d1, d2, d3, d4, d5, d6, d7, d8, d9, d10]) rfl hrow5'.out hE6'.out (hX5.le hE6'.out.size) hes'.out _ _ _ rfl Tryz.underlying22 Tryz.info47 rfl (by decide) rfl rfl hb4 hb5 ?_; intro v' w8 hrow8 hg8 hne8 hd8)
      go_roundw
      case rel =>
        have hE8 : Ext w w8 := ((hEw.trans hEx'.out).trans hE6'.out).grown hg8 (fun j hj => hgv j hj)
        refine ⟨k + 1, by omega, by go_num, hE8, fun g hg => ?_, hne8, Lib.hid (by rw [htk'.out]; exact hrow8)⟩
        rcases hd8 g hg with h | h
        · exact hgv g h
        · have := hE6'.out.size; have := hEx'.out.size; have := hEw.size; omega
      case measure => simp [intOf]; omega
    · have ek : k = p.length := by omega
      subst ek
      have hr := hrow.out
      rw [List.take_of_length_le (Nat.le_refl _)] at hr
      have hr' := Lib.hid (hr.isSl (bytes := 168) (by rw [List.length_map]; exact hbo'.out))
      clear hr hrow
      go_wp2_with fail
      exact hR'.out wr _ hEw hr'.out

end Go.Proofs.YtihapgangilncaaGreat
namespace Go.Proofs.YtihapgangilncaaGreat
open Go.RowKit
set_option linter.unusedSimpArgs false

/-- v is a row of set nodes with these path elements -/
def KeyRow (w : World) (v : Value) (us : List PEl) : Prop := ∃ o c b off, v = .slice o us.length c ∧ us.length ≤ c ∧ us.length * 40 ≤ 140737488351232 ∧ (0 < us.length → o = some ⟨b, off, none⟩) ∧
  ∀ i (h : i < us.length), ∃ c0 c1 c2 c3 c4 : Value, w.cell? ⟨b, off + i * 5, none⟩ = some c0 ∧ w.cell? ⟨b, off + i * 5 + 1, none⟩ = some c1 ∧ w.cell? ⟨b, off + i * 5 + 2, none⟩ = some c2 ∧ w.cell? ⟨b, off + i * 5 + 3, none⟩ = some c3 ∧ w.cell? ⟨b, off + i * 5 + 4, none⟩ = some c4 ∧ c4.oneCell' = true ∧ kPe.is w [] [c0, c1, c2, c3] us[i]
theorem KeyRow.ofSl {σ : Type} {k : Kind σ} {f : σ → PEl} (h5 : k.size = 5) (hk : ∀ {w : World} {X : List Nat} {cs : List Value} {n : σ}, k.is w X cs n → ∃ pc p, cs = pc ++ [p] ∧ kPe.is w X pc (f n)) {w : World} {X : List Nat} {v : Value} {us : List σ} (h : IsSl k 40 w X v us) : KeyRow w v (us.map f) := by
  obtain ⟨o, c, b, off, rfl, l1, l2, l3, l4⟩ := h.ex
  refine ⟨o, c, b, off, by simp, by simpa using l1, by simpa using l2, fun hp => (l3 (by simpa using hp)).1, fun i hi => ?_⟩
  obtain ⟨cs, hc, hcs⟩ := l4 i (by simpa using hi)
  obtain ⟨pc, p, rfl, hp⟩ := hk hcs
  have h1 := k.one hcs
  obtain ⟨a0, a1, a2, a3, rfl, -⟩ := kPe_4 hp
  rw [h5] at hc
  refine ⟨a0, a1, a2, a3, p, hc 0 (by omega), hc 1 (by omega), hc 2 (by omega), hc 3 (by omega), hc 4 (by omega), h1 p (by simp), ?_⟩
  rw [List.getElem_map]
  exact kPe.mv hp ((Mv.refl w _).less (by simp))
theorem KeyRow.ext {w w' : World} {v : Value} {us : List PEl} (h : KeyRow w v us) (hE : Ext w w') : KeyRow w' v us := by
  obtain ⟨o, c, b, off, rfl, l1, l2, l3, l4⟩ := h
  refine ⟨o, c, b, off, rfl, l1, l2, l3, fun i hi => ?_⟩
  obtain ⟨c0, c1, c2, c3, c4, h0, h1, h2, h3, h4, h5, h6⟩ := l4 i hi
  exact ⟨c0, c1, c2, c3, c4, hE.keep h0, hE.keep h1, hE.keep h2, hE.keep h3, hE.keep h4, h5, kPe.mv h6 (hE.mv [])⟩
/-- F compares the path element of a set node with one -/
structure NodeCmp (F : FuncId) : Prop where
  cmp : ∀ {w : World} {cs ds : List Value} {p : Value} {a b : PEl}, kPe.is w [] cs a → kPe.is w [] ds b → p.oneCell' = true → ∀ R : Ending → World → Prop, Ends R w (.int .i64 (cmpPe a b)) → Calls Tryz.prog F #[.agg (cs ++ [p]).toArray, .agg ds.toArray] w R
  enter : ∀ (args : Array Value) (w : World), (callFunc F args).run Tryz.prog w = .ok (.enter F args) w

set_option maxRecDepth 100000 in
set_option maxHeartbeats 8000000 in
set_option pp.maxSteps 1000000 in
set_option pp.deepTerms true in
theorem bsearchN_c {F : FuncId} (hF : NodeCmp F) {w : World} {v : Value} {us : List PEl} {cs : List Value} {t : PEl} (hv : KeyRow w v us) (ht : kPe.is w [] cs t) (hmono : ∀ i j (hi : i < us.length) (hj : j < us.length), i ≤ j → cmpPe us[j] t < 0 → cmpPe us[i] t < 0)
    (R : Ending → World → Prop) (hR : ∀ w' i, Ext w w' → At us t i → R (.returned (.tuple #[.int .i64 (i : Int), .bool (HasAt us t i)])) w') :
    Calls Tryz.prog 156 #[v, .agg cs.toArray, .func (.func F) #[] #[]] w R := by
  obtain ⟨a0, a1, a2, a3, rfl, o0, o1, o2, o3⟩ := kPe_4 ht
  obtain ⟨o, c, b, off, rfl, l1, l2, l3, l4⟩ := hv
  have ht' := Lib.hid ht
  have hR' := Lib.hid hR
  have hm' := Lib.hid hmono
  have l3' := Lib.hid l3
  have l4' := Lib.hid l4
  clear ht hR hmono l3 l4
  go_enter Tryz.func156, Tryz.ntmps156
  go_wp2_with fail
  refine abs1 (G := fun wr => Code.wp _ _ _ _ wr) ?_
  intro w1 hE1 hb1 hs1
  have e0 : w1.cell? ⟨w.heap.size, 0, none⟩ = some (a0) := cells_of hb1 0; have e1 : w1.cell? ⟨w.heap.size, 1, none⟩ = some (a1) := cells_of hb1 1; have e2 : w1.cell? ⟨w.heap.size, 2, none⟩ = some (a2) := cells_of hb1 2; have e3 : w1.cell? ⟨w.heap.size, 3, none⟩ = some (a3) := cells_of hb1 3
  clear hb1 hs1
  go_loopw [9, 10, 11] (fun lo hi _ wr => ∃ p q : Nat, lo = .int .i64 p ∧ hi = .int .i64 q ∧ p ≤ q ∧ q ≤ us.length ∧ Ext w wr ∧ Ext w1 wr ∧ Hid ((∀ j (h : j < us.length), j < p → cmpPe us[j] t < 0) ∧ ∀ j (h : j < us.length), q ≤ j → 0 ≤ cmpPe us[j] t))
    (fun lo hi _ _ => (intOf hi).toNat - (intOf lo).toNat)
  case atStart => exact ⟨0, us.length, rfl, rfl, Nat.zero_le _, Nat.le_refl _, hE1, Ext.refl _, Lib.hid ⟨fun j _ hj => by omega, fun j hj h => by omega⟩⟩
  case round =>
    obtain ⟨p, q, rfl, rfl, hpq, hql, hE, hEw, hI⟩ := hrel
    replace e0 := hEw.keep e0; replace e1 := hEw.keep e1; replace e2 := hEw.keep e2; replace e3 := hEw.keep e3
    by_cases hlt : p < q
    · have hm : (p + q) / 2 < us.length := by omega
      obtain rfl := l3'.out (by omega)
      obtain ⟨m0, m1, m2, m3, m4, x0, x1, x2, x3, x4, v4, hms⟩ := l4'.out ((p + q) / 2) hm
      have v0 := kPe.one hms m0 (by simp)
      have v1 := kPe.one hms m1 (by simp)
      have v2 := kPe.one hms m2 (by simp)
      have v3 := kPe.one hms m3 (by simp)
      replace x0 := hE.keep x0
      replace x1 := hE.keep x1
      replace x2 := hE.keep x2
      replace x3 := hE.keep x3
      replace x4 := hE.keep x4
      have hms' := Lib.hid (kPe.mv hms (hE.mv []))
      have htw := Lib.hid (kPe.mv ht'.out (hE.mv []))
      have hE' := Lib.hid hE
      have hEw' := Lib.hid hEw
      have hm2 := Lib.hid hm
      have hmlt : ((p : Int) + (q : Int)) / 2 < (us.length : Int) := by omega
      have hmn : (((p : Int) + (q : Int)) / 2).toNat = (p + q) / 2 := by omega
      have hm0 : (0 : Int) ≤ ((p : Int) + (q : Int)) / 2 := by omega
      clear hms hE hEw
      go_wp2_with fail
      refine wp_region_script [0, 1, 2, 3, 4, 5, 7] [] (fun w' => Ext wr w') [(.pure, 0), (.pure, 1), (.pure, 2), (.pure, 3), (.read, 4), (.read, 5), (.one, 6), (.pure, 7)] (by kernel_rfl) (by kernel_rfl) ?_
      have hC : Ext wr wr.drew := (Ext.refl wr).drew
      iterate 4 (apply scr_pure'; (· rfl); (· rfl); (· (intro w'; go_simp; try rfl)); (· (simp [go_sem]; try rfl)))
      (apply scr_read'; (· rfl); (· rfl); (· first | exact hC | exact (Ext.refl _).drew); (· (intro w' hw'; have x0_ := hw'.keep x0; have x1_ := hw'.keep x1; have x2_ := hw'.keep x2; have x3_ := hw'.keep x3; have x4_ := hw'.keep x4; go_simp; try rfl)); (· (simp [go_sem]; try rfl)))
      (apply scr_read'; (· rfl); (· rfl); (· first | exact hC | exact (Ext.refl _).drew); (· (intro w' hw'; have e0_ := hw'.keep e0; have e1_ := hw'.keep e1; have e2_ := hw'.keep e2; have e3_ := hw'.keep e3; go_simp; try rfl)); (· (simp [go_sem]; try rfl)))
      refine scr_one rfl rfl (fun K hK => ?_)
      refine wp_call_v2 (f := F) rfl rfl hF.enter ?_
      go_simp
      refine hF.cmp (cs := [m0, m1, m2, m3]) (p := m4) (ds := [a0, a1, a2, a3]) (kPe.mv hms'.out (hC.mv [])) (kPe.mv htw.out (hC.mv [])) v4 _ ?_
      intro w9 hE9
      refine hK _ _ (fun h => by simp at h) ?_
      clear hK
      obtain ⟨x, hx⟩ : ∃ x, us[(p + q) / 2]'hm2.out = x := ⟨_, rfl⟩
      rw [hx]
      obtain ⟨z, hz⟩ : ∃ z, cmpPe x t = z := ⟨_, rfl⟩
      rw [hz]
      have hx' := Lib.hid hx
      have hz' := Lib.hid hz
      clear hx hz
      by_cases hneg : z < 0
      · (apply scr_pure'; (· rfl); (· rfl); (· (intro w'; go_simp; try rfl)); (· (simp [go_sem]; try rfl)))
        refine scr_end ?_
        simp only [Exit.then]
        go_wp2_with fail
        go_roundw
        case rel =>
          refine ⟨(p + q) / 2 + 1, q, by go_num, rfl, by omega, hql, hE'.out.trans (hC.trans hE9), hEw'.out.trans (hC.trans hE9), Lib.hid ⟨fun j h hj => ?_, hI.out.2⟩⟩
          exact hm'.out j _ h hm2.out (by omega) (by rw [hx'.out, hz'.out]; exact hneg)
        case measure => simp [intOf]; omega
      · (apply scr_pure'; (· rfl); (· rfl); (· (intro w'; go_simp; try rfl)); (· (simp [go_sem]; try rfl)))
        refine scr_end ?_
        simp only [Exit.then]
        go_wp2_with fail
        go_roundw
        case rel =>
          refine ⟨p, (p + q) / 2, rfl, by go_num, by omega, by omega, hE'.out.trans (hC.trans hE9), hEw'.out.trans (hC.trans hE9), Lib.hid ⟨hI.out.1, fun j h hj => ?_⟩⟩
          exact Int.not_lt.1 fun hc => hneg (by
            have := hm'.out _ j hm2.out h (by omega) hc
            rw [hx'.out, hz'.out] at this
            exact this)
        case measure => simp [intOf]; omega
    · obtain rfl : p = q := by omega
      have hat : At us t p := ⟨hql, hI.out.1, fun j h hj => hI.out.2 j h hj⟩
      have hat' := Lib.hid hat
      clear hat hI
      by_cases hin : p < us.length
      · obtain rfl := l3'.out (by omega)
        obtain ⟨m0, m1, m2, m3, m4, x0, x1, x2, x3, x4, v4, hms⟩ := l4'.out p hin
        have v0 := kPe.one hms m0 (by simp)
        have v1 := kPe.one hms m1 (by simp)
        have v2 := kPe.one hms m2 (by simp)
        have v3 := kPe.one hms m3 (by simp)
        replace x0 := hE.keep x0
        replace x1 := hE.keep x1
        replace x2 := hE.keep x2
        replace x3 := hE.keep x3
        replace x4 := hE.keep x4
        have hms' := Lib.hid (kPe.mv hms (hE.mv []))
        have htw := Lib.hid (kPe.mv ht'.out (hE.mv []))
        have hE' := Lib.hid hE
        have hin2 := Lib.hid hin
        have hini : (p : Int) < (us.length : Int) := by omega
        obtain ⟨z, hz⟩ : ∃ z, cmpPe (us[p]'hin) t = z := ⟨_, rfl⟩
        have hh : HasAt us t p = decide (z = 0) := by unfold HasAt; rw [List.getElem?_eq_getElem hin]; show decide (cmpPe (us[p]'hin) t = 0) = _; rw [hz]
        have hh' := Lib.hid hh
        have hz' := Lib.hid hz
        clear hms hE hEw hh hz
        go_wp2_with fail
        refine wp_region_script [0, 1, 2, 3, 4, 5, 6, 7, 8, 9, 10, 12, 13, 14, 15] [] (fun w' => Ext wr w') [(.pure, 0), (.pure, 1), (.pure, 2), (.pure, 3), (.pure, 4), (.pure, 5), (.pure, 6), (.pure, 7), (.pure, 8), (.read, 9), (.read, 10), (.one, 11), (.pure, 12), (.pure, 13), (.pure, 14), (.pure, 15)] (by kernel_rfl) (by kernel_rfl) ?_
        have hC : Ext wr wr.drew := (Ext.refl wr).drew
        iterate 9 (first | (apply scr_pG; (· rfl); (· (first | rfl | (simp [Region.wanted, yielded, go_sem]; done) | (simp [Region.wanted, yielded, go_sem, *]; done))); (· (intro w'; go_simp; try rfl)); (· (simp [go_sem]; try rfl))) | (apply scr_p0; (· rfl); (· (first | rfl | (simp [Region.wanted, yielded, go_sem]; done) | (simp [Region.wanted, yielded, go_sem, *]; done))); (· (simp [go_sem]; try rfl))))
        (first | (apply scr_rG; (· rfl); (· (first | rfl | (simp [Region.wanted, yielded, go_sem]; done) | (simp [Region.wanted, yielded, go_sem, *]; done))); (· first | exact hC | exact (Ext.refl _).drew); (· (intro w' hw'; have x0_ := hw'.keep x0; have x1_ := hw'.keep x1; have x2_ := hw'.keep x2; have x3_ := hw'.keep x3; have x4_ := hw'.keep x4; go_simp; try rfl)); (· (simp [go_sem]; try rfl))) | (apply scr_r0G; (· rfl); (· (first | rfl | (simp [Region.wanted, yielded, go_sem]; done) | (simp [Region.wanted, yielded, go_sem, *]; done))); (· first | exact hC | exact (Ext.refl _).drew); (· (simp [go_sem]; try rfl))))
        (first | (apply scr_rG; (· rfl); (· (first | rfl | (simp [Region.wanted, yielded, go_sem]; done) | (simp [Region.wanted, yielded, go_sem, *]; done))); (· first | exact hC | exact (Ext.refl _).drew); (· (intro w' hw'; have e0_ := hw'.keep e0; have e1_ := hw'.keep e1; have e2_ := hw'.keep e2; have e3_ := hw'.keep e3; go_simp; try rfl)); (· (simp [go_sem]; try rfl))) | (apply scr_r0G; (· rfl); (· (first | rfl | (simp [Region.wanted, yielded, go_sem]; done) | (simp [Region.wanted, yielded, go_sem, *]; done))); (· first | exact hC | exact (Ext.refl _).drew); (· (simp [go_sem]; try rfl))))
        refine scr_oneG rfl (by simp [Region.wanted, yielded, go_sem, hini]) (fun K hK => ?_)
        refine wp_call_v2 (f := F) rfl rfl hF.enter ?_
        go_simp
        refine hF.cmp (cs := [m0, m1, m2, m3]) (p := m4) (ds := [a0, a1, a2, a3]) (kPe.mv hms'.out (hC.mv [])) (kPe.mv htw.out (hC.mv [])) v4 _ ?_
        rw [hz'.out]
        intro w9 hE9
        refine hK _ _ (fun h => by simp at h) ?_
        clear hK
        by_cases h0 : z = 0
        · have h0b : (z == 0) = true := by simp [h0]
          have hfin := Lib.hid (show HasAt us t p = true by rw [hh'.out]; simp [h0])
          iterate 4 (first | (apply scr_pG; (· rfl); (· (first | rfl | (simp [Region.wanted, yielded, go_sem]; done) | (simp [Region.wanted, yielded, go_sem, *]; done))); (· (intro w'; go_simp; try rfl)); (· (simp [go_sem]; try rfl))) | (apply scr_p0; (· rfl); (· (first | rfl | (simp [Region.wanted, yielded, go_sem]; done) | (simp [Region.wanted, yielded, go_sem, *]; done))); (· (simp [go_sem]; try rfl))))
          refine scr_end ?_
          simp only [Exit.then]
          go_wp2_with fail
          have := hR'.out w9 p (hE'.out.trans (hC.trans hE9)) hat'.out
          rw [hfin.out] at this
          exact this
        · have h0b : (z == 0) = false := by simp [h0]
          have hfin := Lib.hid (show HasAt us t p = false by rw [hh'.out]; simp [h0])
          iterate 4 (first | (apply scr_pG; (· rfl); (· (first | rfl | (simp [Region.wanted, yielded, go_sem]; done) | (simp [Region.wanted, yielded, go_sem, *]; done))); (· (intro w'; go_simp; try rfl)); (· (simp [go_sem]; try rfl))) | (apply scr_p0; (· rfl); (· (first | rfl | (simp [Region.wanted, yielded, go_sem]; done) | (simp [Region.wanted, yielded, go_sem, *]; done))); (· (simp [go_sem]; try rfl))))
          refine scr_end ?_
          simp only [Exit.then]
          go_wp2_with fail
          have := hR'.out w9 p (hE'.out.trans (hC.trans hE9)) hat'.out
          rw [hfin.out] at this
          exact this
      · have hpe : p = us.length := by omega
        have hini : ¬ (p : Int) < (us.length : Int) := by omega
        have hfin := Lib.hid (show HasAt us t p = false by simp [HasAt, hpe])
        have hE' := Lib.hid hE
        clear hpe hE hEw
        go_wp2_with fail
        refine wp_region_script [0, 1, 2, 3, 4, 5, 6, 7, 8, 9, 10, 12, 13, 14, 15] [] (fun w' => Ext wr w') [(.pure, 0), (.pure, 1), (.pure, 2), (.pure, 3), (.pure, 4), (.pure, 5), (.pure, 6), (.pure, 7), (.pure, 8), (.read, 9), (.read, 10), (.one, 11), (.pure, 12), (.pure, 13), (.pure, 14), (.pure, 15)] (by kernel_rfl) (by kernel_rfl) ?_
        have hC : Ext wr wr.drew := (Ext.refl wr).drew
        iterate 9 (first | (apply scr_pG; (· rfl); (· (first | rfl | (simp [Region.wanted, yielded, go_sem]; done) | (simp [Region.wanted, yielded, go_sem, *]; done))); (· (intro w'; go_simp; try rfl)); (· (simp [go_sem]; try rfl))) | (apply scr_p0; (· rfl); (· (first | rfl | (simp [Region.wanted, yielded, go_sem]; done) | (simp [Region.wanted, yielded, go_sem, *]; done))); (· (simp [go_sem]; try rfl))))
        (first | (apply scr_rG; (· rfl); (· (first | rfl | (simp [Region.wanted, yielded, go_sem]; done) | (simp [Region.wanted, yielded, go_sem, *]; done))); (· first | exact hC | exact (Ext.refl _).drew); (· (intro w' hw'; have e0_ := hw'.keep e0; go_simp; try rfl)); (· (simp [go_sem]; try rfl))) | (apply scr_r0G; (· rfl); (· (first | rfl | (simp [Region.wanted, yielded, go_sem]; done) | (simp [Region.wanted, yielded, go_sem, *]; done))); (· first | exact hC | exact (Ext.refl _).drew); (· (simp [go_sem]; try rfl))))
        (first | (apply scr_rG; (· rfl); (· (first | rfl | (simp [Region.wanted, yielded, go_sem]; done) | (simp [Region.wanted, yielded, go_sem, *]; done))); (· first | exact hC | exact (Ext.refl _).drew); (· (intro w' hw'; have e0_ := hw'.keep e0; go_simp; try rfl)); (· (simp [go_sem]; try rfl))) | (apply scr_r0G; (· rfl); (· (first | rfl | (simp [Region.wanted, yielded, go_sem]; done) | (simp [Region.wanted, yielded, go_sem, *]; done))); (· first | exact hC | exact (Ext.refl _).drew); (· (simp [go_sem]; try rfl))))
        refine scr_one0 rfl (by simp [Region.wanted, yielded, go_sem, hini]) (fun h => by simp at h) (by simp [go_sem]; rfl) ?_
        iterate 4 (first | (apply scr_pG; (· rfl); (· (first | rfl | (simp [Region.wanted, yielded, go_sem]; done) | (simp [Region.wanted, yielded, go_sem, *]; done))); (· (intro w'; go_simp; try rfl)); (· (simp [go_sem]; try rfl))) | (apply scr_p0; (· rfl); (· (first | rfl | (simp [Region.wanted, yielded, go_sem]; done) | (simp [Region.wanted, yielded, go_sem, *]; done))); (· (simp [go_sem]; try rfl))))
        refine scr_end ?_
        simp only [Exit.then]
        go_wp2_with fail
        have := hR'.out wr.drew p hE'.out.drew hat'.out
        rw [hfin.out] at this
        first | exact this | simpa [go_sem] using this
end Go.Proofs.YtihapgangilncaaGreat
