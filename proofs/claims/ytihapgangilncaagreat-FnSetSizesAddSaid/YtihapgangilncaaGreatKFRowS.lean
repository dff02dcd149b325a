/- PathElementSet.Insert. Sets of path elements as sorted lists (plain), and impl.toElemSet. Orderly path elements: the comparison among them is transitive (plain). Rows made at full length and filled by copy: FieldList.Copy. append of a whole slice to a row, in a region that draws its order. -/
import Derived.Test.YtihapgangilncaaGreatKFBSearch
import Derived.Test.YtihapgangilncaaGreatKFMapQ
import Derived.Test.YtihapgangilncaaGreatKFTameS
import Derived.Laws.OwnMore
namespace Go.Proofs.YtihapgangilncaaGreat
open Go.RowKit
set_option linter.unusedSimpArgs false

theorem ins_mut {w wz w8 w9 : World} {bo : Nat} {v : Value} (hE : Ext w wz) (h8 : wz.grownBy w8 v.ownBlock) (h9 : w8.grownBy w9 (some bo)) : Mut w (bo :: vb v) w9 :=
  ⟨h9.os.trans (h8.os.trans hE.below.os), h9.tape.trans (h8.tape.trans hE.below.tape), h9.output.trans (h8.output.trans hE.below.output), Nat.le_trans hE.size (Nat.le_trans h8.size h9.size), fun i hi hx => by
    simp only [List.mem_cons, not_or] at hx
    have h1 := Nat.lt_of_lt_of_le hi hE.size
    exact (h9.block i (Nat.lt_of_lt_of_le h1 h8.size) (fun e => hx.1 (Option.some.inj e))).trans ((h8.block i h1 (fun e => hx.2 (by simp [vb, ← e]))).trans (hE.below.block i hi))⟩
/-- the set us with t put in at place i, if it is not there -/
def insAt (us : List PEl) (t : PEl) (i : Nat) : List PEl := if HasAt us t i then us else us.take i ++ t :: us.drop i

theorem Tryz.info79 : (Tryz.prog.info? 79).map (fun i => (i.zero, i.size, i.bytes)) = some (some (.slice none 0 0), 1, 24) := by kernel_rfl

set_option maxRecDepth 100000 in
set_option maxHeartbeats 8000000 in
set_option pp.maxSteps 1000000 in
set_option pp.deepTerms true in
theorem esInsert_c {w : World} {X : List Nat} {bs off : Nat} {old : Array Value} {T : TypeId} {v : Value} {us : List PEl} {cs : List Value} {t : PEl} (hb : w.heap[bs]? = some (.cells old T (0, 0))) (hoff : off < old.size) (hov : old[off]? = some v)
    (hrow : Row kPe 89 w (bs :: X) v us) (hX : Old (bs :: X) w) (ht : kPe.is w (vb v ++ bs :: X) cs t) (hmono : ∀ i j (hi : i < us.length) (hj : j < us.length), i ≤ j → cmpPe us[j] t < 0 → cmpPe us[i] t < 0)
    (hbytes : (us.length + 1) * 32 ≤ 140737488351232) (R : Ending → World → Prop)
    (hR : ∀ w' v' i, At us t i → w'.heap[bs]? = some (.cells (old.setIfInBounds off v') T (0, 0)) → Row kPe 89 w' (bs :: X) v' (insAt us t i) → Mut w (bs :: vb v) w' → (∀ g, v'.ownBlock = some g → v.ownBlock = some g ∨ w.heap.size ≤ g) → R (.returned (.tuple #[])) w') :
    Calls Tryz.prog 51 #[.pointer (some ⟨bs, off, none⟩), .agg cs.toArray] w R := by
  obtain ⟨a0, a1, a2, a3, rfl, o0, o1, o2, o3⟩ := kPe_4 ht
  have hsl := hrow.isSl (bytes := 32) (Nat.le_trans (Nat.mul_le_mul_right _ (Nat.le_succ _)) hbytes)
  have hvo := hrow.one
  have hblt := (Array.getElem?_eq_some_iff.1 hb).1
  have c0 : w.cell? ⟨bs, off, none⟩ = some v := by rw [cells_of hb]; exact hov
  have hself : old.setIfInBounds off v = old := by
    apply Array.ext_getElem?
    intro j
    rw [Array.getElem?_setIfInBounds]
    split
    · rename_i e; rw [← e, hov]
    · rfl
  have hsl' := Lib.hid (hsl.mv ((Mv.refl w _).less (Z := []) (by simp)) (by decide))
  have hb' := Lib.hid hb
  have hoff' := Lib.hid hoff
  have hrow' := Lib.hid hrow
  have hX' := Lib.hid hX
  have ht' := Lib.hid ht
  have hm' := Lib.hid hmono
  have hbytes' := Lib.hid hbytes
  have hself' := Lib.hid hself
  have hR' := Lib.hid hR
  clear hb hoff hov hrow hX ht hmono hbytes hR hsl hself
  go_enter Tryz.func51, Tryz.ntmps51
  go_wp2_with fail
  refine abs1 (G := fun wr => Code.wp _ _ _ _ wr) ?_
  intro w1 hE1 hb1 hs1
  have e0 : w1.cell? ⟨w.heap.size, 0, none⟩ = some (a0) := cells_of hb1 0; have e1 : w1.cell? ⟨w.heap.size, 1, none⟩ = some (a1) := cells_of hb1 1; have e2 : w1.cell? ⟨w.heap.size, 2, none⟩ = some (a2) := cells_of hb1 2; have e3 : w1.cell? ⟨w.heap.size, 3, none⟩ = some (a3) := cells_of hb1 3
  replace c0 := hE1.keep c0
  clear hb1 hs1
  refine wp_region_script [0, 1, 2, 3, 4, 6, 7, 8, 9, 10] [] (fun w' => Ext w1 w') [(.pure, 0), (.pure, 1), (.pure, 2), (.read, 3), (.read, 4), (.one, 5), (.pure, 6), (.pure, 7), (.pure, 8), (.pure, 9), (.pure, 10)] (by kernel_rfl) (by kernel_rfl) ?_
  have hC : Ext w1 w1.drew := (Ext.refl _).drew
  iterate 3 (apply scr_pure'; (· rfl); (· rfl); (· (intro w'; go_simp; try rfl)); (· (simp [go_sem]; try rfl)))
  (apply scr_read'; (· rfl); (· rfl); (· first | exact hC | exact (Ext.refl _).drew); (· (intro w' hw'; have c0_ := hw'.keep c0; go_simp; try rfl)); (· (simp [go_sem]; try rfl)))
  (apply scr_read'; (· rfl); (· rfl); (· first | exact hC | exact (Ext.refl _).drew); (· (intro w' hw'; have e0_ := hw'.keep e0; have e1_ := hw'.keep e1; have e2_ := hw'.keep e2; have e3_ := hw'.keep e3; go_simp; try rfl)); (· (simp [go_sem]; try rfl)))
  refine scr_one rfl rfl (fun K hK => ?_)
  go_simp
  refine bsearch_c (cs := [a0, a1, a2, a3]) (t := t) (hsl'.out.mv ((hE1.trans hC).mv []) (by decide)) (kPe.mv (kPe.mv ht'.out ((Mv.refl w _).less (Z := []) (by simp))) ((hE1.trans hC).mv [])) hm'.out _ ?_
  intro w2 i hE2 hat
  have hE12 := hC.trans hE2
  refine hK _ _ (fun h => by simp at h) ?_
  clear hK
  obtain ⟨fb, hfb⟩ : ∃ q, HasAt us t i = q := ⟨_, rfl⟩
  rw [hfb]
  have hfb' := Lib.hid hfb
  have hat' := Lib.hid hat
  clear hfb hat
  iterate 5 (apply scr_pure'; (· rfl); (· rfl); (· (intro w'; go_simp; try rfl)); (· (simp [go_sem]; try rfl)))
  refine scr_end ?_
  simp only [Exit.then]
  replace c0 := hE12.keep c0; replace e0 := hE12.keep e0; replace e1 := hE12.keep e1; replace e2 := hE12.keep e2; replace e3 := hE12.keep e3
  replace hE1 := hE1.trans hE12
  clear hE2 hE12 hC
  cases fb
  · go_wp2_with fail
    refine wp_region_script [0, 1, 2, 3, 4, 5, 6, 9, 10] [7] (fun w' => Ext w2 w') [(.pure, 0), (.pure, 1), (.pure, 2), (.pure, 3), (.read, 4), (.pure, 5), (.read, 6), (.one, 7), (.one, 8), (.pure, 9), (.pure, 10), (.one, 11)] (by kernel_rfl) (by kernel_rfl) ?_
    have hC : Ext w2 w2.drew := (Ext.refl _).drew
    iterate 4 (apply scr_pure'; (· rfl); (· rfl); (· (intro w'; go_simp; try rfl)); (· (simp [go_sem]; try rfl)))
    (apply scr_read'; (· rfl); (· rfl); (· first | exact hC | exact (Ext.refl _).drew); (· (intro w' hw'; have c0_ := hw'.keep c0; go_simp; try rfl)); (· (simp [go_sem]; try rfl)))
    (apply scr_pure'; (· rfl); (· rfl); (· (intro w'; go_simp; try rfl)); (· (simp [go_sem]; try rfl)))
    (apply scr_read'; (· rfl); (· rfl); (· first | exact hC | exact (Ext.refl _).drew); (· (intro w' hw'; have e0_ := hw'.keep e0; have e1_ := hw'.keep e1; have e2_ := hw'.keep e2; have e3_ := hw'.keep e3; go_simp; try rfl)); (· (simp [go_sem]; try rfl)))
    refine scr_one rfl rfl (fun K hK => ?_)
    go_simp
    refine hK _ _ (fun _ => hC.push _) ?_
    clear hK
    refine scr_one rfl rfl (fun K hK => ?_)
    go_simp
    have hEW : Ext w (w2.alloc (.cells #[a0, a1, a2, a3] 89)).drew := (hE1.push _).drew
    obtain ⟨W, hW⟩ : ∃ W, (w2.alloc (.cells #[a0, a1, a2, a3] 89)).drew = W := ⟨_, rfl⟩
    have hq : W.heap[w2.heap.size]? = some (.cells #[a0, a1, a2, a3] 89 (0, 0)) := by
      rw [← hW]
      exact (push_get _ _ _).trans (if_pos rfl)
    have hC2 : Ext w2 W := by rw [← hW]; exact ((Ext.refl w2).push _).drew
    rw [hW] at hEW ⊢
    have hqv : v.ownBlock ≠ some w2.heap.size := fun e => by have := hrow'.out.lt e; have := hE1.size; omega
    refine insert_c (X := bs :: X) (cs := [a0, a1, a2, a3]) (u := t) (hrow'.out.ext hEW) (hX'.out.le hEW.size) hq (kPe.mv ht'.out (hEW.mv _)) hqv hat'.out.1 hbytes'.out _ ?_
    intro w3 v' hrow3 hg3 hne3 hd3
    have hvo3 := hrow3.one
    have hb3 : w3.heap[bs]? = some (.cells old T (0, 0)) := (hg3.block bs (Nat.lt_of_lt_of_le hblt hEW.size) (hrow'.out.notin (by simp))).trans ((hEW.below.block bs hblt).trans hb'.out)
    have hrow3' := Lib.hid hrow3
    have hd3' := Lib.hid hd3
    have hg3' := Lib.hid hg3
    have hEW' := Lib.hid hEW
    clear hrow3 hd3 hg3 hEW hq hW hqv hC2
    refine hK _ _ (fun h => by simp at h) ?_
    clear hK
    iterate 2 (apply scr_pure'; (· rfl); (· rfl); (· (intro w'; go_simp; try rfl)); (· (simp [go_sem]; try rfl)))
    refine scr_one rfl rfl (fun K hK => ?_)
    refine wp_storeC 79 _ _ rfl Tryz.info79 (v := v') (new := old.setIfInBounds off v') (by go_simp) (by go_simp) hvo3 hb3 hoff'.out rfl ?_
    intro w4 h4 g4
    refine hK _ _ (fun h => by simp at h) ?_
    clear hK
    refine scr_end ?_
    have h4' := Lib.hid h4
    have g4' := Lib.hid g4
    clear h4 g4
    refine bodyPost_end (by simp [results, Tryz.results51, go_sem]) rfl (hR'.out w4 v' i hat'.out h4'.out ?_ (ins_mut hEW'.out hg3'.out g4'.out) (fun g h => (hd3'.out g h).imp id (fun e => Nat.le_trans hEW'.out.size e)))
    unfold insAt
    rw [hfb'.out]
    exact hrow3'.out.keep g4'.out (by simp)
  · go_wp2_with fail
    refine bodyPost_ret (by simp [results, Tryz.results51, go_sem]) rfl (hR'.out w2 v i hat'.out ?_ ?_ (hE1.mut _) (fun g h => .inl h))
    · rw [hself'.out]
      exact (hE1.below.block bs hblt).trans hb'.out
    · unfold insAt
      rw [hfb'.out]
      exact hrow'.out.ext hE1
end Go.Proofs.YtihapgangilncaaGreat
namespace Go.Proofs.YtihapgangilncaaGreat
open Go.RowKit
set_option linter.unusedSimpArgs false

theorem cmpT_neg' (s t : T) : cmpT t s = - cmpT s t := cmpP_neg _ _
theorem cmpT_rng' (s t : T) : cmpT s t = -1 ∨ cmpT s t = 0 ∨ cmpT s t = 1 := cmpP_rng _ _
theorem cmpPe_neg' (a b : PEl) : cmpPe b a = - cmpPe a b := by
  cases a <;> cases b <;> simp only [cmpPe] <;> first | rfl | exact cmpS_neg _ _ | exact cmpE_neg cmpT_neg' _ _ | exact cmpT_neg' _ _ | exact cmpI_neg _ _
theorem cmpPe_rng' (a b : PEl) : cmpPe a b = -1 ∨ cmpPe a b = 0 ∨ cmpPe a b = 1 := by
  cases a <;> cases b <;> simp only [cmpPe] <;> first | exact cmpS_rng _ _ | exact cmpE_rng cmpT_rng' _ _ | exact cmpT_rng' _ _ | exact cmpI_rng _ _ | simp

end Go.Proofs.YtihapgangilncaaGreat
namespace Go.Proofs.YtihapgangilncaaGreat
open Go.RowKit
set_option linter.unusedSimpArgs false

def GoodPe : PEl → Prop
  | .key fs => ∀ p ∈ fs, GoodT p.2
  | .value t => GoodT t
  | _ => True
theorem good_plain (v : V) : v.clean.orderly = true → GoodT v.plain := by
  induction v using V.ind with
  | h kind n f s keys l ih =>
    intro h
    simp only [V.plain]
    simp only [V.clean] at h
    split
    · exact .bool _
    rename_i k1
    rw [if_neg k1] at h
    split
    · rename_i k2
      rw [if_pos k2] at h
      simp [V.orderly] at h
      exact .int h.1 h.2
    rename_i k2
    rw [if_neg k2] at h
    split
    · rename_i k3
      rw [if_pos k3] at h
      exact .float (noNan_of (by simpa [V.orderly] using h))
    rename_i k3
    rw [if_neg k3] at h
    split
    · exact .str _
    rename_i k4
    rw [if_neg k4] at h
    split
    · rename_i k5
      rw [if_pos k5] at h
      have h' : V.orderlyL (V.cleanL l) = true := by simpa [V.orderly] using h
      refine .list fun i hi => ?_
      rw [V.plainL_eq] at hi
      simp only [V.plainL_eq, List.getElem_map]
      have hil : i < l.length := by simpa using hi
      have := (orderlyL_iff _).1 h' i (by rw [cleanL_length]; exact hil)
      rw [cleanL_get hil] at this
      exact ih i hil this
    rename_i k5
    rw [if_neg k5] at h
    split
    · rename_i k6
      rw [if_pos k6] at h
      have h' : V.orderlyL ((insAll [] (keys.zip (V.cleanL l))).map (·.2)) = true := by simpa [V.orderly] using h
      refine .map fun i hi => ?_
      obtain ⟨p, hp, e⟩ := List.mem_map.1 (List.getElem_mem hi)
      rw [← e]
      have hz : keys.zip (V.plainL l) = (keys.zip l).map fun p => (p.1, p.2.plain) := by rw [V.plainL_eq, zip_map_right]
      rw [hz] at hp
      have hl1 := lookK_at (putAll_nodup _) hp
      rw [← lookK_insAll, ← insAll_map, lookK_map] at hl1
      cases hv : lookK p.1 (insAll [] (keys.zip l)) with
      | none => rw [hv] at hl1; cases hl1
      | some v =>
        rw [hv] at hl1
        have hpv : v.plain = p.2 := by simpa using hl1
        rw [← hpv]
        have hm := lookK_mem hv
        have hml := (List.of_mem_zip (insAll_sub hm)).2
        obtain ⟨j, hj, ej⟩ := List.getElem_of_mem hml
        subst ej
        refine ih j hj ?_
        have hc : (p.1, (l[j]).clean) ∈ insAll [] (keys.zip (V.cleanL l)) := by
          rw [V.cleanL_eq, ← zip_map_right, ← insAll_map]
          exact List.mem_map.2 ⟨_, hm, rfl⟩
        obtain ⟨q, hq, eq⟩ := List.getElem_of_mem (List.mem_map.2 ⟨_, hc, rfl⟩ : (l[j]).clean ∈ (insAll [] (keys.zip (V.cleanL l))).map (·.2))
        have := (orderlyL_iff _).1 h' q hq
        rw [eq] at this
        exact this
    · exact .null

theorem key_tame' {e : EL} (h : tameEl e) (hk : e.kind = 1) : ∀ p ∈ e.keys.zip (V.plainL e.l), ∃ v : V, p.2 = v.plain ∧ v.clean.orderly = true := by
  intro p hp
  rw [V.plainL_eq, ← zip_map_right] at hp
  obtain ⟨q, hq, rfl⟩ := List.mem_map.1 hp
  obtain ⟨i, hi, rfl⟩ := List.getElem_of_mem hq
  obtain ⟨-, h2⟩ := h
  unfold cleanEl at h2
  rw [if_pos hk] at h2
  have hi1 : i < e.keys.length := by rw [List.length_zip] at hi; omega
  have hi2 : i < e.l.length := by rw [List.length_zip] at hi; omega
  have ho := (orderlyL_iff _).1 h2 i (by rw [cleanL_length, List.length_take]; omega)
  have e1 : (V.cleanL (e.l.take (min e.keys.length e.l.length)))[i]'(by rw [cleanL_length, List.length_take]; omega) = (e.l[i]).clean := by
    rw [cleanL_get (by rw [List.length_take]; omega), List.getElem_take]
  rw [e1] at ho
  exact ⟨e.l[i], by simp, ho⟩
theorem value_tame' {e : EL} (h : tameEl e) (hk : e.kind = 2) : e.v.clean.orderly = true := by
  obtain ⟨h1, -⟩ := h
  unfold cleanEl at h1
  rw [if_neg (by omega), if_pos hk] at h1
  exact h1
theorem good_toE {e : EL} (h : tameEl e) : GoodPe (toE e) := by
  unfold toE
  split
  · rename_i k1
    intro p hp
    obtain ⟨v, e1, h1⟩ := key_tame' h k1 p hp
    rw [e1]
    exact good_plain v h1
  · split
    · rename_i k2
      exact good_plain _ (value_tame' h k2)
    · split <;> trivial
end Go.Proofs.YtihapgangilncaaGreat
namespace Go.Proofs.YtihapgangilncaaGreat
open Go.RowKit
set_option linter.unusedSimpArgs false

section
variable {P : Program}
end

/-- the cells of a slice, row by row -/
theorem IsSl.rows {α : Type} {k : Kind α} {bytes : Nat} {w : World} {X : List Nat} {v : Value} {us : List α} (h : IsSl k bytes w X v us) :
    ∃ o c b off, ∃ rows : List (List Value), v = .slice o us.length c ∧ us.length ≤ c ∧ us.length * bytes ≤ 140737488351232 ∧ (0 < us.length → o = some ⟨b, off, none⟩ ∧ b ∉ X) ∧ All2 (k.is w X) rows us ∧
      ∀ j y, rows.flatten[j]? = some y → w.cell? ⟨b, off + j, none⟩ = some y := by
  obtain ⟨o, c, b, off, h1, h2, h3, h4, h5⟩ := h.ex
  have key : ∀ m, m ≤ us.length → ∃ rows : List (List Value), All2 (k.is w X) rows (us.take m) ∧ rows.flatten.length = m * k.size ∧ ∀ j y, rows.flatten[j]? = some y → w.cell? ⟨b, off + j, none⟩ = some y := by
    intro m
    induction m with
    | zero => intro _; exact ⟨[], .nil, by simp, fun j y hj => by simp at hj⟩
    | succ m ih =>
      intro hm
      obtain ⟨rows, r1, r2, r3⟩ := ih (by omega)
      obtain ⟨cs, hc, hcs⟩ := h5 m (by omega)
      have hl := k.len hcs
      refine ⟨rows ++ [cs], ?_, ?_, fun j y hj => ?_⟩
      · rw [List.take_succ_eq_append_getElem (by omega)]
        exact r1.snoc hcs
      · rw [List.flatten_append, List.length_append, r2, Nat.add_mul]; simp [hl]
      · rw [List.flatten_append] at hj
        by_cases hlt : j < rows.flatten.length
        · rw [List.getElem?_append_left hlt] at hj
          exact r3 j y hj
        · rw [List.getElem?_append_right (by omega)] at hj
          simp only [List.flatten_cons, List.flatten_nil, List.append_nil] at hj
          have hjl : j - rows.flatten.length < k.size := by
            have := (List.getElem?_eq_some_iff.1 hj).1
            omega
          have := hc (j - rows.flatten.length) hjl
          rw [hj] at this
          rw [← this]
          congr 2
          rw [r2] at hlt ⊢
          omega
  obtain ⟨rows, r1, -, r3⟩ := key us.length (Nat.le_refl _)
  rw [List.take_of_length_le (Nat.le_refl _)] at r1
  exact ⟨o, c, b, off, rows, h1, h2, h3, h4, r1, r3⟩

theorem Tryz.infoFd : (Tryz.prog.info? 223).map (·.size) = some 2 := by kernel_rfl

end Go.Proofs.YtihapgangilncaaGreat
namespace Go.Proofs.YtihapgangilncaaGreat
open Go.RowKit
set_option linter.unusedSimpArgs false

section
variable {P : Program}
/-- v = append(v, s...), in a region that draws its order -/
theorem wp_rowAppS {α : Type} {k : Kind α} {bytes : Nat} {w w2 : World} {X : List Nat} {v sv : Value} {us ts : List α} {e : TypeId} {o : Oper} {a : Act} {K : Act → World → Prop} {Q : Exit → Act → World → Prop}
    (hrow : Row k e w X v us) (hE : Ext w w2) (hX : Old X w2) (hs2 : IsSl k bytes w2 (vb v ++ X) sv ts) (s x : Operand) (t : TypeId)
    (ho : o.op = .call { callee := .builtin .append, args := #[s, x], argTypes := #[t, t] })
    {z : Value} (ht : P.underlying t = some (.slice e)) (hi : (P.info? e).map (fun i => (i.zero, i.size, i.bytes)) = some (some z, k.size, bytes))
    (hzs : z.cells.size = k.size) (hsz : 0 < k.size) (hs : a.eval s = v) (hx : a.eval x = sv)
    (hbytes : (us.length + ts.length) * bytes ≤ 140737488355328) (h63 : us.length + ts.length ≤ maxLen)
    (h : ∀ v' w', Row k e w' X v' (us ++ ts) → w2.grownBy w' v.ownBlock → (∀ g, v'.ownBlock = some g → v.ownBlock = some g ∨ w2.heap.size ≤ g) → K (a.put o.dst v') w') : o.wp P a w2 K Q := by
  obtain ⟨rows, h1, h2, h3⟩ := hrow.ex
  obtain ⟨so, c, b, off, rs, rfl, l2, l3, l4, r1, r2⟩ := hs2.rows
  have hml := All2.mem_len (s := k.size) (fun r a h => k.len h) r1
  have hrl : rs.flatten.length = ts.length * k.size := by rw [flat_len hml, r1.length]
  obtain ⟨v', w', hr, k1, k2, _, k4⟩ := run_append_gen (P := P) w2 t o.type e ht hi hzs hsz (h1.ext hE) so ts.length c rs.flatten hrl (fun hn => by
    rcases Nat.eq_zero_or_pos ts.length with h0 | h0
    · exact h0
    · have := (l4 h0).1; rw [hn] at this; cases this) (fun ad had j u hj => by
    have hp : 0 < ts.length := by
      rcases Nat.eq_zero_or_pos ts.length with h0 | h0
      · rw [h0, Nat.zero_mul] at hrl
        rw [List.eq_nil_of_length_eq_zero hrl] at hj
        simp at hj
      · exact h0
    have := (l4 hp).1
    rw [had] at this
    cases this
    rw [addr_add]
    exact r2 j u hj) (Row.flat r1) h63 hbytes
  unfold Oper.wp execOp
  simp only [ho, resolve, invoke, builtin, Sem.run_bind, Sem.run_pure, Result.andThen_ok, List.map_toArray, List.map_cons, List.map_nil, hs, hx, hr]
  have hd : ∀ g, v'.ownBlock = some g → v.ownBlock = some g ∨ w2.heap.size ≤ g := fun g hg => (k4 g hg).imp id (fun e => Nat.le_of_eq e.symm)
  have hmv : Mv w2 (vb v ++ X) w' (vb v' ++ X) := Mv.app k2 hd
  refine h v' w' ⟨rows ++ rs, by simpa using k1, (h2.imp fun _ _ h => k.mv (k.mv h (hE.mv _)) hmv).glue (r1.imp fun _ _ h => k.mv h hmv), fun g hg hx => ?_⟩ k2 hd
  rcases hd g hg with h | h
  · exact h3 g h hx
  · have := hX g hx; omega
end
end Go.Proofs.YtihapgangilncaaGreat
