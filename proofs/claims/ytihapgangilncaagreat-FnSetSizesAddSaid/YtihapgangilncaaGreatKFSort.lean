/- impl.sortedKeys: the keys of a map in increasing order. -/
import Derived.Test.YtihapgangilncaaGreatKFBack
import Derived.Test.YtihapgangilncaaGreatKFStr
import Derived.IntWalk
import Derived.Laws.OwnMore
namespace Go.Proofs.YtihapgangilncaaGreat
open Go.RowKit

theorem rising_append {a b : List ByteArray} (ha : Rising a) (hb : Rising b) (h : ∀ x ∈ a, ∀ y ∈ b, slt x y = true) : Rising (a ++ b) := by
  induction a with
  | nil => exact hb
  | cons x a ih =>
    refine ⟨fun y hy => ?_, ih ha.2 (fun x hx => h x (by simp [hx]))⟩
    rcases List.mem_append.1 hy with hy | hy
    · exact ha.1 y hy
    · exact h x (by simp) y hy
theorem Rising.left {a b : List ByteArray} (h : Rising (a ++ b)) : Rising a := by
  induction a with
  | nil => trivial
  | cons x a ih => exact ⟨fun y hy => h.1 y (by simp [hy]), ih h.2⟩
theorem Rising.right {a b : List ByteArray} (h : Rising (a ++ b)) : Rising b := by
  induction a with
  | nil => exact h
  | cons x a ih => exact ih h.2
theorem rising_put {A : List ByteArray} {k : ByteArray} {i : Nat} (hA : Rising A) (h1 : ∀ x ∈ A.take i, slt x k = true) (h2 : ∀ x ∈ A.drop i, slt k x = true) : Rising (A.take i ++ k :: A.drop i) := by
  have hs : Rising (A.take i ++ A.drop i) := by rw [List.take_append_drop]; exact hA
  refine rising_append hs.left ⟨h2, hs.right⟩ (fun x hx y hy => ?_)
  rcases List.mem_cons.1 hy with rfl | hy
  · exact h1 x hx
  · exact slt_trans (h1 x hx) (h2 y hy)

theorem swap_put {α : Type} (l : List α) (e : α) (m : Nat) (h : m < l.length) : ((l.take (m + 1) ++ e :: l.drop (m + 1)).set (m + 1) (l[m])).set m e = l.take m ++ e :: l.drop m := by
  have h1 : l.take (m + 1) = l.take m ++ [l[m]] := List.take_succ_eq_append_getElem h
  have h2 : l.drop m = l[m] :: l.drop (m + 1) := List.drop_eq_getElem_cons h
  have h3 : (l.take m).length = m := by simp; omega
  rw [h1, h2, List.append_assoc, List.set_append_right _ _ (by rw [h3]; omega), h3, show m + 1 - m = 1 from by omega, List.set_append_right _ _ (by rw [h3]; exact Nat.le_refl _), h3, Nat.sub_self]
  rfl
theorem swap_map (l : List ByteArray) (e : ByteArray) (m : Nat) (h : m < l.length) :
    (((l.take (m + 1) ++ e :: l.drop (m + 1)).map Value.string).set (m + 1) (.string (l[m]))).set m (.string e) = (l.take m ++ e :: l.drop m).map Value.string := by
  rw [← swap_put l e m h, List.map_set, List.map_set]
theorem put_rising {ks : List ByteArray} {e : ByteArray} {j : Nat} (hr : Rising ks) (hne : e ∉ ks) (hgt : ∀ x ∈ ks.drop j, slt e x = true) (hlo : j = 0 ∨ ∃ m, ∃ h : m < ks.length, j = m + 1 ∧ slt e (ks[m]) = false) : Rising (ks.take j ++ e :: ks.drop j) := by
  refine rising_put hr (fun x hx => ?_) hgt
  rcases hlo with rfl | ⟨m, hm, rfl, hs⟩
  · simp at hx
  · have hlast : slt (ks[m]) e = true := by
      cases h : slt (ks[m]) e with
      | true => rfl
      | false => exact absurd (slt_total hs h ▸ List.getElem_mem hm) hne
    obtain ⟨a, ha, rfl⟩ := List.getElem_of_mem hx
    simp only [List.length_take] at ha
    rw [List.getElem_take]
    by_cases e1 : a = m
    · subst e1; exact hlast
    · exact slt_trans (hr.lt a m (by omega) hm) hlast
theorem put_mem {ks : List ByteArray} {e k : ByteArray} {j : Nat} : k ∈ ks.take j ++ e :: ks.drop j ↔ k = e ∨ k ∈ ks := by
  have h : k ∈ ks ↔ k ∈ ks.take j ∨ k ∈ ks.drop j := by rw [← List.mem_append, List.take_append_drop]
  rw [h, List.mem_append, List.mem_cons]
  constructor
  · rintro (h | h | h)
    · exact .inr (.inl h)
    · exact .inl h
    · exact .inr (.inr h)
  · rintro (h | h | h)
    · exact .inr (.inl h)
    · exact .inl h
    · exact .inr (.inr h)
theorem keys_inj {es : Ents} (h : (es.map (·.1)).Nodup) {i j : Nat} (hi : i < es.length) (hj : j < es.length) (e : (es[i]).1 = (es[j]).1) : i = j := by
  have h1 : i < (es.map (·.1)).length := by simpa using hi
  have h2 : j < (es.map (·.1)).length := by simpa using hj
  exact (List.getElem_inj (h₀ := h1) (h₁ := h2) h).1 (by simpa using e)
theorem nodup_len : ∀ (n : Nat) (done : List Nat), done.Nodup → (∀ i ∈ done, i < n) → done.length ≤ n
  | 0, done, _, h => by
    cases done with
    | nil => simp
    | cons a l => exact absurd (h a (by simp)) (by omega)
  | n + 1, done, hnd, h => by
    have h1 := nodup_len n (done.erase n) (hnd.erase n) (fun i hi => by
      have h2 := (hnd.mem_erase_iff).1 hi
      have := h i h2.2
      omega)
    rw [List.length_erase] at h1
    split at h1 <;> omega

def sliceLen : Value → Nat
  | .slice _ n _ => n
  | _ => 0
theorem Own.sliceLen {w : World} {e size : Nat} {v : Value} {n : Nat} {xs : List Value} (h : Own w e size v n xs) : sliceLen v = n := by
  obtain ⟨_, h | ⟨g', cap, cur, rfl, _⟩⟩ := h
  · obtain ⟨rfl, rfl⟩ := h; rfl
  · rfl
theorem sort_rel {w wr : World} {r : Nat} {es : Ents} {done : List Nat} {ks : List ByteArray} {i j g' cap' : Nat} (hnd : (es.map (·.1)).Nodup) (hi : i < es.length) (hni : i ∉ done) (hdl : ∀ i ∈ done, i < es.length) (hri : Rising ks)
    (hmem : ∀ k, k ∈ ks ↔ ∃ i, ∃ h : i < es.length, i ∈ done ∧ (es[i]).1 = k) (hgt : ∀ x ∈ ks.drop j, slt (es[i]).1 x = true) (hlo : j = 0 ∨ ∃ m, ∃ h : m < ks.length, j = m + 1 ∧ slt (es[i]).1 (ks[m]) = false)
    (hgg : w.heap.size < g') (hE : Ext w wr) (hI : IterAt wr w.heap.size r es (done ++ [i]))
    (ho : Own wr 9 1 (.slice (some ⟨g', 0, none⟩) (done.length + 1) cap') (done.length + 1) ((ks.take j ++ (es[i]).1 :: ks.drop j).map Value.string)) :
    ∃ (done' : List Nat) (ks' : List ByteArray), Ext w wr ∧ IterAt wr w.heap.size r es done' ∧ (∀ i ∈ done', i < es.length) ∧ Own wr 9 1 (.slice (some ⟨g', 0, none⟩) (done.length + 1) cap') done'.length (ks'.map Value.string) ∧
      (∀ g, (Value.slice (some ⟨g', 0, none⟩) (done.length + 1) cap').ownBlock = some g → w.heap.size < g) ∧ Rising ks' ∧ (∀ k, k ∈ ks' ↔ ∃ i, ∃ h : i < es.length, i ∈ done' ∧ (es[i]).1 = k) := by
  have hne : (es[i]).1 ∉ ks := fun h => by
    obtain ⟨i', h1, h2, h3⟩ := (hmem _).1 h
    exact hni (keys_inj hnd h1 hi h3 ▸ h2)
  refine ⟨done ++ [i], _, hE, hI, fun x hx => ?_, by simpa using ho, fun g hg => by simp [Value.ownBlock] at hg; omega, put_rising hri hne hgt hlo, fun k => ?_⟩
  · rcases List.mem_append.1 hx with hx | hx
    · exact hdl x hx
    · rw [List.mem_singleton] at hx; rw [hx]; exact hi
  · rw [put_mem, hmem]
    constructor
    · rintro (rfl | ⟨i', h1, h2, h3⟩)
      · exact ⟨i, hi, by simp, rfl⟩
      · exact ⟨i', h1, by simp [h2], h3⟩
    · rintro ⟨i', h1, h2, h3⟩
      rcases List.mem_append.1 h2 with h2 | h2
      · exact .inr ⟨i', h1, h2, h3⟩
      · rw [List.mem_singleton] at h2; subst h2; exact .inl h3.symm

set_option maxRecDepth 100000 in
set_option maxHeartbeats 8000000 in
theorem sortedKeys_c {w : World} {X : List Nat} {r : Nat} {es : Ents} (hm : IsMap w r es) (hnd : (es.map (·.1)).Nodup) (hX : Old X w) (hb : es.length * 16 ≤ 140737488351232) (hsz : ∀ p ∈ es, p.1.size ≤ 140737488351232)
    (R : Ending → World → Prop) (hR : ∀ w' v ks, Ext w w' → IsStrs w' X v ks → Rising ks → (∀ k, k ∈ ks ↔ k ∈ es.map (·.1)) → R (.returned v) w') :
    Calls Tryz.prog 137 #[.map (some r)] w R := by
  have hR' := Lib.hid hR
  have hnd' := Lib.hid hnd
  have hX' := Lib.hid hX
  have hsz' := Lib.hid hsz
  have hrl := hm.lt
  obtain ⟨ob, hrun, hit⟩ := run_range_ents (P := Tryz.prog) Tryz.underlying214 hm
  clear hR hnd hX hsz hm
  go_enter Tryz.func137, Tryz.ntmps137
  go_wp2_with fail
  go_loopw [3, 4, 5] (fun v _ _ wr => ∃ (done : List Nat) (ks : List ByteArray), Ext w wr ∧ IterAt wr w.heap.size r es done ∧ (∀ i ∈ done, i < es.length) ∧ Own wr 9 1 v done.length (ks.map Value.string) ∧ (∀ g, v.ownBlock = some g → w.heap.size < g) ∧ Rising ks ∧
      (∀ k, k ∈ ks ↔ ∃ i, ∃ h : i < es.length, i ∈ done ∧ (es[i]).1 = k))
    (fun v _ _ _ => es.length - sliceLen v)
  case atStart => exact ⟨[], [], (Ext.alloc _ _), hit, by simp, Own.nil _ _ _, fun g h => by simp [Value.ownBlock] at h, trivial, by simp⟩
  case round =>
    obtain ⟨done, ks, hE, hI, hdl, ho, hg, hri, hmem⟩ := hrel
    go_wp2_with (refine wpL_next rfl _ rfl rfl hI ?_ ?_)
    · intro i hi hni w2 hI2 hg2 hs2
      have hent := run_entry_ents (P := Tryz.prog) hi hI2
      have hE2 : Ext w w2 := hE.grown hg2 (fun k hk => by simp at hk; omega)
      have ho2 : Own w2 9 1 u3 done.length (ks.map Value.string) := ho.keep (fun g hgg => hg2.block g (ho.lt hgg) (fun e => by have := hg g hgg; simp at e; omega))
      have hone1 : ∀ u ∈ (#[Value.string (es[i]).1] : Array Value).toList, u.oneCell' = true := by simp [Value.oneCell']
      have hdn : done.length + 1 ≤ es.length := by
        have := nodup_len es.length _ hI2.nodup (fun j hj => by
          rcases List.mem_append.1 hj with hj | hj
          · exact hdl j hj
          · rw [List.mem_singleton] at hj; rw [hj]; exact hi)
        simpa using this
      have hb3 : (done.length + 1) * 16 ≤ 140737488355328 := Nat.le_trans (Nat.mul_le_mul_right 16 hdn) (Nat.le_trans hb (by decide))
      have hb4 : done.length + 1 ≤ maxLen := by rw [maxLen_eq]; omega
      go_wp2_with (first | refine wpL_lit1 (v := .string (es[i]).1) rfl 41 _ rfl 9 Tryz.underlying41 Tryz.info9 rfl rfl rfl ?_ | (at_builtin; refine wpL_app1 rfl _ _ 41 rfl 9 Tryz.underlying41 Tryz.info9 rfl (by decide) ho2 rfl rfl rfl hone1 hb3 hb4 ?_; intro v' w4 ho4 hg4 hne4 hd4; obtain ⟨g', cap', rfl, hkc'⟩ := ho4.shape hne4))
      have hE4 : Ext w w4 := hE2.grown (World.grownBy.ext_trans (Ext.refl _) hg4) (fun k hk => Nat.le_of_lt (hg k hk))
      have hI4 : IterAt w4 w.heap.size r es (done ++ [i]) := hI2.keep (hg4.block _ hI2.lt.1 (fun e => by have := hg _ e.symm; omega)) (hg4.block _ hI2.lt.2.1 (fun e => by have := hg _ e.symm; omega))
      have hu3 := ho.sliceLen
      have hgg : w.heap.size < g' := by
        rcases hd4 g' rfl with h | h
        · exact hg g' h
        · have := hE2.size; have := hI2.lt.1; omega
      have hlen : ks.length = done.length := by have := ho.1; simpa using this
      go_loopw [5] (fun iv wr2 => ∃ j : Nat, j ≤ ks.length ∧ iv = .int .i64 j ∧ Ext w wr2 ∧ IterAt wr2 w.heap.size r es (done ++ [i]) ∧
          Own wr2 9 1 (.slice (some ⟨g', 0, none⟩) (done.length + 1) cap') (done.length + 1) ((ks.take j ++ (es[i]).1 :: ks.drop j).map Value.string) ∧ Hid (∀ x ∈ ks.drop j, slt (es[i]).1 x = true))
        (fun iv _ => (intOf iv).toNat)
      case atStart =>
        refine ⟨ks.length, Nat.le_refl _, by rw [hlen], hE4, hI4, ?_, fun x hx => by simp at hx⟩
        simpa using ho4
      case round =>
        obtain ⟨j, hj, rfl, hE5, hI5, ho5, hgt⟩ := hrel
        have hfull : ((ks.take j ++ (es[i]).1 :: ks.drop j).map Value.string).length = done.length + 1 := by simp; omega
        rcases j with _ | m
        · have hd : decide ((0 : Int) < ((0 : Nat) : Int)) = false := by simp
          go_wp2_with fail
          go_quiet (fail)
          go_wp2_with fail
          have hgt' := hgt.out
          have hlo : 0 = 0 ∨ ∃ m', ∃ h : m' < ks.length, 0 = m' + 1 ∧ slt (es[i]).1 (ks[m']) = false := .inl rfl
          have hE6 : Ext w (wr.drewN nq) := hE5.drewN nq
          have hI6 := hI5.ext ((Ext.refl wr).drewN nq)
          have ho6 := ho5.ext ((Ext.refl wr).drewN nq)
          go_roundw
          case rel =>
            exact sort_rel hnd'.out hi hni hdl hri hmem hgt' hlo hgg hE6 hI6 (hlen ▸ ho6)
          case measure => rw [hu3]; show es.length - (done.length + 1) < _; omega
        · have hd : decide ((0 : Int) < ((m + 1 : Nat) : Int)) = true := by simp
          have q1 : wr.cell? ⟨g', m + 1, none⟩ = some (.string (es[i]).1) := by
            have := ho5.cell (m + 1) (by rw [hfull]; omega)
            rw [Nat.zero_add] at this
            rw [this]
            simp [List.getElem_append_right, Nat.min_eq_left hj]
          have q2 : wr.cell? ⟨g', m, none⟩ = some (.string (ks[m]'(by omega))) := by
            have := ho5.cell m (by rw [hfull]; omega)
            rw [Nat.zero_add] at this
            rw [this]
            simp only [List.map_append, List.map_take]
            rw [List.getElem_append_left (by simp; omega)]
            simp
          go_wp2_with fail
          have hkm : m < ks.length := hj
          have hcap : m + 1 < done.length + 1 := by omega
          go_quiet (fail)
          go_wp2_with fail
          · have hE6 : Ext wr ((wr.drewN nq).drew) := ((Ext.refl wr).drewN nq).drew
            refine wp_region_script [0, 1, 2, 3, 4, 5, 6, 7, 8, 9, 10, 11, 12, 13, 14, 16] [] (fun w' => Ext wr w') [(.pure, 0), (.pure, 1), (.pure, 2), (.pure, 3), (.pure, 4), (.pure, 5), (.pure, 6), (.pure, 7), (.pure, 8), (.read, 9), (.pure, 10), (.pure, 11), (.pure, 12), (.read, 13), (.pure, 14), (.one, 15), (.pure, 16), (.one, 17)] (by kernel_rfl) (by kernel_rfl) ?_
            have hwm : IntKind.i64.wrap (m : Int) = m := IntWalk.i64_in _ (by have := hb4; rw [maxLen_eq] at this; omega)
            have hm0 : (0 : Int) ≤ (m : Int) := by omega
            have hmd : (m : Int) < (done.length : Int) + 1 := by omega
            have hm1 : (0 : Int) ≤ (m : Int) + 1 := by omega
            have hmlt : m < done.length := by omega
            iterate 9 (refine scr_pure' rfl rfl (fun w' => by (go_simp; try rfl)) (by (simp [go_sem]; try rfl)) ?_)
            refine scr_read' rfl rfl (by first | exact hE6 | exact hE6.drew) (fun w' hw' => by (have q2' := hw'.keep q2; go_simp; try rfl)) (by (simp [go_sem]; try rfl)) ?_
            iterate 3 (refine scr_pure' rfl rfl (fun w' => by (go_simp; try rfl)) (by (simp [go_sem]; try rfl)) ?_)
            refine scr_read' rfl rfl (by first | exact hE6 | exact hE6.drew) (fun w' hw' => by (have q1' := hw'.keep q1; go_simp; try rfl)) (by (simp [go_sem]; try rfl)) ?_
            iterate 1 (refine scr_pure' rfl rfl (fun w' => by (go_simp; try rfl)) (by (simp [go_sem]; try rfl)) ?_)
            have ho6 := ho5.ext hE6
            have hI6 := hI5.ext hE6
            refine scr_one rfl rfl (fun K hK => ?_)
            refine wp_store1 _ _ _ rfl Tryz.info9 (p := ⟨g', m + 1, none⟩) (v := .string (ks[m])) rfl rfl rfl (by rw [hE6.keep q1]; rfl) (ho6.frozenAt _) ?_
            obtain ⟨ho7, hg7⟩ := ho6.stored (m + 1) (.string (ks[m]))
            refine hK _ _ (fun h => by simp at h) ?_
            clear hK
            iterate 1 (refine scr_pure' rfl rfl (fun w' => by (go_simp; try rfl)) (by (simp [go_sem]; try rfl)) ?_)
            refine scr_one rfl rfl (fun K hK => ?_)
            have hc8 : (World.setCell (wr.drewN nq).drew ⟨g', m + 1, none⟩ (.string (ks[m]))).cell? ⟨g', m, none⟩ = some (.string (ks[m])) := by
              have q2' := hE6.keep q2
              exact (World.cell?_setCell_other _ ⟨g', m + 1, none⟩ ⟨g', m, none⟩ _ (by simp)).trans q2'
            refine wp_store1 _ _ _ rfl Tryz.info9 (p := ⟨g', m, none⟩) (v := .string (es[i]).1) rfl rfl rfl (by rw [hc8]; rfl) (ho7.frozenAt _) ?_
            obtain ⟨ho8, hg8⟩ := ho7.stored m (.string (es[i]).1)
            refine hK _ _ (fun h => by simp at h) ?_
            clear hK
            simp only [scr, Exit.inBlock, Exit.then]
            generalize (World.setCell (wr.drewN nq).drew ⟨g', m + 1, none⟩ (.string (ks[m]))).setCell ⟨g', m, none⟩ (.string (es[i]).1) = w8 at ho8 hg8 ⊢
            go_wp2_with fail
            go_roundw
            case rel =>
              rw [swap_map ks _ m hkm] at ho8
              have hI8 : IterAt w8 w.heap.size r es (done ++ [i]) := hI6.keep ((hg8.block _ (by have := hg7.size; have := hI6.lt.1; omega) (fun e => by simp at e; omega)).trans (hg7.block _ hI6.lt.1 (fun e => by simp at e; omega))) ((hg8.block _ (by have := hg7.size; have := hI6.lt.2.1; omega) (fun e => by simp at e; omega)).trans (hg7.block _ hI6.lt.2.1 (fun e => by simp at e; omega)))
              refine ⟨m, by omega, rfl, ((hE5.trans hE6).grown hg7 (fun k hk => by simp at hk; omega)).grown hg8 (fun k hk => by simp at hk; omega), hI8, ho8, fun x hx => ?_⟩
              rw [List.drop_eq_getElem_cons hkm] at hx
              rcases List.mem_cons.1 hx with rfl | hx
              · assumption
              · exact hgt.out x hx
            case measure => simp [intOf]
          all_goals (
            have hs : Op.bytesLess (es[i]).1.toList (ks[m]).toList = false := by assumption
            have hgt' := hgt.out
            have hlo : m + 1 = 0 ∨ ∃ m', ∃ h : m' < ks.length, m + 1 = m' + 1 ∧ slt (es[i]).1 (ks[m']) = false := .inr ⟨m, hkm, rfl, hs⟩
            have hE6 : Ext w (wr.drewN nq) := hE5.drewN nq
            have hI6 := hI5.ext ((Ext.refl wr).drewN nq)
            have ho6 := ho5.ext ((Ext.refl wr).drewN nq)
            go_roundw
            case rel =>
              exact sort_rel hnd'.out hi hni hdl hri hmem hgt' hlo hgg hE6 hI6 (hlen ▸ ho6)
            case measure => rw [hu3]; show es.length - (done.length + 1) < _; omega)
    · intro hall
      go_wp2_with fail
      have hlen : ks.length = done.length := by have := ho.1; simpa using this
      have hdn := nodup_len es.length _ hI.nodup hdl
      refine hR'.out _ _ ks hE (IsStrs.of_own ho (fun g hgg hx => by have := hg g hgg; have := hX'.out _ hx; omega) (by omega) (fun s hs => ?_)) hri (fun k => ?_)
      · obtain ⟨i, h1, _, rfl⟩ := (hmem s).1 hs
        exact hsz'.out _ (List.getElem_mem h1)
      · rw [hmem]
        constructor
        · rintro ⟨i, h1, _, rfl⟩
          exact List.mem_map.2 ⟨_, List.getElem_mem h1, rfl⟩
        · intro h
          obtain ⟨p, hp, rfl⟩ := List.mem_map.1 h
          obtain ⟨i, h1, rfl⟩ := List.getElem_of_mem hp
          exact ⟨i, h1, hall i h1, rfl⟩

end Go.Proofs.YtihapgangilncaaGreat
