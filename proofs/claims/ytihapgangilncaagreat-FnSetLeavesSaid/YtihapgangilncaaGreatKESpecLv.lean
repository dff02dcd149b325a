/- SetNodeMap.Leaves, Set.Leaves. spec.HasPrefix of a path that is no longer; spec.Extended, spec.keep, spec.Leaves. -/
import Derived.Test.YtihapgangilncaaGreatKETwoP
import Derived.Test.YtihapgangilncaaGreatKEDescend
import Derived.Test.YtihapgangilncaaGreatKEWalkC
import Derived.Test.YtihapgangilncaaGreatKESpecSet
namespace Go.Proofs.YtihapgangilncaaGreat
open Go.RowKit
set_option linter.unusedSimpArgs false

theorem copy_segK {α : Type} {K : Kind α} {w4 w6 : World} {X : List Nat} {k : Nat} {us : List α} {rows : List (List Value)} {cur : Array Value} {cs : List Value} (hk : k < us.length) (hsz : cur.size = us.length * K.size) (htk : cur.toList.take (k * K.size) = rows.flatten)
    (hall : All2 (K.is w4 X) rows (us.take k)) (hcs : K.is w4 X cs us[k]) (hm : Mv w4 X w6 X) :
    (cur.toList.take (k * K.size) ++ cs ++ cur.toList.drop (k * K.size + cs.length)).toArray.size = us.length * K.size ∧ All2 (K.is w6 X) (rows ++ [cs]) (us.take (k + 1)) ∧ (cur.toList.take (k * K.size) ++ cs ++ cur.toList.drop (k * K.size + cs.length)).toArray.toList.take ((k + 1) * K.size) = (rows ++ [cs]).flatten := by
  have hl : cs.length = K.size := K.len hcs
  have hlt : cur.toList.length = us.length * K.size := by rw [Array.length_toList]; exact hsz
  have hle : k * K.size + K.size ≤ us.length * K.size := by rw [← Nat.succ_mul]; exact Nat.mul_le_mul_right _ hk
  refine ⟨?_, ?_, ?_⟩
  · rw [List.size_toArray, List.length_append, List.length_append, List.length_take, List.length_drop, hl, hlt]
    omega
  · rw [List.take_succ_eq_append_getElem hk]
    exact (hall.imp fun _ _ h => K.mv h hm).snoc (K.mv hcs hm)
  · rw [htk, List.flatten_append, List.flatten_cons, List.flatten_nil, List.append_nil]
    have h1 : (rows.flatten ++ cs).length = (k + 1) * K.size := by
      rw [← htk, List.length_append, List.length_take, hlt, hl, Nat.succ_mul]; omega
    show (rows.flatten ++ cs ++ _).take _ = _
    rw [← h1, List.take_left]

theorem kSt_ptr {d : Nat} {w : World} {X : List Nat} {c : Value} {s : St} (h : (kSt d).is w X [c] s) : ∃ b, c = .pointer (some ⟨b, 0, none⟩) := by
  cases d with
  | zero => exact h.elim
  | succ d => obtain ⟨b, vm, vc, hsv, -⟩ := h; cases hsv; exact ⟨_, rfl⟩

/-- Set.Leaves over a pointer to a set -/
def LvC (k : Kind St) : Prop := ∀ {w : World} {X : List Nat} {sv : Value} {s : St}, k.is w X [sv] s → Tr.Wf cmpPe GoodE s → Old X w → ∀ R : Ending → World → Prop, (∀ w' v', Ext w w' → k.is w' X [v'] (s.leaves cmpPe) → R (.returned v') w') →
  Calls Tryz.prog 61 #[sv] w R

def lvN (p : PEl × St) : PEl × St := (p.1, p.2.leaves cmpPe)

set_option maxRecDepth 100000 in
set_option maxHeartbeats 4000000 in
set_option pp.maxSteps 1000000 in
set_option pp.deepTerms true in
theorem nodeLeaves_c {d : Nat} (ih : LvC (kSt d)) {w : World} {X : List Nat} {b1 o1 : Nat} {sv : Value} {cs : List (PEl × St)} (h1 : w.cell? ⟨b1, o1, none⟩ = some sv) (hs : IsSl (kNd (kSt d)) 40 w X sv cs) (hwf : ∀ p ∈ cs, Tr.Wf cmpPe GoodE p.2) (hX : Old X w) (R : Ending → World → Prop)
    (hR : ∀ w' bn v', Ext w w' → bn ∉ X → w'.cell? ⟨bn, 0, none⟩ = some v' → IsSl (kNd (kSt d)) 40 w' X v' (cs.map lvN) → R (.returned (.pointer (some ⟨bn, 0, none⟩))) w') :
    Calls Tryz.prog 117 #[.pointer (some ⟨b1, o1, none⟩)] w R := by
  obtain ⟨o, c, b, off, rfl, l2, l3, l4, l5⟩ := id hs.ex
  have l4' := Lib.hid l4
  have l5' := Lib.hid l5
  have hX' := Lib.hid hX
  have hR' := Lib.hid hR
  have ih' : Hid (LvC (kSt d)) := Lib.hid ih
  have hwf' := Lib.hid hwf
  obtain ⟨n, hn⟩ : ∃ n, n = cs.length := ⟨_, rfl⟩
  have h63n' := Lib.hid (show n ≤ maxLen by rw [maxLen_eq]; omega)
  have hb48n' := Lib.hid (show 40 * n ≤ 281474976710656 by omega)
  have hbb := Lib.hid (show n * 40 ≤ 140737488351232 by omega)
  have hnl : (n : Int) ≤ 140737488351232 := by omega
  rw [← hn] at h1
  have hn' := Lib.hid hn
  clear hR hX hs l4 l5 l2 l3 hn ih hwf
  go_enter Tryz.func117, Tryz.ntmps117
  go_upto_region 2 with (fail)
  refine abs1 (G := Code.wp _ _ _ _) ?_
  intro w1 hE1 hb1 hs1
  have e0 : w1.cell? ⟨w.heap.size, 0, none⟩ = some (.slice none 0 0) := cells_of hb1 0
  have hb1' := Lib.hid hb1
  have hl1 : w.heap.size < w1.heap.size := by omega
  have g1 := hE1.keep h1
  clear hb1 hs1
  go_wp2_with (first
      | (refine wpL_makeN rfl _ _ _ rfl Tryz.underlying122 Tryz.info183 (n := n) rfl rfl hb48n'.out h63n'.out ?_; intro w2 cur0 hb3 hsz3 hE2; have hb3' := Lib.hid hb3; have hsz3' := Lib.hid hsz3; have f0 := hE2.keep e0; have hbn2 := Lib.hid ((hE2.below.block _ hl1).trans hb1'.out); clear hb3 hsz3)
      | (refine wpL_storeC (v := .slice (some ⟨w1.heap.size, 0, none⟩) n n) (new := #[.slice (some ⟨w1.heap.size, 0, none⟩) n n]) rfl 122 _ _ rfl Tryz.info122 rfl rfl (by simp [Value.oneCell']) hbn2.out (by simp) rfl ?_; intro w3 h3 g3; have h3' := Lib.hid h3; have g3' := Lib.hid g3; have hE3 := Lib.hid ((hE1.trans hE2).grown g3 (fun k hk => by cases hk; exact Nat.le_refl _)); clear f0 g1; have f0 : w3.cell? ⟨w.heap.size, 0, none⟩ = some (.slice (some ⟨w1.heap.size, 0, none⟩) n n) := cells_of h3 0; have g1 := hE3.out.keep h1; clear h3 g3))
  have hlt2 : w1.heap.size < w2.heap.size := (Array.getElem?_eq_some_iff.1 hb3'.out).1
  have hcur3 := Lib.hid ((g3'.out.block _ hlt2 (fun e => by have := Option.some.inj e; omega)).trans hb3'.out)
  have hlt3 : w1.heap.size < w3.heap.size := Nat.lt_of_lt_of_le hlt2 g3'.out.size
  have hK0 := Lib.hid (show kNd (kSt d) = kNd (kSt d) from rfl)
  have hall0 : Hid (All2 ((kNd (kSt d)).is w3 (w1.heap.size :: w.heap.size :: X)) [] ((cs.map lvN).take 0)) := Lib.hid .nil
  clear g1
  go_loopw [22] (fun i wr => ∃ (k : Nat) (cur : Array Value) (rows : List (List Value)), k ≤ n ∧ i = .int .i64 k ∧ Ext w wr ∧ w1.heap.size < wr.heap.size ∧ wr.cell? ⟨w.heap.size, 0, none⟩ = some (.slice (some ⟨w1.heap.size, 0, none⟩) n n) ∧ Hid (wr.heap[w1.heap.size]? = some (.cells cur 183 (0, 0))) ∧ Hid (cur.size = (cs.map lvN).length * 5) ∧
      Hid (All2 ((kNd (kSt d)).is wr (w1.heap.size :: w.heap.size :: X)) rows ((cs.map lvN).take k)) ∧ Hid (cur.toList.take (k * 5) = rows.flatten)) (fun i _ => n - (intOf i).toNat)
  case atStart => exact ⟨0, cur0, [], Nat.zero_le _, rfl, hE3.out, hlt3, f0, hcur3, Lib.hid (by rw [hsz3'.out, hn'.out, List.length_map]), hall0, Lib.hid (by simp)⟩
  case round =>
    obtain ⟨k, cur, rows, hk, rfl, hEr, hsz, f4, hcur, hcsz, hall, htk⟩ := hrel
    rename World => wr
    clear f0 e0 hall0 hcur3
    by_cases hlt : k < n
    · have hltu : k < cs.length := by rw [← hn'.out]; exact hlt
      obtain ⟨xs, hc, hcs⟩ := l5'.out k hltu
      obtain ⟨rfl, -⟩ := l4'.out (by omega)
      rw [kNd_size] at hc
      obtain ⟨c0, c1, c2, c3, c4, rfl, hpe, hst, v0, v1, v2, v3, v4⟩ := node5 hcs
      have q0 := hEr.keep (hc 0 (by decide))
      have q1 := hEr.keep (hc 1 (by decide))
      have q2 := hEr.keep (hc 2 (by decide))
      have q3 := hEr.keep (hc 3 (by decide))
      have q4 := hEr.keep (hc 4 (by decide))
      simp only [Nat.add_zero] at q0
      have hi1 : (k : Int) < (n : Int) := by omega
      have hkm : (k : Int) + 1 ≤ 9223372036854775807 := by omega
      have hltu' := Lib.hid hltu
      have hmr := Lib.hid (((hEr.mv X).more (n := w.heap.size) (Nat.le_refl _)).more (n := w1.heap.size) hE1.size)
      have hpe' := Lib.hid (kPe.mv hpe hmr.out)
      have hst' := Lib.hid ((kSt d).mv hst hmr.out)
      clear hc hcs hpe hst
      go_wp2_with (refine wpL_storeRow (cells := #[c0, c1, c2, c3, c4]) rfl 183 _ _ rfl Tryz.size183 rfl rfl (alloc_new _ _ rfl) rfl (by simp [v0, v1, v2, v3, v4]) ?_; intro w5 h5 g5; have hEx : Ext wr w5 := ((Ext.refl wr).push _).grown g5 (fun k hk => by cases hk; exact Nat.le_refl _); have s0 : w5.cell? ⟨wr.heap.size, 0, none⟩ = some (c0) := cells_of h5 0; have s1 : w5.cell? ⟨wr.heap.size, 1, none⟩ = some (c1) := cells_of h5 1; have s2 : w5.cell? ⟨wr.heap.size, 2, none⟩ = some (c2) := cells_of h5 2; have s3 : w5.cell? ⟨wr.heap.size, 3, none⟩ = some (c3) := cells_of h5 3; have s4 : w5.cell? ⟨wr.heap.size, 4, none⟩ = some (c4) := cells_of h5 4; have hEx' := Lib.hid hEx; have f5 := hEx.keep f4; clear hEx h5 g5)
      refine wp_region_script [0, 1, 2, 3, 4, 5, 6, 7, 8, 10, 11] [9] (fun w' => Ext w5 w') [(.pure, 0), (.pure, 1), (.pure, 2), (.read, 3), (.pure, 4), (.pure, 5), (.read, 6), (.pure, 7), (.read, 8), (.one, 9), (.pure, 10), (.pure, 11), (.one, 12)] (by kernel_rfl) (by kernel_rfl) ?_
      have hC : Ext w5 w5.drew := (Ext.refl _).drew
      iterate 3 (apply scr_pure'; (· rfl); (· rfl); (· (intro w'; go_simp; try rfl)); (· (simp [go_sem]; try rfl)))
      (apply scr_read'; (· rfl); (· rfl); (· first | exact hC | exact (Ext.refl _).drew); (· (intro w' hw'; have f5_ := hw'.keep f5; go_simp; try rfl)); (· (simp [go_sem]; try rfl)))
      iterate 2 (apply scr_pure'; (· rfl); (· rfl); (· (intro w'; go_simp; try rfl)); (· (simp [go_sem]; try rfl)))
      (apply scr_read'; (· rfl); (· rfl); (· first | exact hC | exact (Ext.refl _).drew); (· (intro w' hw'; have s0_ := hw'.keep s0; have s1_ := hw'.keep s1; have s2_ := hw'.keep s2; have s3_ := hw'.keep s3; go_simp; try rfl)); (· (simp [go_sem]; try rfl)))
      (apply scr_pure'; (· rfl); (· rfl); (· (intro w'; go_simp; try rfl)); (· (simp [go_sem]; try rfl)))
      (apply scr_read'; (· rfl); (· rfl); (· first | exact hC | exact (Ext.refl _).drew); (· (intro w' hw'; have s4_ := hw'.keep s4; go_simp; try rfl)); (· (simp [go_sem]; try rfl)))
      have hEd := Lib.hid (hEx'.out.trans hC)
      have hszd := Lib.hid (Nat.lt_of_lt_of_le hsz hEd.out.size)
      refine scr_one rfl rfl (fun K hK => ?_)
      go_simp
      refine ih'.out (X := w1.heap.size :: w.heap.size :: X) ((kSt d).mv hst'.out (hEd.out.mv _)) (hwf'.out _ (List.getElem_mem hltu'.out)) (.cons hszd.out (.cons (Nat.lt_trans hl1 hszd.out) (hX'.out.le (Nat.le_trans hEr.size hEd.out.size)))) _ ?_
      intro w6 c6 hE6 hst6
      obtain ⟨n6, rfl⟩ := kSt_ptr hst6
      have hst6' := Lib.hid hst6
      have hE56 := Lib.hid (hC.trans hE6)
      have hEr6 := Lib.hid (hEd.out.trans hE6)
      refine hK _ _ (fun _ => hE56.out) ?_
      clear hK hst6 hC hE6 s0 s1 s2 s3 s4 q0 q1 q2 q3 q4
      iterate 2 (apply scr_pure'; (· rfl); (· rfl); (· (intro w'; go_simp; try rfl)); (· (simp [go_sem]; try rfl)))
      have hcur6 := Lib.hid ((hEr6.out.below.block _ hsz).trans hcur.out)
      refine scr_one rfl rfl (fun K hK => ?_)
      refine wp_storeSeg (cells := #[c0, c1, c2, c3, .pointer (some ⟨n6, 0, none⟩)]) (b := w1.heap.size) (off := k * 5) 183 _ _ rfl Tryz.size183 (by first | rfl | (go_simp; try rfl)) (by first | rfl | (go_simp; try rfl)) hcur6.out (by rw [hcsz.out, List.length_map]; show k * 5 + 5 ≤ cs.length * 5; have := hltu'.out; omega) (by simp [v0, v1, v2, v3, show (Value.pointer (some ⟨n6, 0, none⟩)).oneCell' = true from rfl]) rfl ?_
      intro w7 h7 g7
      have h7' := Lib.hid h7
      have g7' := Lib.hid g7
      have f6 := grown_cell g7 (hEr6.out.keep f4) (fun e => by have := Option.some.inj e; omega)
      clear h7 g7
      refine hK _ _ (fun h => by simp at h) ?_
      clear hK
      refine scr_end ?_
      try simp only [Exit.then]
      go_wp2_with fail
      go_roundw
      case rel =>
        have hE7 : Ext w w7 := (hEr.trans hEr6.out).grown g7'.out (fun j hj => by cases hj; exact hE1.size)
        have hm7 : Mv w6 (w1.heap.size :: w.heap.size :: X) w7 (w1.heap.size :: w.heap.size :: X) := (Mv.refl _ _).grown g7'.out (fun j hj => by cases hj; simp)
        have hlm : k < (cs.map lvN).length := by rw [List.length_map]; exact hltu'.out
        have hnd : (kNd (kSt d)).is w6 (w1.heap.size :: w.heap.size :: X) [c0, c1, c2, c3, .pointer (some ⟨n6, 0, none⟩)] ((cs.map lvN)[k]'hlm) := by
          rw [List.getElem_map]
          exact ⟨[c0, c1, c2, c3], [_], rfl, kPe.mv hpe'.out (hEr6.out.mv _), hst6'.out⟩
        have hseg := copy_segK (K := kNd (kSt d)) (w6 := w7) hlm (by rw [kNd_size]; exact hcsz.out) (by rw [kNd_size]; exact htk.out) (hall.out.imp fun _ _ h => (kNd (kSt d)).mv h (hEr6.out.mv _)) hnd hm7
        rw [kNd_size] at hseg
        exact ⟨k + 1, _, _, by omega, by go_num, hE7, Nat.lt_of_lt_of_le hsz (Nat.le_trans hEr6.out.size g7'.out.size), f6, h7', Lib.hid hseg.1, Lib.hid hseg.2.1, Lib.hid hseg.2.2⟩
      case measure => simp [intOf]; omega
    · have ek : k = n := by omega
      subst ek
      have hi1 : ¬ (k : Int) < (k : Int) := by omega
      go_wp2_with fail
      have hcl : cur.toList.length = k * 5 := by rw [Array.length_toList, hcsz.out, List.length_map, ← hn'.out]
      have hfl : rows.flatten.length = k * 5 := by rw [← htk.out, List.length_take, hcl]; omega
      have hkl : (cs.map lvN).length = k := by rw [List.length_map, ← hn'.out]
      have hall5 : All2 ((kNd (kSt d)).is wr (w1.heap.size :: X)) rows (cs.map lvN) := by
        have h6 := hall.out
        rw [List.take_of_length_le (Nat.le_of_eq hkl)] at h6
        exact h6.imp fun _ _ h => (kNd (kSt d)).mv h ((Mv.refl _ _).less (fun b hb => by rcases List.mem_cons.1 hb with h | h <;> simp [h]))
      have hown : Own wr 183 5 (.slice (some ⟨w1.heap.size, 0, none⟩) k k) k rows.flatten := ⟨hfl, .inr ⟨w1.heap.size, k, _, rfl, Nat.zero_le _, hcur.out, Nat.le_refl _, h63n'.out, by rw [← Array.length_toList, hcl], htk.out⟩⟩
      refine hR'.out wr w.heap.size _ hEr (fun h => by have := hX'.out _ h; omega) f4 ?_
      exact Row.isSl (e := 183) ⟨rows, by rw [hkl, kNd_size]; exact hown, by simpa [vb, Value.ownBlock] using hall5, fun g hg => by
        cases hg
        intro h
        have h7 : w1.heap.size < w.heap.size := hX'.out _ h
        have := hE1.size
        omega⟩ (by rw [hkl]; exact hbb.out)
end Go.Proofs.YtihapgangilncaaGreat
namespace Go.Proofs.YtihapgangilncaaGreat
open Go.RowKit
set_option linter.unusedSimpArgs false

theorem pairB_iff' {α : Type} {f : α → α → Bool} : ∀ {m l : List α}, pairB f m l = true ↔ ∀ i (h : i < m.length) (h2 : i < l.length), f m[i] l[i] = true
  | [], _ => by simp [pairB]
  | _ :: _, [] => by simp [pairB]
  | x :: m, y :: l => by
    have ih := pairB_iff' (f := f) (m := m) (l := l)
    simp only [pairB, Bool.and_eq_true, ih]
    constructor
    · rintro ⟨h1, h2⟩ i h h3
      cases i with
      | zero => exact h1
      | succ i => exact h2 i (by simpa using h) (by simpa using h3)
    · intro h
      exact ⟨h 0 (by simp) (by simp), fun i h1 h2 => h (i + 1) (by simpa using h1) (by simpa using h2)⟩

set_option maxRecDepth 100000 in
set_option maxHeartbeats 4000000 in
set_option pp.maxSteps 1000000 in
set_option pp.deepTerms true in
theorem hasPrefixLe_c {w : World} {X Y : List Nat} {va vb : Value} {p q : List EL} (ha : IsSl kEl 168 w X va p) (hb : IsSl kEl 168 w Y vb q) (hlen : q.length ≤ p.length) (R : Ending → World → Prop) (hR : Ends R w (.bool (pairB eqEl p q))) :
    Calls Tryz.prog 105 #[va, vb] w R := by
  obtain ⟨o, c, b, off, rfl, l2, l3, l4, l5⟩ := id ha.ex
  obtain ⟨o2, c2, b2, off2, rfl, m2, m3, m4, m5⟩ := id hb.ex
  have l4' := Lib.hid l4
  have l5' := Lib.hid l5
  have m4' := Lib.hid m4
  have m5' := Lib.hid m5
  have hR' := Lib.hid hR
  have hll : ¬ (p.length : Int) < (q.length : Int) := by omega
  have hlen' := Lib.hid hlen
  clear hR ha hb l4 l5 m4 m5 hlen
  go_enter Tryz.func105, Tryz.ntmps105
  go_wp2_with fail
  go_loopw [13] (fun i wr => ∃ k : Nat, k ≤ q.length ∧ i = .int .i64 k ∧ Ext w wr ∧ Hid (∀ j (h : j < p.length) (h2 : j < q.length), j < k → eqEl p[j] q[j] = true)) (fun i _ => q.length - (intOf i).toNat)
  case atStart => exact ⟨0, Nat.zero_le _, rfl, Ext.refl _, Lib.hid fun j _ _ hj => by omega⟩
  case round =>
    obtain ⟨k, hk, rfl, hEr, hall⟩ := hrel
    rename World => wr
    by_cases hlt2 : k < q.length
    · have hlt : k < p.length := by have := hlen'.out; omega
      obtain ⟨cs, hc, hcs⟩ := l5'.out k hlt
      obtain ⟨ds, hd, hds⟩ := m5'.out k hlt2
      obtain ⟨rfl, -⟩ := l4'.out (by omega)
      obtain ⟨rfl, -⟩ := m4'.out (by omega)
      obtain ⟨x0, x1, x2, x3, x4, x5, x6, x7, x8, x9, x10, rfl⟩ := kEl_eleven hcs
      obtain ⟨y0, y1, y2, y3, y4, y5, y6, y7, y8, y9, y10, rfl⟩ := kEl_eleven hds
      have q0 := hEr.keep (hc 0 (by decide))
      have q1 := hEr.keep (hc 1 (by decide))
      have q2 := hEr.keep (hc 2 (by decide))
      have q3 := hEr.keep (hc 3 (by decide))
      have q4 := hEr.keep (hc 4 (by decide))
      have q5 := hEr.keep (hc 5 (by decide))
      have q6 := hEr.keep (hc 6 (by decide))
      have q7 := hEr.keep (hc 7 (by decide))
      have q8 := hEr.keep (hc 8 (by decide))
      have q9 := hEr.keep (hc 9 (by decide))
      have q10 := hEr.keep (hc 10 (by decide))
      have r0 := hEr.keep (hd 0 (by decide))
      have r1 := hEr.keep (hd 1 (by decide))
      have r2 := hEr.keep (hd 2 (by decide))
      have r3 := hEr.keep (hd 3 (by decide))
      have r4 := hEr.keep (hd 4 (by decide))
      have r5 := hEr.keep (hd 5 (by decide))
      have r6 := hEr.keep (hd 6 (by decide))
      have r7 := hEr.keep (hd 7 (by decide))
      have r8 := hEr.keep (hd 8 (by decide))
      have r9 := hEr.keep (hd 9 (by decide))
      have r10 := hEr.keep (hd 10 (by decide))
      simp only [show kEl.size = 11 from rfl, Nat.add_zero] at q0 q1 q2 q3 q4 q5 q6 q7 q8 q9 q10 r0 r1 r2 r3 r4 r5 r6 r7 r8 r9 r10
      have hv' := Lib.hid hcs
      have hu' := Lib.hid hds
      have hi1 : (k : Int) < (p.length : Int) := by omega
      have hi2 : (k : Int) < (q.length : Int) := by omega
      have hkm : (k : Int) + 1 ≤ 9223372036854775807 := by omega
      clear hc hd hcs hds
      go_wp2_with fail
      refine wp_region_script [0, 1, 2, 3, 4, 5, 6, 7, 9] [] (fun w' => w' = wr.drew) [(.read, 0), (.read, 1), (.read, 2), (.read, 3), (.read, 4), (.read, 5), (.read, 6), (.read, 7), (.one, 8), (.pure, 9)] (by kernel_rfl) (by kernel_rfl) ?_
      iterate 8 (first | (apply scr_r; (· rfl); (· (first | rfl | (simp [Region.wanted, yielded, go_sem]; done) | (simp [Region.wanted, yielded, go_sem, *]; done))); (· (go_simp; try rfl)); (· (simp [go_sem]; try rfl))) | (apply scr_r0; (· rfl); (· (first | rfl | (simp [Region.wanted, yielded, go_sem]; done) | (simp [Region.wanted, yielded, go_sem, *]; done))); (· (simp [go_sem]; try rfl))))
      refine scr_one rfl rfl (fun K hK => ?_)
      go_simp
      refine equalElems_c (cs := [x0, x1, x2, x3, x4, x5, x6, x7, x8, x9, x10]) (ds := [y0, y1, y2, y3, y4, y5, y6, y7, y8, y9, y10]) (kEl.mv hv'.out (hEr.drew.mv _)) (kEl.mv hu'.out (hEr.drew.mv _)) _ ?_
      obtain ⟨bb, hbb⟩ : ∃ bb, eqEl p[k] q[k] = bb := ⟨_, rfl⟩
      rw [hbb]
      intro w3 hE3
      refine hK _ _ (fun h => by simp at h) ?_
      clear hK
      have hbb' := Lib.hid hbb
      clear hbb
      cases bb
      all_goals
        (apply scr_pure'; (· rfl); (· rfl); (· (intro w'; go_simp; try rfl)); (· (simp [go_sem]; try rfl)))
        refine scr_end ?_
        simp only [Exit.then]
        go_wp2_with fail
      · refine hR'.out.bool ?_ _ (hEr.drew.trans hE3)
        rw [Bool.eq_false_iff]
        intro h
        have := pairB_iff'.1 h k hlt hlt2
        rw [hbb'.out] at this
        cases this
      · go_roundw
        case rel =>
          refine ⟨k + 1, by omega, by go_num, hEr.drew.trans hE3, Lib.hid fun j h h2 hj => ?_⟩
          by_cases e : j = k
          · subst e; exact hbb'.out
          · exact hall.out j h h2 (by omega)
        case measure => simp [intOf]; omega
    · have hp : pairB eqEl p q = true := pairB_iff'.2 fun j h h2 => hall.out j h h2 (by omega)
      have hp' := Lib.hid hp
      clear hp
      go_wp2_with fail
      exact hR'.out.bool hp'.out _ hEr

/-- a path of l goes on behind p -/
def extB (l : List (List EL)) (p : List EL) : Bool := l.any fun q => decide (p.length < q.length) && pairB eqEl q p

set_option maxRecDepth 100000 in
set_option maxHeartbeats 4000000 in
set_option pp.maxSteps 1000000 in
set_option pp.deepTerms true in
theorem extended_c {w : World} {X Y : List Nat} {va vb : Value} {l : List (List EL)} {p : List EL} (ha : IsSl kPth 24 w X va l) (hb : IsSl kEl 168 w Y vb p) (R : Ending → World → Prop) (hR : Ends R w (.bool (extB l p))) :
    Calls Tryz.prog 64 #[va, vb] w R := by
  obtain ⟨o, c, b, off, rfl, l2, l3, l4, l5⟩ := id ha.ex
  obtain ⟨o2, c2, b2, off2, rfl, m2, m3, m4, m5⟩ := id hb.ex
  have l4' := Lib.hid l4
  have l5' := Lib.hid l5
  have hb' := Lib.hid hb
  have hR' := Lib.hid hR
  have hlI : (l.length : Int) ≤ 140737488351232 := by omega
  have hpI : (p.length : Int) ≤ 140737488351232 := by omega
  clear hR ha hb l4 l5 m4 m5 l3 m3 l2 m2
  go_enter Tryz.func64, Tryz.ntmps64
  go_wp2_with fail
  go_loopw [9] (fun i wr => ∃ k : Nat, k ≤ l.length ∧ i = .int .i64 k ∧ Ext w wr ∧ Hid (extB (l.take k) p = false)) (fun i _ => l.length - (intOf i).toNat)
  case atStart => exact ⟨0, Nat.zero_le _, rfl, Ext.refl _, Lib.hid (by simp [extB])⟩
  case round =>
    obtain ⟨k, hk, rfl, hEr, hno⟩ := hrel
    rename World => wr
    by_cases hlt : k < l.length
    · obtain ⟨cs, hc, hcs⟩ := l5'.out k hlt
      obtain ⟨rfl, -⟩ := l4'.out (by omega)
      obtain ⟨pv, rfl, hpv⟩ := hcs
      have q0 := hEr.keep (hc 0 (by decide))
      simp only [show kPth.size = 1 from rfl, Nat.mul_one, Nat.add_zero] at q0
      have hi1 : (k : Int) < (l.length : Int) := by omega
      have hkm : (k : Int) + 1 ≤ 9223372036854775807 := by omega
      have htk := Lib.hid (show extB (l.take (k + 1)) p = (extB (l.take k) p || (decide (p.length < l[k].length) && pairB eqEl l[k] p)) by rw [List.take_succ_eq_append_getElem hlt]; simp only [extB, List.any_append, List.any_cons, List.any_nil, Bool.or_false])
      have hall := Lib.hid (show (decide (p.length < l[k].length) && pairB eqEl l[k] p) = true → extB l p = true from fun h => List.any_eq_true.2 ⟨_, List.getElem_mem hlt, h⟩)
      obtain ⟨q, hq⟩ : ∃ q, l[k] = q := ⟨_, rfl⟩
      rw [hq] at hpv htk hall
      obtain ⟨po, pc, pb, poff, rfl, p2, p3, p4, p5⟩ := id hpv.ex
      have hpv' := Lib.hid (hpv.mv (hEr.mv X) (by decide))
      clear hc hpv p4 p5 hq p2 p3
      by_cases hz : p.length < q.length
      · have hzI : (p.length : Int) < (q.length : Int) := by omega
        have hz' := Lib.hid hz
        clear hz
        go_wp2_with fail
        refine hasPrefixLe_c hpv'.out (hb'.out.mv (hEr.mv Y) (by decide)) (Nat.le_of_lt hz'.out) _ ?_
        obtain ⟨bb, hbb⟩ : ∃ bb, pairB eqEl q p = bb := ⟨_, rfl⟩
        have hbb' := Lib.hid hbb
        rw [hbb]
        clear hbb
        intro w3 hE3
        dsimp only
        cases bb
        · go_wp2_with fail
          go_roundw
          case rel => exact ⟨k + 1, by omega, by go_num, hEr.trans hE3, Lib.hid (by rw [htk.out, hno.out, hbb'.out]; simp)⟩
          case measure => simp [intOf]; omega
        · go_wp2_with fail
          refine hR'.out.bool (hall.out (by rw [hbb'.out]; simpa using hz'.out)) _ (hEr.trans hE3)
      · have hzI : ¬ (p.length : Int) < (q.length : Int) := by omega
        have hz' := Lib.hid hz
        clear hz
        go_wp2_with fail
        go_roundw
        case rel => exact ⟨k + 1, by omega, by go_num, hEr, Lib.hid (by rw [htk.out, hno.out]; have := hz'.out; simp [this])⟩
        case measure => simp [intOf]; omega
    · have ek : k = l.length := by omega
      subst ek
      have hn := hno.out
      rw [List.take_of_length_le (Nat.le_refl _)] at hn
      have hn' := Lib.hid hn
      clear hn hno
      go_wp2_with fail
      exact hR'.out.bool hn'.out _ hEr

set_option maxRecDepth 100000 in
set_option maxHeartbeats 4000000 in
set_option pp.maxSteps 1000000 in
set_option pp.deepTerms true in
theorem leaves1_c {w : World} {X Y : List Nat} {va vb : Value} {bx : Nat} {l : List (List EL)} {p : List EL} (hc : w.cell? ⟨bx, 0, none⟩ = some va) (ha : IsSl kPth 24 w X va l) (hb : IsSl kEl 168 w Y vb p) (R : Ending → World → Prop) (hR : Ends R w (.bool (!extB l p))) :
    Calls Tryz.prog 63 #[vb, .pointer (some ⟨bx, 0, none⟩)] w R := by
  have hao := ha.one
  have hbo := hb.one
  have ha' := Lib.hid ha
  have hb' := Lib.hid hb
  have hR' := Lib.hid hR
  clear ha hb hR
  go_enter Tryz.func63, Tryz.ntmps63
  go_wp2_with fail
  refine extended_c ha'.out hb'.out _ ?_
  intro w1 hE1
  obtain ⟨r, hr⟩ : ∃ r, extB l p = r := ⟨_, rfl⟩
  rw [hr] at hR' ⊢
  dsimp only
  go_wp2_with fail
  exact hR'.out w1 hE1

def leavesOf (l : List (List EL)) : List (List EL) := l.filter fun p => !extB l p

set_option maxRecDepth 100000 in
set_option maxHeartbeats 4000000 in
set_option pp.maxSteps 1000000 in
set_option pp.deepTerms true in
theorem keep_c {w : World} {X : List Nat} {va : Value} {bx : Nat} {l : List (List EL)} (hc : w.cell? ⟨bx, 0, none⟩ = some va) (ha : IsSl kPth 24 w X va l) (hX : Old X w) (R : Ending → World → Prop) (hR : ∀ w' v', Ext w w' → IsSl kPth 24 w' X v' (leavesOf l) → R (.returned v') w') :
    Calls Tryz.prog 62 #[va, .func (.func 63) #[] #[.pointer (some ⟨bx, 0, none⟩)]] w R := by
  obtain ⟨o, c, b, off, rfl, l2, l3, l4, l5⟩ := id ha.ex
  have l4' := Lib.hid l4
  have l5' := Lib.hid l5
  have ha' := Lib.hid ha
  have hX' := Lib.hid hX
  have hR' := Lib.hid hR
  have hc' := Lib.hid hc
  have hn := Lib.hid l3
  have hlI : (l.length : Int) ≤ 140737488351232 := by omega
  clear hR hX ha l4 l5 l3 l2 hc
  go_enter Tryz.func62, Tryz.ntmps62
  go_wp2_with fail
  have hr0 : Hid (Row kPth 22 w X (.slice none 0 0) ((l.take 0).filter fun p => !extB l p)) := Lib.hid (Row.nil _ _ _ _)
  go_loopw [5, 10] (fun v i wr => ∃ k : Nat, k ≤ l.length ∧ i = .int .i64 k ∧ Ext w wr ∧ Hid (∀ g, v.ownBlock = some g → w.heap.size ≤ g) ∧ Hid (Row kPth 22 wr X v ((l.take k).filter fun p => !extB l p))) (fun _ i _ => l.length - (intOf i).toNat)
  case atStart => exact ⟨0, Nat.zero_le _, rfl, Ext.refl _, Lib.hid (fun g h => by simp [Value.ownBlock] at h), hr0⟩
  case round =>
    obtain ⟨k, hk, rfl, hEr, hgv, hrow⟩ := hrel
    rename World => wr
    clear hr0
    by_cases hlt : k < l.length
    · obtain ⟨cs, hc, hcs⟩ := l5'.out k hlt
      obtain ⟨rfl, -⟩ := l4'.out (by omega)
      obtain ⟨pv, rfl, hpv⟩ := hcs
      have q0 := hEr.keep (hc 0 (by decide))
      simp only [show kPth.size = 1 from rfl, Nat.mul_one, Nat.add_zero] at q0
      have hi1 : (k : Int) < (l.length : Int) := by omega
      have hkm : (k : Int) + 1 ≤ 9223372036854775807 := by omega
      have hlk : ((l.take k).filter fun p => !extB l p).length ≤ k := Nat.le_trans (List.length_filter_le _ _) (by rw [List.length_take]; omega)
      have hb4 := Lib.hid (show (((l.take k).filter fun p => !extB l p).length + 1) * 24 ≤ 140737488355328 by have := hn.out; omega)
      have hb5 := Lib.hid (show ((l.take k).filter fun p => !extB l p).length + 1 ≤ maxLen by rw [maxLen_eq]; omega)
      have htk := Lib.hid (show ((l.take (k + 1)).filter fun p => !extB l p) = ((l.take k).filter fun p => !extB l p) ++ [l[k]].filter (fun p => !extB l p) by rw [List.take_succ_eq_append_getElem hlt, List.filter_append])
      obtain ⟨q, hq⟩ : ∃ q, l[k] = q := ⟨_, rfl⟩
      rw [hq] at hpv htk
      have hp1 := hpv.one
      obtain ⟨po, pn, pc, rfl⟩ : ∃ o n c, pv = .slice o n c := by obtain ⟨o2, c2, _, _, h, -⟩ := hpv.ex; exact ⟨_, _, _, h⟩
      have hpv' := Lib.hid hpv
      clear hc hpv hlk hq hp1
      go_wp2_with fail
      refine leaves1_c (hEr.keep hc'.out) (ha'.out.mv (hEr.mv X) (by decide)) (hpv'.out.mv (hEr.mv X) (by decide)) _ ?_
      intro w3 hE3
      obtain ⟨r, hr⟩ : ∃ r, (!extB l q) = r := ⟨_, rfl⟩
      have hr' := Lib.hid hr
      rw [hr]
      clear hr
      have hE13 := Lib.hid (hEr.trans hE3)
      have hE3' := Lib.hid hE3
      dsimp only
      cases r
      · go_wp2_with fail
        go_roundw
        case rel => exact ⟨k + 1, by omega, by go_num, hE13.out, hgv, Lib.hid (by rw [htk.out]; simp only [List.filter_cons, hr'.out, List.filter_nil]; simpa using hrow.out.ext hE3'.out)⟩
        case measure => simp [intOf]; omega
      · go_wp2_with (at_builtin; go_loud (refine wpL_rowApp (c := #[.slice po pn pc]) (u := q) rfl hrow.out hE3'.out (hX'.out.le hE13.out.size) ⟨_, rfl, hpv'.out.mv ((hE13.out.mv X).moreL (fun g hg => hgv.out g (by simpa [vb] using hg))) (by decide)⟩ _ _ _ rfl Tryz.underlying24 Tryz.info22 rfl (by decide) rfl rfl hb4.out hb5.out ?_; intro v' w8 hrow8 hg8 hne8 hd8))
        go_roundw
        case rel =>
          have hsz := Lib.hid hE13.out.size
          refine ⟨k + 1, by omega, by go_num, hE13.out.grown hg8 (fun j hj => hgv.out j hj), Lib.hid (fun g hg => ?_), Lib.hid (by rw [htk.out]; simp only [List.filter_cons, hr'.out, List.filter_nil]; exact hrow8)⟩
          rcases hd8 g hg with h | h
          · exact hgv.out g h
          · exact Nat.le_trans hsz.out h
        case measure => simp [intOf]; omega
    · have ek : k = l.length := by omega
      subst ek
      have hrow1 := hrow.out
      rw [List.take_of_length_le (Nat.le_refl _)] at hrow1
      have hv1 := hrow1.one
      have hrs := Lib.hid (hrow1.isSl (bytes := 24) (Nat.le_trans (Nat.mul_le_mul_right 24 (List.length_filter_le _ _)) hn.out))
      clear hrow1 hrow
      go_wp2_with fail
      exact hR'.out wr _ hEr hrs.out

set_option maxRecDepth 100000 in
set_option maxHeartbeats 4000000 in
set_option pp.maxSteps 1000000 in
set_option pp.deepTerms true in
theorem specLeaves_c {w : World} {X : List Nat} {va : Value} {l : List (List EL)} (ha : IsSl kPth 24 w X va l) (hX : Old X w) (R : Ending → World → Prop) (hR : ∀ w' v', Ext w w' → IsSl kPth 24 w' X v' (leavesOf l) → R (.returned v') w') :
    Calls Tryz.prog 20 #[va] w R := by
  have hmf : ∀ (fn : Fn) (first cap : Array Value) (w : World), (Instr.makeFunc fn first cap).run Tryz.prog w = .ok (.func fn first cap) w := fun _ _ _ _ => rfl
  obtain ⟨o, n, c, rfl⟩ : ∃ o n c, va = .slice o n c := by obtain ⟨o2, c2, _, _, h, -⟩ := ha.ex; exact ⟨_, _, _, h⟩
  have ha' := Lib.hid ha
  have hX' := Lib.hid hX
  have hR' := Lib.hid hR
  clear hR hX ha
  go_enter Tryz.func20, Tryz.ntmps20
  go_wp2_with fail
  refine abs1 (G := fun wr => Calls _ _ _ wr _) ?_
  intro w1 hE1 hb1 hs1
  have e0 : w1.cell? ⟨w.heap.size, 0, none⟩ = some (.slice o n c) := cells_of hb1 0
  refine keep_c (X := X) e0 (ha'.out.mv (hE1.mv X) (by decide)) (hX'.out.le hE1.size) _ ?_
  intro w2 v2 hE2 hv2
  have hv2o := hv2.one
  have hv2' := Lib.hid hv2
  clear hv2
  dsimp only
  go_wp2_with fail
  exact hR'.out w2 v2 (hE1.trans hE2) hv2'.out
end Go.Proofs.YtihapgangilncaaGreat
