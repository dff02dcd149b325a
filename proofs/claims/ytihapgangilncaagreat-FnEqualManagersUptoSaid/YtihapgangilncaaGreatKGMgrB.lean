/- SetNodeMap.Leaves, Set.Leaves. toManagers: managers as a go map; the methods of a versioned set. CleanManagers, spec.EqualManagers. withManager: a new name (printed by gen_mgrb.py). withManager (printed by gen_mgrb.py). -/
import Derived.Test.YtihapgangilncaaGreatKGMgrB3
import Derived.Test.YtihapgangilncaaGreatKGDescend
import Derived.Test.YtihapgangilncaaGreatKGFromS
import Derived.Test.YtihapgangilncaaGreatKGSetP
namespace Go.Proofs.YtihapgangilncaaGreat
open Go.RowKit
set_option linter.unusedSimpArgs false

theorem kSt_ptr {d : Nat} {w : World} {X : List Nat} {c : Value} {s : St} (h : (kSt d).is w X [c] s) : ∃ b, c = .pointer (some ⟨b, 0, none⟩) := by
  cases d with
  | zero => exact h.elim
  | succ d => obtain ⟨b, vm, vc, hsv, -⟩ := h; cases hsv; exact ⟨_, rfl⟩

end Go.Proofs.YtihapgangilncaaGreat
namespace Go.Proofs.YtihapgangilncaaGreat
open Go.RowKit
set_option linter.unusedSimpArgs false

structure MV where
  (ver : ByteArray) (app : Bool) (set : St)
/-- a VersionedSet in an interface -/
def MgV (w : World) (X : List Nat) (x : Value) (m : MV) : Prop := ∃ b d, x = .iface 234 (.agg #[.pointer (some ⟨b, 0, none⟩), .string m.ver, .bool m.app]) ∧ (kSt d).is w X [.pointer (some ⟨b, 0, none⟩)] m.set
theorem MgV.mv {w w' : World} {X Y : List Nat} {x : Value} {m : MV} (h : MgV w X x m) (hm : Mv w X w' Y) : MgV w' Y x m := by
  obtain ⟨b, d, h1, h2⟩ := h
  exact ⟨b, d, h1, (kSt d).mv h2 hm⟩
def EntsM (w : World) (X : List Nat) (es : Ents) (ms : EntsOfT MV) : Prop := All2 (fun p q => p.1 = q.1 ∧ MgV w X p.2 q.2) es ms
theorem EntsM.mv {w w' : World} {X Y : List Nat} {es : Ents} {ms : EntsOfT MV} (h : EntsM w X es ms) (hm : Mv w X w' Y) : EntsM w' Y es ms := h.imp fun _ _ h => ⟨h.1, h.2.mv hm⟩
theorem EntsM.keys {w : World} {X : List Nat} {es : Ents} {ms : EntsOfT MV} (h : EntsM w X es ms) : es.map (·.1) = ms.map (·.1) := by
  induction h with
  | nil => rfl
  | cons h _ ih => simp [h.1, ih]
theorem EntsM.put {w : World} {X : List Nat} {x : Value} {m : MV} {k : ByteArray} {es : Ents} {ms : EntsOfT MV} (h : EntsM w X es ms) (hx : MgV w X x m) : EntsM w X (putEnt k x es) (putEnt k m ms) := by
  induction h with
  | nil => exact .cons ⟨rfl, hx⟩ .nil
  | @cons a b us vs h hs ih =>
    obtain ⟨k1, v1⟩ := a
    obtain ⟨k2, v2⟩ := b
    obtain ⟨rfl, h2⟩ := h
    simp only [putEnt]
    split
    · exact .cons ⟨rfl, hx⟩ hs
    · exact .cons ⟨rfl, h2⟩ ih
theorem EntsM.look {w : World} {X : List Nat} {k : ByteArray} {es : Ents} {ms : EntsOfT MV} (h : EntsM w X es ms) : (getEnt k es = none ∧ getEnt k ms = none) ∨ ∃ x m, getEnt k es = some x ∧ getEnt k ms = some m ∧ MgV w X x m := by
  induction h with
  | nil => exact .inl ⟨rfl, rfl⟩
  | @cons a b us vs h hs ih =>
    obtain ⟨k1, v1⟩ := a
    obtain ⟨k2, v2⟩ := b
    obtain ⟨h1, h2⟩ := h
    simp only at h1 h2
    subst h1
    rw [getEnt_cons, getEnt_cons]
    by_cases e : k1 = k
    · simp only [e, if_true]
      exact .inr ⟨_, _, rfl, rfl, h2⟩
    · simp only [e, if_false]
      exact ih
/-- block r is a map of versioned sets -/
structure IsMm (w : World) (X : List Nat) (r : Nat) (ms : EntsOfT MV) : Prop where
  ex : ∃ es, IsMap w r es ∧ EntsM w X es ms
  notin : r ∉ X
theorem IsMm.mv {a b : World} {X Y : List Nat} {r : Nat} {ms : EntsOfT MV} (h : IsMm a X r ms) (hm : Mv a X b Y) : IsMm b Y r ms := by
  obtain ⟨⟨es, h1, h2⟩, h3⟩ := h
  exact ⟨⟨es, h1.mv hm h3, h2.mv hm⟩, (hm.block _ h1.lt h3).2⟩

theorem putEnt_len {α : Type} (k : ByteArray) (v : α) : ∀ es : EntsOfT α, (putEnt k v es).length ≤ es.length + 1
  | [] => Nat.le_refl _
  | e :: es => by
    simp only [putEnt]
    split
    · simp
    · have := putEnt_len k v es
      simp only [List.length_cons]
      omega
/-- what the map holds under a name, against the manager of that name -/
def goodMV (v : MV) (m : Mg) : Prop := v.ver = m.ver ∧ v.app = m.app ∧ Tr.Wf cmpPe GoodE v.set ∧ ∀ q, GP GoodE q → (Tr.has cmpPe v.set q ↔ memP m.set q)
def MRel (l : List Mg) (ms : EntsOfT MV) : Prop := (ms.map (·.1)).Nodup ∧ ∀ n, optR goodMV (getEnt n ms) (lastOf l n)
theorem MRel.nil : MRel [] [] := ⟨List.nodup_nil, fun _ => trivial⟩
theorem MRel.put {l : List Mg} {ms : EntsOfT MV} {m : Mg} {v : MV} (h : MRel l ms) (hv : goodMV v m) : MRel (l ++ [m]) (putEnt m.name v ms) := by
  refine ⟨putEnt_keys h.1, fun n => ?_⟩
  rw [getEnt_put, lastOf_snoc]
  by_cases e : m.name = n
  · simp only [e, if_true]
    exact hv
  · simp only [e, if_false]
    exact h.2 n

set_option maxRecDepth 100000 in
theorem newVS_c {w : World} {s : ByteArray} {b : Bool} {b1 : Nat} (R : Ending → World → Prop) (hR : ∀ w', Ext w w' → R (.returned (.iface 234 (.agg #[.pointer (some ⟨b1, 0, none⟩), .string s, .bool b]))) w') :
    Calls Tryz.prog 120 #[.pointer (some ⟨b1, 0, none⟩), .string s, .bool b] w R := by
  have hR' := Lib.hid hR
  clear hR
  go_enter Tryz.func120, Tryz.ntmps120
  go_wp2_with fail
  exact hR'.out _ (Ext.refl _)

set_option maxRecDepth 100000 in
set_option maxHeartbeats 4000000 in
set_option pp.maxSteps 1000000 in
set_option pp.deepTerms true in
theorem toManagers_c {w : World} {X : List Nat} {va : Value} {l : List Mg} (ha : IsSl kMg 64 w X va l) (hX : Old X w) (hG : ∀ m ∈ l, ∀ p ∈ m.set, GP GoodE (p.map toE)) (hs : ∀ m ∈ l, (m.set.length + 1) * 40 ≤ 140737488351232) (R : Ending → World → Prop)
    (hR : ∀ w' r ms, Ext w w' → IsMm w' X r ms → MRel l ms → ms.length ≤ l.length → R (.returned (.map (some r))) w') :
    Calls Tryz.prog 67 #[va] w R := by
  obtain ⟨o, c, b, off, rfl, l2, l3, l4, l5⟩ := id ha.ex
  have l4' := Lib.hid l4
  have l5' := Lib.hid l5
  have hX' := Lib.hid hX
  have hG' := Lib.hid hG
  have hs' := Lib.hid hs
  have hR' := Lib.hid hR
  have hlI : (l.length : Int) ≤ 140737488351232 := by omega
  clear hR ha l4 l5 l3 l2 hX hG hs
  have hmm := @run_makeMap Tryz.prog
  go_enter Tryz.func67, Tryz.ntmps67
  go_upto_region 2 with (fail)
  refine abs1 (G := Code.wp _ _ _ _) ?_
  intro w1 hE1 hb1 hs1
  have hm1 : Hid (IsMap w1 w.heap.size []) := Lib.hid ⟨#[], 0, hb1, ⟨rfl, by simp, by simp, by simp⟩⟩
  clear hb1 hs1
  go_wp2_with fail
  go_loopw [9] (fun i wr => ∃ (k : Nat) (es : Ents) (ms : EntsOfT MV), k ≤ l.length ∧ i = .int .i64 k ∧ Ext w wr ∧ Hid (IsMap wr w.heap.size es) ∧ Hid (EntsM wr (w.heap.size :: X) es ms) ∧ Hid (MRel (l.take k) ms) ∧ Hid (ms.length ≤ k)) (fun i _ => l.length - (intOf i).toNat)
  case atStart => exact ⟨0, [], [], Nat.zero_le _, rfl, hE1, hm1, Lib.hid .nil, Lib.hid MRel.nil, Lib.hid (Nat.le_refl _)⟩
  case round =>
    obtain ⟨k, es, ms, hk, rfl, hEr, hmp, hes, hrel, hml⟩ := hrel
    rename World => wr
    clear hm1
    by_cases hlt : k < l.length
    · obtain ⟨cs, hc, hcs⟩ := l5'.out k hlt
      obtain ⟨rfl, -⟩ := l4'.out (by omega)
      have htk := Lib.hid (show l.take (k + 1) = l.take k ++ [l[k]] from List.take_succ_eq_append_getElem hlt)
      have hGk := Lib.hid (hG'.out _ (List.getElem_mem hlt))
      have hsk := Lib.hid (hs'.out _ (List.getElem_mem hlt))
      obtain ⟨m, hm⟩ : ∃ m, l[k] = m := ⟨_, rfl⟩
      rw [hm] at hcs htk hGk hsk
      obtain ⟨sv, rfl, n1, n2, hsv⟩ := hcs
      obtain ⟨so, sc, -, -, rfl, -⟩ := id hsv.ex
      have q0 := hEr.keep (hc 0 (by decide))
      have q1 := hEr.keep (hc 1 (by decide))
      have q2 := hEr.keep (hc 2 (by decide))
      have q3 := hEr.keep (hc 3 (by decide))
      simp only [show kMg.size = 4 from rfl, Nat.add_zero] at q0 q1 q2 q3
      have hi1 : (k : Int) < (l.length : Int) := by omega
      have hkm : (k : Int) + 1 ≤ 9223372036854775807 := by omega
      have hsv' := Lib.hid hsv
      clear hc hm n1 n2 hsv
      go_wp2_with (refine wpL_storeRow (cells := #[.string m.name, .string m.ver, .bool m.app, .slice so m.set.length sc]) rfl 104 _ _ rfl Tryz.size104 rfl rfl (alloc_new _ _ rfl) rfl (by simp [Value.oneCell']) ?_; intro w5 h5 g5; have hEx : Ext wr w5 := ((Ext.refl wr).push _).grown g5 (fun k hk => by cases hk; exact Nat.le_refl _); have s0 : w5.cell? ⟨wr.heap.size, 0, none⟩ = some (.string m.name) := cells_of h5 0; have s1 : w5.cell? ⟨wr.heap.size, 1, none⟩ = some (.string m.ver) := cells_of h5 1; have s2 : w5.cell? ⟨wr.heap.size, 2, none⟩ = some (.bool m.app) := cells_of h5 2; have s3 : w5.cell? ⟨wr.heap.size, 3, none⟩ = some (.slice so m.set.length sc) := cells_of h5 3; have hEx' := Lib.hid hEx; have hE5 := Lib.hid (hEr.trans hEx); clear hEx h5 g5)
      refine wp_region_script [0, 1, 2, 3, 4, 6, 7, 8, 9] [5, 10] (fun w' => Ext w5 w') [(.pure, 0), (.pure, 1), (.read, 2), (.pure, 3), (.read, 4), (.pure, 6), (.read, 7), (.pure, 8), (.read, 9), (.one, 5), (.one, 10), (.one, 11)] (by kernel_rfl) (by kernel_rfl) ?_
      have hC : Ext w5 w5.drew := (Ext.refl _).drew
      iterate 2 (apply scr_pure'; (· rfl); (· rfl); (· (intro w'; go_simp; try rfl)); (· (simp [go_sem]; try rfl)))
      (apply scr_read'; (· rfl); (· rfl); (· first | exact hC | exact (Ext.refl _).drew); (· (intro w' hw'; have s0_ := hw'.keep s0; have s1_ := hw'.keep s1; have s2_ := hw'.keep s2; have s3_ := hw'.keep s3; go_simp; try rfl)); (· (simp [go_sem]; try rfl)))
      (apply scr_pure'; (· rfl); (· rfl); (· (intro w'; go_simp; try rfl)); (· (simp [go_sem]; try rfl)))
      (apply scr_read'; (· rfl); (· rfl); (· first | exact hC | exact (Ext.refl _).drew); (· (intro w' hw'; have s0_ := hw'.keep s0; have s1_ := hw'.keep s1; have s2_ := hw'.keep s2; have s3_ := hw'.keep s3; go_simp; try rfl)); (· (simp [go_sem]; try rfl)))
      (apply scr_pure'; (· rfl); (· rfl); (· (intro w'; go_simp; try rfl)); (· (simp [go_sem]; try rfl)))
      (apply scr_read'; (· rfl); (· rfl); (· first | exact hC | exact (Ext.refl _).drew); (· (intro w' hw'; have s0_ := hw'.keep s0; have s1_ := hw'.keep s1; have s2_ := hw'.keep s2; have s3_ := hw'.keep s3; go_simp; try rfl)); (· (simp [go_sem]; try rfl)))
      (apply scr_pure'; (· rfl); (· rfl); (· (intro w'; go_simp; try rfl)); (· (simp [go_sem]; try rfl)))
      (apply scr_read'; (· rfl); (· rfl); (· first | exact hC | exact (Ext.refl _).drew); (· (intro w' hw'; have s0_ := hw'.keep s0; have s1_ := hw'.keep s1; have s2_ := hw'.keep s2; have s3_ := hw'.keep s3; go_simp; try rfl)); (· (simp [go_sem]; try rfl)))
      have hEd := Lib.hid (hE5.out.trans hC)
      have hErd := Lib.hid (hEx'.out.trans hC)
      have hlm := Lib.hid hmp.out.lt
      refine scr_one rfl rfl (fun K hK => ?_)
      go_simp
      refine toSetR_c (X := w.heap.size :: X) (hsv'.out.mv ((hEd.out.mv X).more (Nat.le_refl _)) (by decide)) (.cons (Nat.lt_of_lt_of_le hlm.out hErd.out.size) (hX'.out.le hEd.out.size)) hGk.out hsk.out _ ?_
      intro w6 sv s d hE6 hs hwf hhas
      obtain ⟨nb, rfl⟩ := kSt_ptr hs
      have hC6 := Lib.hid (hC.trans hE6)
      have hE06 := Lib.hid (hEd.out.trans hE6)
      have hEr6 := Lib.hid (hErd.out.trans hE6)
      have hgm := Lib.hid (show goodMV ⟨m.ver, m.app, s⟩ m from ⟨rfl, rfl, hwf, hhas⟩)
      have hvv := Lib.hid hs
      refine hK _ _ (fun _ => hC6.out) ?_
      clear hK hE6 hs hwf hhas hC
      refine scr_one rfl rfl (fun K hK => ?_)
      go_simp
      refine newVS_c _ ?_
      intro w7 hE7
      have hC7 := Lib.hid (hC6.out.trans hE7)
      have hE07 := Lib.hid (hE06.out.trans hE7)
      have hEr7 := Lib.hid (hEr6.out.trans hE7)
      have hmv := Lib.hid (show MgV w7 (w.heap.size :: X) (.iface 234 (.agg #[.pointer (some ⟨nb, 0, none⟩), .string m.ver, .bool m.app])) ⟨m.ver, m.app, s⟩ from ⟨nb, d, rfl, (kSt d).mv hvv.out (hE7.mv _)⟩)
      refine hK _ _ (fun _ => hC7.out) ?_
      clear hK hE7
      obtain ⟨w8, hr8, hm8, hg8, hs8⟩ := run_mapUpdate_ents (P := Tryz.prog) (T := 113) Tryz.underlying113 Tryz.underlying9 (hmp.out.ext hEr7.out) m.name (.iface 234 (.agg #[.pointer (some ⟨nb, 0, none⟩), .string m.ver, .bool m.app]))
      refine scr_one rfl rfl (fun K hK => ?_)
      go_simp
      refine hK _ _ (fun h => by simp at h) ?_
      clear hK
      refine scr_end ?_
      try simp only [Exit.then]
      have hm8' := Lib.hid hm8
      have hg8' := Lib.hid hg8
      clear hm8 hg8 hs8 hr8
      go_wp2_with fail
      go_roundw
      case rel =>
        refine ⟨k + 1, _, _, by omega, by go_num, hE07.out.grown hg8'.out (fun j hj => by cases hj; exact Nat.le_refl _), hm8', Lib.hid ((hes.out.mv ((hEr7.out.mv _).grown hg8'.out (fun j hj => by cases hj; simp))).put (hmv.out.mv ((Mv.refl _ _).grown hg8'.out (fun j hj => by cases hj; simp)))), Lib.hid (by rw [htk.out]; exact hrel.out.put hgm.out), Lib.hid (Nat.le_trans (putEnt_len _ _ _) (Nat.succ_le_succ hml.out))⟩
      case measure => simp [intOf]; omega
    · have ek : k = l.length := by omega
      subst ek
      have hi1 : ¬ (l.length : Int) < (l.length : Int) := by omega
      have hrl := hrel.out
      rw [List.take_of_length_le (Nat.le_refl _)] at hrl
      have hrl' := Lib.hid hrl
      clear hrl hrel
      go_wp2_with fail
      exact hR'.out wr _ ms hEr ⟨⟨es, hmp.out, hes.out.mv ((Mv.refl _ _).less fun _ h => List.mem_cons_of_mem _ h)⟩, fun h => by have := hX'.out _ h; omega⟩ hrl'.out hml.out
end Go.Proofs.YtihapgangilncaaGreat
namespace Go.Proofs.YtihapgangilncaaGreat
open Go.RowKit
set_option linter.unusedSimpArgs false

set_option maxRecDepth 100000 in
set_option maxHeartbeats 4000000 in
set_option pp.maxSteps 1000000 in
set_option pp.deepTerms true in
theorem cleanManagers_c (hW : WithMC fun _ _ => True) {w : World} {X : List Nat} {va : Value} {l : List Mg} (ha : IsSl kMg 64 w X va l) (hX : Old X w) (hb : (l.length + 1) * 64 ≤ 140737488351232) (hG : ∀ m ∈ l, ∀ p ∈ m.set, GP GoodE (p.map toE)) (hs : ∀ m ∈ l, (m.set.length + 1) * 24 ≤ 140737488351232) (R : Ending → World → Prop) (hR : ∀ w' v', Ext w w' → IsSl kMg 64 w' X v' (cleanM l) → R (.returned v') w') :
    Calls Tryz.prog 68 #[va] w R := by
  obtain ⟨o, c, b, off, rfl, l2, l3, l4, l5⟩ := id ha.ex
  have l4' := Lib.hid l4
  have l5' := Lib.hid l5
  have hX' := Lib.hid hX
  have hb' := Lib.hid hb
  have hG' := Lib.hid hG
  have hs' := Lib.hid hs
  have hR' := Lib.hid hR
  have hlI : (l.length : Int) ≤ 140737488351232 := by omega
  have hW' : Hid (WithMC fun _ _ => True) := Lib.hid hW
  clear hR ha l4 l5 l3 l2 hX hb hG hs hW
  go_enter Tryz.func68, Tryz.ntmps68
  go_wp2_with fail
  have hv0 : Hid (IsSl kMg 64 w X (.slice none 0 0) (cleanM (l.take 0))) := Lib.hid (IsSl.nil _ _ _ _)
  go_loopw [3, 8] (fun v i wr => ∃ k : Nat, k ≤ l.length ∧ i = .int .i64 k ∧ Ext w wr ∧ Hid (IsSl kMg 64 wr X v (cleanM (l.take k)))) (fun _ i _ => l.length - (intOf i).toNat)
  case atStart => exact ⟨0, Nat.zero_le _, rfl, Ext.refl _, hv0⟩
  case round =>
    obtain ⟨k, hk, rfl, hEr, hv⟩ := hrel
    rename World => wr
    clear hv0
    have hvo := hv.out.one
    by_cases hlt : k < l.length
    · obtain ⟨cs, hc, hcs⟩ := l5'.out k hlt
      obtain ⟨rfl, -⟩ := l4'.out (by omega)
      have htk := Lib.hid (show cleanM (l.take (k + 1)) = withM (cleanM (l.take k)) (l[k]).clean by rw [List.take_succ_eq_append_getElem hlt, cleanM_snoc])
      have hGk := Lib.hid (hG'.out _ (List.getElem_mem hlt))
      have hsk := Lib.hid (hs'.out _ (List.getElem_mem hlt))
      have hlen := Lib.hid (show ((cleanM (l.take k)).length + 1) * 64 ≤ 140737488351232 from Nat.le_trans (Nat.mul_le_mul_right 64 (Nat.succ_le_succ (Nat.le_trans (cleanM_facts _).2.2 (by rw [List.length_take]; omega)))) hb'.out)
      obtain ⟨m, hm⟩ : ∃ m, l[k] = m := ⟨_, rfl⟩
      rw [hm] at hcs htk hGk hsk
      obtain ⟨sv, rfl, n1, n2, hsv⟩ := hcs
      obtain ⟨so, sc, -, -, rfl, -⟩ := id hsv.ex
      have q0 := hEr.keep (hc 0 (by decide))
      have q1 := hEr.keep (hc 1 (by decide))
      have q2 := hEr.keep (hc 2 (by decide))
      have q3 := hEr.keep (hc 3 (by decide))
      simp only [show kMg.size = 4 from rfl, Nat.add_zero] at q0 q1 q2 q3
      have hi1 : (k : Int) < (l.length : Int) := by omega
      have hkm : (k : Int) + 1 ≤ 9223372036854775807 := by omega
      have hsv' := Lib.hid hsv
      have n1' := Lib.hid n1
      have n2' := Lib.hid n2
      clear hc hm n1 n2 hsv
      go_wp2_with (refine wpL_storeRow (cells := #[.string m.name, .string m.ver, .bool m.app, .slice so m.set.length sc]) rfl 104 _ _ rfl Tryz.size104 rfl rfl (alloc_new _ _ rfl) rfl (by simp [Value.oneCell']) ?_; intro w5 h5 g5; have hEx : Ext wr w5 := ((Ext.refl wr).push _).grown g5 (fun k hk => by cases hk; exact Nat.le_refl _); have s0 : w5.cell? ⟨wr.heap.size, 0, none⟩ = some (.string m.name) := cells_of h5 0; have s1 : w5.cell? ⟨wr.heap.size, 1, none⟩ = some (.string m.ver) := cells_of h5 1; have s2 : w5.cell? ⟨wr.heap.size, 2, none⟩ = some (.bool m.app) := cells_of h5 2; have s3 : w5.cell? ⟨wr.heap.size, 3, none⟩ = some (.slice so m.set.length sc) := cells_of h5 3; have hEx' := Lib.hid hEx; have hE5 := Lib.hid (hEr.trans hEx); have h5' := Lib.hid h5; clear hEx h5 g5)
      have hl5 := Lib.hid (Array.getElem?_eq_some_iff.1 h5'.out).1
      refine specSetOf_c goodE_ord (fun x hx => goodE_from hx) (X := wr.heap.size :: X) (hsv'.out.mv ((hE5.out.mv X).more hEr.size) (by decide)) (.cons hl5.out (hX'.out.le hE5.out.size)) hGk.out hsk.out _ ?_
      intro w6 tv hE6 htv
      obtain ⟨to, tc, -, -, rfl, -⟩ := id htv.ex
      have h6' := Lib.hid ((hE6.below.block _ hl5.out).trans h5'.out)
      replace s0 := hE6.keep s0; replace s1 := hE6.keep s1; replace s2 := hE6.keep s2; replace s3 := hE6.keep s3
      have htv' := Lib.hid htv
      have hE06 := Lib.hid (hE5.out.trans hE6)
      have hEr6 := Lib.hid (hEx'.out.trans hE6)
      obtain ⟨tn, htn⟩ : ∃ n, ((setOf (m.set.map (·.map toE))).map (·.map backE)).length = n := ⟨_, rfl⟩
      rw [htn] at htv'
      clear htv hE6 h5' s3
      rw [htn]
      clear htn
      dsimp only
      go_loud (go_wp2_with (refine wpL_storeC (v := .slice to tn tc) (new := #[.string m.name, .string m.ver, .bool m.app, .slice to tn tc]) rfl 24 _ _ rfl Tryz.info24 rfl rfl rfl h6'.out (by simp) rfl ?_; intro w7 h7 g7; have t0 : w7.cell? ⟨wr.heap.size, 0, none⟩ = some (.string m.name) := cells_of h7 0; have t1 : w7.cell? ⟨wr.heap.size, 1, none⟩ = some (.string m.ver) := cells_of h7 1; have t2 : w7.cell? ⟨wr.heap.size, 2, none⟩ = some (.bool m.app) := cells_of h7 2; have t3 : w7.cell? ⟨wr.heap.size, 3, none⟩ = some (.slice to tn tc) := cells_of h7 3; have hE7 := Lib.hid (hE06.out.grown g7 (fun j hj => by cases hj; exact hEr.size)); have hM7 := Lib.hid (show Mv w6 (wr.heap.size :: X) w7 X from (((Mv.refl w6 (wr.heap.size :: X)).grown g7 (fun j hj => by cases hj; simp)).less (fun z hz => List.mem_cons_of_mem _ hz))); have hMr7 := Lib.hid (show Mv wr X w7 X from ((hEr6.out.mv X).more (n := wr.heap.size) (Nat.le_refl _)).trans (((Mv.refl w6 (wr.heap.size :: X)).grown g7 (fun j hj => by cases hj; simp)).less (fun z hz => List.mem_cons_of_mem _ hz))); clear h7 g7))
      refine hW'.out (X := X) (cs := [.string m.name, .string m.ver, .bool m.app, .slice to tn tc]) (m := m.clean) trivial (hv.out.mv hMr7.out (by decide)) ⟨_, rfl, n1'.out, n2'.out, htv'.out.mv hM7.out (by decide)⟩ (hX'.out.le hE7.out.size) hlen.out _ ?_
      intro w8 v8 hE8 hv8
      have hv8o := hv8.one
      have hv8' := Lib.hid hv8
      have hE08 := Lib.hid (hE7.out.trans hE8)
      clear hv8 hE8
      dsimp only
      go_wp2_with fail
      go_roundw
      case rel => exact ⟨k + 1, by omega, by go_num, hE08.out, Lib.hid (by rw [htk.out]; exact hv8'.out)⟩
      case measure => simp [intOf]; omega
    · have ek : k = l.length := by omega
      subst ek
      have hi1 : ¬ (l.length : Int) < (l.length : Int) := by omega
      have hn := hv.out
      rw [List.take_of_length_le (Nat.le_refl _)] at hn
      have hn' := Lib.hid hn
      clear hn hv
      go_wp2_with fail
      exact hR'.out wr _ hEr hn'.out
end Go.Proofs.YtihapgangilncaaGreat
namespace Go.Proofs.YtihapgangilncaaGreat
open Go.RowKit
set_option linter.unusedSimpArgs false

set_option maxRecDepth 100000 in
set_option maxHeartbeats 16000000 in
set_option pp.maxSteps 1000000 in
set_option pp.deepTerms true in
theorem withM_new : WithMC (fun l m => 0 < l.length ∧ mHasAt l m.name = false) := by
  intro w X va l cs m hcase ha hm hX hb R hR
  obtain ⟨o, c, b, off, rfl, l2, l3, l4, l5⟩ := id ha.ex
  obtain ⟨sv, rfl, n1, n2, hsv⟩ := id hm
  obtain ⟨so, sc, -, -, rfl, -⟩ := id hsv.ex
  obtain ⟨hz, hhs⟩ := hcase
  obtain ⟨rfl, -⟩ := l4 hz
  clear l4
  have ha' := Lib.hid ha
  have hm' := Lib.hid hm
  have hX' := Lib.hid hX
  have hR' := Lib.hid hR
  have hb' := Lib.hid hb
  have hlI : (l.length : Int) ≤ 140737488351232 := by omega
  have l2' := Lib.hid l2
  clear hR ha hm hX hb l5 l3 n1 n2 hsv l2
  go_enter Tryz.func121, Tryz.ntmps121
  go_upto_region 1 with (fail)
  refine abs1 (G := Code.wp _ _ _ _) ?_
  intro w1 hE1 hb1 hs1
  have e0 : w1.cell? ⟨w.heap.size, 0, none⟩ = some (.string m.name) := cells_of hb1 0; have e1 : w1.cell? ⟨w.heap.size, 1, none⟩ = some (.string m.ver) := cells_of hb1 1; have e2 : w1.cell? ⟨w.heap.size, 2, none⟩ = some (.bool m.app) := cells_of hb1 2; have e3 : w1.cell? ⟨w.heap.size, 3, none⟩ = some (.slice so m.set.length sc) := cells_of hb1 3
  have hE1' := Lib.hid hE1
  clear hs1 hb1
  go_wp2_with fail
  refine managerIndex_c (X := X) (ha'.out.mv (hE1'.out.mv X) (by decide)) _ ?_
  intro w2 hE2
  have hi := mIdx_le l m.name
  have hwm := Lib.hid (show withM l m = l.take (mIdx l m.name) ++ m :: l.drop (if mHasAt l m.name then mIdx l m.name + 1 else mIdx l m.name) from rfl)
  obtain ⟨i, hii⟩ : ∃ i, mIdx l m.name = i := ⟨_, rfl⟩
  rw [hii, hhs] at hwm
  rw [hii] at hi
  rw [hii, hhs]
  have hE12 := Lib.hid (hE1'.out.trans hE2)
  replace e0 := hE2.keep e0; replace e1 := hE2.keep e1; replace e2 := hE2.keep e2; replace e3 := hE2.keep e3
  clear hE2
  have hiI : (i : Int) ≤ (l.length : Int) := by omega
  have hicI : (i : Int) ≤ (c : Int) := by have := l2'.out; omega
  have h0i : (0 : Int) ≤ (i : Int) := by omega
  clear hii
  by_cases hci : c = i
  · skip
    obtain rfl : i = l.length := by have := l2'.out; omega
    subst hci
    have hdr := Lib.hid (show ∀ (o' : Option Addr) (n' c' : Nat), n' = 0 → IsSl kMg 64 w X (.slice o' n' c') (l.drop l.length) from fun o' n' c' hn => by subst hn; rw [List.drop_of_length_le (Nat.le_refl _)]; exact IsSl.zero _ _)
    have hlt : Hid (((l.take l.length).length + 1) * 64 ≤ 140737488351232) := Lib.hid (Nat.le_trans (Nat.mul_le_mul_right 64 (by simp only [List.length_take, List.length_nil]; omega)) hb'.out)
    have hb0 : (0 + (l.take l.length).length) * 64 ≤ 140737488355328 := by have := hlt.out; omega
    have hm0 : 0 + (l.take l.length).length ≤ maxLen := by rw [maxLen_eq]; have := hlt.out; omega
    have hb1 : ((l.take l.length).length + 1) * 64 ≤ 140737488355328 := by have := hlt.out; omega
    have hm1 : (l.take l.length).length + 1 ≤ maxLen := by rw [maxLen_eq]; have := hlt.out; omega
    have hle5 : (l.take l.length ++ [m]).length + (l.drop l.length).length ≤ l.length + 1 := by simp only [List.length_append, List.length_take, List.length_drop, List.length_singleton, List.length_nil]; omega
    have hb5 : ((l.take l.length ++ [m]).length + (l.drop l.length).length) * 64 ≤ 140737488355328 := Nat.le_trans (Nat.mul_le_mul_right 64 hle5) (Nat.le_trans hb'.out (by decide))
    have hm5 : (l.take l.length ++ [m]).length + (l.drop l.length).length ≤ maxLen := by rw [maxLen_eq]; have := hb'.out; omega
    have hle5' := Lib.hid hle5
    have hres := Lib.hid (show withM l m = (l.take l.length ++ [m]) ++ l.drop l.length by rw [hwm.out]; simp)
    clear hle5
    dsimp only
    go_wp2_with (at_builtin; first
      | (refine wpL_rowAppS (k := kMg) (bytes := 64) (w := w2.alloc (.cells #[] 104)) (X := X) (v := .slice (some ⟨w2.heap.size, 0, none⟩) 0 0) (us := []) (ts := l.take l.length) rfl (Row.made ((push_get _ _ _).trans (if_pos rfl)) (fun h => by have := hX'.out _ h; have := hE12.out.size; omega)) (Ext.refl _) (hX'.out.le (Nat.le_trans hE12.out.size (Ext.alloc w2 _).size)) ((ha'.out.takeV hi).mv (((hE12.out.trans (Ext.alloc w2 _)).mv X).moreL (fun z hz => by simp [vb, Value.ownBlock] at hz; have := hE12.out.size; omega)) (by decide)) _ _ _ rfl Tryz.underlying31 Tryz.info104 rfl (by decide) rfl rfl hb0 hm0 ?_; intro v3 w3 hr3 hg3 hd3; have hr3' := Lib.hid hr3; have hE3 : Ext w2 w3 := (Ext.alloc w2 _).grown hg3 (fun k hk => by cases hk; exact Nat.le_refl _); have hd3' : Hid (∀ g ∈ vb v3, w2.heap.size ≤ g) := Lib.hid (fun g hg => (hd3 g (by simpa [vb] using hg)).elim (fun h => by simp [Value.ownBlock] at h; omega) (fun h => Nat.le_trans (Ext.alloc w2 _).size h)); replace e0 := hE3.keep e0; replace e1 := hE3.keep e1; replace e2 := hE3.keep e2; replace e3 := hE3.keep e3; have hE03 := Lib.hid (hE12.out.trans hE3); have hv3 := hr3.one; clear hr3 hg3 hd3)
      | (refine wpL_rowApp (c := #[.string m.name, .string m.ver, .bool m.app, .slice so m.set.length sc]) (u := m) rfl hr3'.out (Ext.refl _) (hX'.out.le hE03.out.size) (kMg.mv hm'.out ((hE03.out.mv X).moreL (fun g hg => Nat.le_trans hE12.out.size (hd3'.out g hg)))) _ _ _ rfl Tryz.underlying31 Tryz.info104 rfl (by decide) rfl rfl hb1 hm1 ?_; intro v4 w4 hr4 hg4 hne4 hd4; have hr4' := Lib.hid hr4; have hE4 : Ext w2 w4 := hE3.grown hg4 (fun k hk => hd3'.out k (by simp [vb, hk])); have hd4' : Hid (∀ g ∈ vb v4, w2.heap.size ≤ g) := Lib.hid (fun g hg => (hd4 g (by simpa [vb] using hg)).elim (fun h => hd3'.out g (by simpa [vb] using h)) (fun h => Nat.le_trans hE3.size h)); have hE04 := Lib.hid (hE12.out.trans hE4); have hv4 := hr4.one; clear hr4 hg4 hd4 hne4)
      | (refine wpL_rowAppS (k := kMg) (bytes := 64) (ts := l.drop l.length) rfl hr4'.out (Ext.refl _) (hX'.out.le hE04.out.size) (IsSl.mv (hdr.out _ _ _ (by simp)) ((hE04.out.mv X).moreL (fun g hg => Nat.le_trans hE12.out.size (hd4'.out g hg))) (by decide)) _ _ _ rfl Tryz.underlying31 Tryz.info104 rfl (by decide) rfl rfl hb5 hm5 ?_; intro v5 w5 hr5 hg5 hd5; have hr5' := Lib.hid hr5; have hE5 := Lib.hid (hE12.out.trans (hE4.grown hg5 (fun k hk => hd4'.out k (by simp [vb, hk])))); have hv5 := hr5.one; clear hr5 hg5 hd5))
    all_goals exact hR'.out w5 v5 hE5.out (by rw [hres.out]; exact hr5'.out.isSl (by rw [List.length_append]; exact Nat.le_trans (Nat.mul_le_mul_right 64 hle5'.out) hb'.out))
  · skip
    have hdr := Lib.hid (show ∀ o', (i < l.length → o' = some ⟨b, off + (i) * 4, none⟩) → IsSl kMg 64 w X (.slice o' (l.length - (i)) (c - (i))) (l.drop (i)) from fun o' ho => ha'.out.dropW rfl hi l2'.out o' (fun h b2 off2 e => by cases e; exact ho h))
    have hlt : Hid (((l.take i).length + 1) * 64 ≤ 140737488351232) := Lib.hid (Nat.le_trans (Nat.mul_le_mul_right 64 (by simp only [List.length_take, List.length_nil]; omega)) hb'.out)
    have hb0 : (0 + (l.take i).length) * 64 ≤ 140737488355328 := by have := hlt.out; omega
    have hm0 : 0 + (l.take i).length ≤ maxLen := by rw [maxLen_eq]; have := hlt.out; omega
    have hb1 : ((l.take i).length + 1) * 64 ≤ 140737488355328 := by have := hlt.out; omega
    have hm1 : (l.take i).length + 1 ≤ maxLen := by rw [maxLen_eq]; have := hlt.out; omega
    have hle5 : (l.take i ++ [m]).length + (l.drop i).length ≤ l.length + 1 := by simp only [List.length_append, List.length_take, List.length_drop, List.length_singleton, List.length_nil]; omega
    have hb5 : ((l.take i ++ [m]).length + (l.drop i).length) * 64 ≤ 140737488355328 := Nat.le_trans (Nat.mul_le_mul_right 64 hle5) (Nat.le_trans hb'.out (by decide))
    have hm5 : (l.take i ++ [m]).length + (l.drop i).length ≤ maxLen := by rw [maxLen_eq]; have := hb'.out; omega
    have hle5' := Lib.hid hle5
    have hres := Lib.hid (show withM l m = (l.take i ++ [m]) ++ l.drop i by rw [hwm.out]; simp)
    clear hle5
    dsimp only
    go_wp2_with (at_builtin; first
      | (refine wpL_rowAppS (k := kMg) (bytes := 64) (w := w2.alloc (.cells #[] 104)) (X := X) (v := .slice (some ⟨w2.heap.size, 0, none⟩) 0 0) (us := []) (ts := l.take i) rfl (Row.made ((push_get _ _ _).trans (if_pos rfl)) (fun h => by have := hX'.out _ h; have := hE12.out.size; omega)) (Ext.refl _) (hX'.out.le (Nat.le_trans hE12.out.size (Ext.alloc w2 _).size)) ((ha'.out.takeV hi).mv (((hE12.out.trans (Ext.alloc w2 _)).mv X).moreL (fun z hz => by simp [vb, Value.ownBlock] at hz; have := hE12.out.size; omega)) (by decide)) _ _ _ rfl Tryz.underlying31 Tryz.info104 rfl (by decide) rfl rfl hb0 hm0 ?_; intro v3 w3 hr3 hg3 hd3; have hr3' := Lib.hid hr3; have hE3 : Ext w2 w3 := (Ext.alloc w2 _).grown hg3 (fun k hk => by cases hk; exact Nat.le_refl _); have hd3' : Hid (∀ g ∈ vb v3, w2.heap.size ≤ g) := Lib.hid (fun g hg => (hd3 g (by simpa [vb] using hg)).elim (fun h => by simp [Value.ownBlock] at h; omega) (fun h => Nat.le_trans (Ext.alloc w2 _).size h)); replace e0 := hE3.keep e0; replace e1 := hE3.keep e1; replace e2 := hE3.keep e2; replace e3 := hE3.keep e3; have hE03 := Lib.hid (hE12.out.trans hE3); have hv3 := hr3.one; clear hr3 hg3 hd3)
      | (refine wpL_rowApp (c := #[.string m.name, .string m.ver, .bool m.app, .slice so m.set.length sc]) (u := m) rfl hr3'.out (Ext.refl _) (hX'.out.le hE03.out.size) (kMg.mv hm'.out ((hE03.out.mv X).moreL (fun g hg => Nat.le_trans hE12.out.size (hd3'.out g hg)))) _ _ _ rfl Tryz.underlying31 Tryz.info104 rfl (by decide) rfl rfl hb1 hm1 ?_; intro v4 w4 hr4 hg4 hne4 hd4; have hr4' := Lib.hid hr4; have hE4 : Ext w2 w4 := hE3.grown hg4 (fun k hk => hd3'.out k (by simp [vb, hk])); have hd4' : Hid (∀ g ∈ vb v4, w2.heap.size ≤ g) := Lib.hid (fun g hg => (hd4 g (by simpa [vb] using hg)).elim (fun h => hd3'.out g (by simpa [vb] using h)) (fun h => Nat.le_trans hE3.size h)); have hE04 := Lib.hid (hE12.out.trans hE4); have hv4 := hr4.one; clear hr4 hg4 hd4 hne4)
      | (refine wpL_rowAppS (k := kMg) (bytes := 64) (ts := l.drop i) rfl hr4'.out (Ext.refl _) (hX'.out.le hE04.out.size) (IsSl.mv (hdr.out _ (by first | (intro _; rfl) | (intro h; omega))) ((hE04.out.mv X).moreL (fun g hg => Nat.le_trans hE12.out.size (hd4'.out g hg))) (by decide)) _ _ _ rfl Tryz.underlying31 Tryz.info104 rfl (by decide) rfl rfl hb5 hm5 ?_; intro v5 w5 hr5 hg5 hd5; have hr5' := Lib.hid hr5; have hE5 := Lib.hid (hE12.out.trans (hE4.grown hg5 (fun k hk => hd4'.out k (by simp [vb, hk])))); have hv5 := hr5.one; clear hr5 hg5 hd5))
    all_goals exact hR'.out w5 v5 hE5.out (by rw [hres.out]; exact hr5'.out.isSl (by rw [List.length_append]; exact Nat.le_trans (Nat.mul_le_mul_right 64 hle5'.out) hb'.out))
end Go.Proofs.YtihapgangilncaaGreat
namespace Go.Proofs.YtihapgangilncaaGreat
open Go.RowKit

theorem withManager_c : WithMC fun _ _ => True := by
  intro w X va l cs m _ ha hm hX hb R hR
  by_cases h : mHasAt l m.name = true
  · exact withM_old h ha hm hX hb R hR
  · by_cases hz : 0 < l.length
    · exact withM_new ⟨hz, by simpa using h⟩ ha hm hX hb R hR
    · exact withM_first (by omega) ha hm hX hb R hR
end Go.Proofs.YtihapgangilncaaGreat
