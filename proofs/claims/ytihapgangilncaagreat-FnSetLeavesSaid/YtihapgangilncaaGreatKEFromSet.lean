/- impl.toSet: a set made of a list of paths. impl.fromSet: the list of a set's paths. -/
import Derived.Test.YtihapgangilncaaGreatKESetIns
import Derived.Test.YtihapgangilncaaGreatKESCmp
import Derived.Test.YtihapgangilncaaGreatKEIterP
import Derived.Test.YtihapgangilncaaGreatKEHole
import Derived.Test.YtihapgangilncaaGreatKEDescend
namespace Go.Proofs.YtihapgangilncaaGreat
open Go.RowKit
set_option linter.unusedSimpArgs false

set_option maxRecDepth 100000 in
set_option maxHeartbeats 4000000 in
theorem newSet_c {w : World} (R : Ending → World → Prop) (hR : ∀ w', Ext w w' → w'.heap[w.heap.size]? = some (.cells #[.slice none 0 0, .slice none 0 0] 126 (0, 0)) → R (.returned (.pointer (some ⟨w.heap.size, 0, none⟩))) w') :
    Calls Tryz.prog 113 #[.slice none 0 0] w R := by
  have hR' := Lib.hid hR
  clear hR
  go_enter Tryz.func113, Tryz.ntmps113
  go_wp2_with fail
  refine abs1 (G := fun wr => Code.wp _ _ _ _ wr) ?_
  intro w1 hE1 hb1 hs1
  have hb1' := Lib.hid hb1
  clear hb1 hs1
  go_loopw [5, 10] (fun _ i wr => i = .int .i64 0 ∧ wr = w1) (fun _ i _ => 0)
  case atStart => exact ⟨rfl, rfl⟩
  case round =>
    obtain ⟨rfl, rfl⟩ := hrel
    go_wp2_with fail
    exact hR'.out _ hE1 hb1'.out

theorem tree_len {β : Type} {G : PEl → Prop} (ho : Cmpr cmpPe G) {t : Tr β PEl} (hw : Tr.Wf cmpPe G t) {L : List (List PEl)} (hL : ∀ p ∈ L, GP G p) (hh : ∀ q, GP G q → (t.has cmpPe q ↔ ∃ p ∈ L, p ≠ [] ∧ wc cmpPe p q = 0)) : t.paths.length ≤ L.length :=
  pigeon (wc_ord ho) (Tr.paths_srt ho hw).dst (Tr.paths_good hw) hL fun x hx => by
    obtain ⟨p, hp, _, h0⟩ := (hh x (Tr.paths_good hw x hx)).1 ⟨x, hx, (wc_ord ho).self x⟩
    exact ⟨p, hp, h0⟩

set_option maxRecDepth 100000 in
set_option maxHeartbeats 8000000 in
set_option pp.maxSteps 1000000 in
set_option pp.deepTerms true in
theorem toSet_c {G : PEl → Prop} (ho : Cmpr cmpPe G) {w : World} {X : List Nat} {lv : Value} {l : List (List EL)} (hl : IsSl kPth 24 w X lv l) (hX : Old X w) (hG : ∀ p ∈ l, GP G (p.map toE)) (hbytes : (l.length + 1) * 40 ≤ 140737488351232) (R : Ending → World → Prop)
    (hR : ∀ w' (t : BT), Ext w w' → Store w' X (BT.flat t) → (∀ b ∈ bls (BT.flat t), w.heap.size ≤ b) → Tr.Wf cmpPe G t → (∀ q, GP G q → (Tr.has cmpPe t q ↔ ∃ p ∈ l.map (·.map toE), p ≠ [] ∧ wc cmpPe p q = 0)) → R (.returned (.pointer (some ⟨BT.b t, 0, none⟩))) w') :
    Calls Tryz.prog 58 #[lv] w R := by
  obtain ⟨o, c, b, off, rfl, l2, l3, l4, l5⟩ := id hl.ex
  have l4' := Lib.hid l4
  have l5' := Lib.hid l5
  have hX' := Lib.hid hX
  have hG' := Lib.hid hG
  have hR' := Lib.hid hR
  have hbytes' := Lib.hid hbytes
  have hlI : (l.length : Int) ≤ 140737488351232 := by omega
  clear hR hX hl l4 l5 hG hbytes l3
  go_enter Tryz.func58, Tryz.ntmps58
  go_wp2_with fail
  refine newSet_c _ ?_
  intro w1 hE1 hb1
  have hoX : w.heap.size ∉ X := fun h => by have := hX'.out _ h; omega
  have hst0 : Hid (Store w1 X (BT.flat (.mk (w.heap.size, .slice none 0 0, .slice none 0 0) [] []))) := Lib.hid (by
    rw [BT.flat_eq]
    exact Store.mk1 (n := ⟨w.heap.size, .slice none 0 0, .slice none 0 0, [], []⟩) hb1 (Row.nil _ _ _ _) (Row.nil _ _ _ _) hoX)
  have hwf0 : Hid (Tr.Wf cmpPe G (.mk (w.heap.size, .slice none 0 0, .slice none 0 0) [] [] : BT)) := Lib.hid (.mk (by simp [SrtC]) (by simp) (by simp [SrtC]) (by simp) (by simp) (by simp))
  have hhas0 : Hid (∀ q, GP G q → (Tr.has cmpPe (.mk (w.heap.size, .slice none 0 0, .slice none 0 0) [] [] : BT) q ↔ ∃ p ∈ (l.take 0).map (·.map toE), p ≠ [] ∧ wc cmpPe p q = 0)) := Lib.hid (fun q hq => by
    constructor
    · rintro ⟨z, hz, -⟩
      rw [Tr.paths_nil] at hz
      simp at hz
    · simp)
  have hbl0 : Hid (∀ b ∈ bls (BT.flat (.mk (w.heap.size, .slice none 0 0, .slice none 0 0) [] [])), w.heap.size ≤ b) := Lib.hid (fun b hb => by
    rw [BT.flat_eq] at hb
    simp [bls, Nd.bl, vb, Value.ownBlock, BT.flatL] at hb
    omega)
  clear hb1 hoX
  dsimp only
  go_wp2_with fail
  go_loopw [5, 9] (fun _ i wr => ∃ (k : Nat) (t : BT), k ≤ l.length ∧ i = .int .i64 k ∧ Ext w wr ∧ BT.b t = w.heap.size ∧ Hid (Store wr X (BT.flat t)) ∧ Hid (Tr.Wf cmpPe G t) ∧ Hid (∀ q, GP G q → (Tr.has cmpPe t q ↔ ∃ p ∈ (l.take k).map (·.map toE), p ≠ [] ∧ wc cmpPe p q = 0)) ∧ Hid (∀ b ∈ bls (BT.flat t), w.heap.size ≤ b)) (fun _ i _ => l.length - (intOf i).toNat)
  case atStart => exact ⟨0, _, Nat.zero_le _, rfl, hE1, rfl, hst0, hwf0, hhas0, hbl0⟩
  case round =>
    obtain ⟨k, t, hk, rfl, hEr, htb, hst, hwf, hhas, hbl⟩ := hrel
    rename World => wr
    clear hst0 hwf0 hhas0 hbl0
    by_cases hlt : k < l.length
    · obtain ⟨cs, hc, hcs⟩ := l5'.out k hlt
      obtain ⟨rfl, -⟩ := l4'.out (by omega)
      obtain ⟨pv, rfl, hpv⟩ := hcs
      have x0 := hEr.keep (hc 0 (by decide))
      simp only [show kPth.size = 1 from rfl, Nat.add_zero, Nat.mul_one, List.getElem?_cons_zero] at x0
      have hpo := hpv.one
      have hi1 : (k : Int) < (l.length : Int) := by omega
      have hkm : (k : Int) + 1 ≤ 9223372036854775807 := by omega
      have hGk := Lib.hid (hG'.out _ (List.getElem_mem hlt))
      have hpv' := Lib.hid (hpv.mv ((hEr.mv X).moreL (Z := bls (BT.flat t)) hbl.out) (by decide))
      obtain ⟨p, hp⟩ : ∃ p, l[k]'hlt = p := ⟨_, rfl⟩
      have htk := Lib.hid (show (l.take (k + 1)).map (·.map toE) = (l.take k).map (·.map toE) ++ [p.map toE] by rw [List.take_succ_eq_append_getElem hlt, List.map_append, hp]; rfl)
      rw [hp] at hGk hpv'
      have hkl : t.paths.length ≤ k := by
        have := tree_len ho hwf.out (L := (l.take k).map (·.map toE)) (fun x hx => by
          obtain ⟨e, he, rfl⟩ := List.mem_map.1 hx
          exact hG'.out e (List.mem_of_mem_take he)) hhas.out
        rw [List.length_map, List.length_take] at this
        omega
      have hkl' := Lib.hid hkl
      clear hc hpv hp hkl
      go_wp2_with fail
      refine toPath_c (X := bls (BT.flat t) ++ X) hpv'.out (fun b hb => ?_) _ ?_
      · rcases List.mem_append.1 hb with hb | hb
        · exact hst.out.lt b hb
        · exact Nat.lt_of_lt_of_le (hX'.out b hb) hEr.size
      intro w3 qv hE3 hq
      have hqo := hq.one
      have hq' := Lib.hid hq
      have hEw3 := Lib.hid (hEr.trans hE3)
      have hst3 := Lib.hid (hst.out.ext hE3)
      clear hq hE3 hst hEr
      dsimp only
      go_wp2_with fail
      rw [← htb]
      refine setInsert_c ho hst3.out hwf.out (hX'.out.le hEw3.out.size) hq'.out hGk.out (Nat.le_trans (Nat.mul_le_mul_right 40 (Nat.succ_le_succ (Nat.le_trans hkl'.out (Nat.le_of_lt hlt)))) hbytes'.out) _ ?_ ?_
      · intro hpe w4 hE4
        have hr : Hid (∀ q, GP G q → (Tr.has cmpPe t q ↔ ∃ p ∈ (l.take (k + 1)).map (·.map toE), p ≠ [] ∧ wc cmpPe p q = 0)) := Lib.hid (fun q hq => by
          rw [hhas.out q hq, htk.out, hpe]
          simp [or_and_right, exists_or])
        have hst4 := Lib.hid (hst3.out.ext hE4)
        have hEw4 := Lib.hid (hEw3.out.trans hE4)
        clear hpe hE4
        rw [htb]
        dsimp only
        go_wp2_with fail
        go_roundw
        case rel => exact ⟨k + 1, t, by omega, by go_num, hEw4.out, htb, hst4, hwf, hr, hbl⟩
        case measure => simp [intOf]; omega
      · intro hpe w4 t4 ht4
        have hr : Hid (∀ q, GP G q → (Tr.has cmpPe t4 q ↔ ∃ p ∈ (l.take (k + 1)).map (·.map toE), p ≠ [] ∧ wc cmpPe p q = 0)) := Lib.hid (fun q hq => by
          rw [ht4.has q hq, hhas.out q hq, htk.out]
          simp only [List.mem_append, List.mem_singleton, or_and_right, exists_or, exists_eq_left]
          simp [hpe])
        have hst4 := Lib.hid ht4.st
        have hwf4 := Lib.hid ht4.wf
        have hEw4 := Lib.hid (hEw3.out.mutated ht4.mu hbl.out)
        have hbl4 : Hid (∀ b ∈ bls (BT.flat t4), w.heap.size ≤ b) := Lib.hid (fun b hb => (ht4.bl b hb).elim (hbl.out b) (fun h => Nat.le_trans hEw3.out.size h))
        have htb4 : BT.b t4 = w.heap.size := ht4.b.trans htb
        clear hpe ht4
        rw [htb]
        dsimp only
        go_wp2_with fail
        go_roundw
        case rel => exact ⟨k + 1, t4, by omega, by go_num, hEw4.out, htb4, hst4, hwf4, hr, hbl4⟩
        case measure => simp [intOf]; omega
    · have ek : k = l.length := by omega
      subst ek
      have hi1 : ¬ (l.length : Int) < (l.length : Int) := by omega
      have hfin := hhas.out
      rw [List.take_of_length_le (Nat.le_refl _)] at hfin
      have hfin' := Lib.hid hfin
      clear hfin hhas
      go_wp2_with fail
      rw [← htb]
      exact hR'.out wr t hEr hst.out hbl.out hwf.out hfin'.out
end Go.Proofs.YtihapgangilncaaGreat
namespace Go.Proofs.YtihapgangilncaaGreat
open Go.RowKit
set_option linter.unusedSimpArgs false

theorem Tryz.info24 : (Tryz.prog.info? 24).map (fun i => (i.zero, i.size, i.bytes)) = some (some (.slice none 0 0), 1, 24) := by kernel_rfl

set_option maxRecDepth 100000 in
theorem callFunc_fs1 (args : Array Value) (w : World) : (callFunc 111 args).run Tryz.prog w = .ok (.enter 111 args) w := rfl

set_option maxRecDepth 100000 in
set_option maxHeartbeats 4000000 in
set_option pp.maxSteps 1000000 in
set_option pp.deepTerms true in
theorem fs1_c {w : World} {X : List Nat} {ob : Nat} {v pv : Value} {us : List (List EL)} {p : List PEl} (hb : w.heap[ob]? = some (.cells #[v] 24 (0, 0))) (hrow : Row kPth 22 w (ob :: X) v us) (hX : Old (ob :: X) w) (hp : SlE kPe 32 w (vb v ++ ob :: X) pv p) (hs : ∀ e ∈ p, SmallPe e)
    (hbp : p.length * 168 ≤ 140737488351232) (hbytes : (us.length + 1) * 24 ≤ 140737488351232) (R : Ending → World → Prop)
    (hR : ∀ w' v', w'.heap[ob]? = some (.cells #[v'] 24 (0, 0)) → Row kPth 22 w' (ob :: X) v' (us ++ [p.map backE]) → Mut w (ob :: vb v) w' → (∀ g, v'.ownBlock = some g → v.ownBlock = some g ∨ w.heap.size ≤ g) → R (.returned (.tuple #[])) w') :
    Calls Tryz.prog 111 #[pv, .pointer (some ⟨ob, 0, none⟩)] w R := by
  have hob := (Array.getElem?_eq_some_iff.1 hb).1
  have p0 : w.cell? ⟨ob, 0, none⟩ = some v := cells_of hb 0
  have hvo := hrow.one
  have hpo := hp.one
  have hR' := Lib.hid hR
  have hX' := Lib.hid hX
  have hp' := Lib.hid hp
  have hb' := Lib.hid hb
  have hrow' := Lib.hid hrow
  have hbytes' := Lib.hid hbytes
  have hbp' := Lib.hid hbp
  have hs' := Lib.hid hs
  clear hR hX hp hb hrow hbytes hbp hs
  go_enter Tryz.func111, Tryz.ntmps111
  go_wp2_with fail
  refine wp_region_script [0, 1] [2, 3] (fun w' => Ext w w') [(.read, 0), (.pure, 1), (.one, 2), (.one, 3), (.one, 4), (.one, 5)] (by kernel_rfl) (by kernel_rfl) ?_
  have hC : Ext w w.drew := (Ext.refl _).drew
  (apply scr_read'; (· rfl); (· rfl); (· first | exact hC | exact (Ext.refl _).drew); (· (intro w' hw'; have p0_ := hw'.keep p0; go_simp; try rfl)); (· (simp [go_sem]; try rfl)))
  (apply scr_pure'; (· rfl); (· rfl); (· (intro w'; go_simp; try rfl)); (· (simp [go_sem]; try rfl)))
  refine scr_one rfl rfl (fun K hK => ?_)
  go_simp
  have hEd := Lib.hid hC
  refine fromPath_c (X := vb v ++ ob :: X) (hp'.out.ext hEd.out) ((hrow'.out.ext hEd.out).old (hX'.out.le hEd.out.size)) hs'.out hbp'.out _ ?_
  intro w3 dv hE3 hds
  have hds' := Lib.hid hds
  obtain ⟨dO, dC, -, -, hdv, -⟩ := id hds.ex
  rw [List.length_map] at hdv
  subst hdv
  have hE13 := Lib.hid (hEd.out.trans hE3)
  have hEw3 := Lib.hid (hEd.out.trans hE3)
  clear hds hE3
  refine hK _ _ (fun _ => hE13.out) ?_
  clear hK
  refine scr_one rfl rfl (fun K hK => ?_)
  go_simp
  refine hK _ _ (fun _ => hE13.out.push _) ?_
  clear hK
  refine scr_one rfl rfl (fun K hK => ?_)
  refine wp_rowApp (c := #[.slice dO p.length dC]) hrow'.out hEw3.out (hX'.out.le hEw3.out.size) ⟨_, rfl, hds'.out⟩ _ _ _ rfl Tryz.underlying24 Tryz.info22 rfl (by decide) (by go_simp) (by go_simp) (Nat.le_trans hbytes'.out (by decide)) (by rw [maxLen_eq]; have := hbytes'.out; omega) ?_
  intro v' w4 hr4 hg4 hne4 hd4
  have hvo4 := hr4.one
  have hr4' := Lib.hid hr4
  have hg4' := Lib.hid hg4
  have hd4' := Lib.hid hd4
  clear hr4 hg4 hne4 hd4
  refine hK _ _ (fun h => by simp at h) ?_
  clear hK
  have hb4 := Lib.hid ((hg4'.out.block ob (Nat.lt_of_lt_of_le hob hEw3.out.size) (hrow'.out.notin (by simp))).trans ((hEw3.out.below.block _ hob).trans hb'.out))
  refine scr_one rfl rfl (fun K hK => ?_)
  refine wp_storeC (new := #[v']) (b := ob) (off := 0) 24 _ _ rfl Tryz.info24 (by go_simp) (by go_simp) hvo4 hb4.out (by simp) rfl ?_
  intro w5 h5 g5
  have h5' := Lib.hid h5
  have g5' := Lib.hid g5
  clear h5 g5
  refine hK _ _ (fun h => by simp at h) ?_
  clear hK
  refine scr_end ?_
  refine bodyPost_end (by simp [results, Tryz.results111, go_sem]) rfl (hR'.out w5 v' h5'.out (hr4'.out.keep g5'.out (by simp)) (ins_mut hEw3.out hg4'.out g5'.out) (fun g h => (hd4'.out g h).imp id (fun e => Nat.le_trans hEw3.out.size e)))

/-- how far the list has come -/
def FsInv (ob base : Nat) (L : List (List EL)) (k : Nat) (O Z : List Nat) (w : World) : Prop :=
  ∃ v, O = ob :: vb v ∧ w.heap[ob]? = some (.cells #[v] 24 (0, 0)) ∧ Row kPth 22 w (ob :: Z) v (L.take k) ∧ (∀ g ∈ vb v, base ≤ g) ∧ ob ∉ Z ∧ base ≤ w.heap.size

theorem fs_visit {G : PEl → Prop} {s : St} (ob : Nat) (hsm : ∀ x, G x → SmallPe x) (hwf : Tr.Wf cmpPe G s) (hb1 : ∀ q ∈ s.paths, q.length * 168 ≤ 140737488351232) (hb2 : (s.paths.length + 1) * 24 ≤ 140737488351232) :
    PVisit 111 #[.pointer (some ⟨ob, 0, none⟩)] (FsInv ob ob (s.paths.map (·.map backE))) s.paths := by
  refine ⟨callFunc_fs1, ?_, ?_, ?_⟩
  · rintro k O Z w ⟨v, rfl, h1, h2, -⟩ b hb
    rcases List.mem_cons.1 hb with rfl | hb
    · exact (Array.getElem?_eq_some_iff.1 h1).1
    · exact h2.lt (by simpa [vb] using hb)
  · rintro k O Z Z' w w' B ⟨v, rfl, h1, h2, h3, h4, h6⟩ hM hB hZ
    have hob := (Array.getElem?_eq_some_iff.1 h1).1
    exact ⟨v, rfl, (hM.block ob hob (fun h => h4 (hB _ h))).trans h1, h2.mutd hM (fun b hb => List.mem_cons_of_mem _ (hB b hb)) (fun b hb => by
      rcases List.mem_cons.1 hb with rfl | hb
      · exact .inl (by simp)
      · exact (hZ b hb).imp (List.mem_cons_of_mem _) id), h3, fun h => (hZ ob h).elim h4 (fun h => by omega), Nat.le_trans h6 hM.size⟩
  · rintro k O Z w v p hpk hpl ⟨r, rfl, h1, h2, h3, h4, h6⟩ hZ hrow K hK
    obtain ⟨hk, rfl⟩ := List.getElem?_eq_some_iff.1 hpk
    have hob := (Array.getElem?_eq_some_iff.1 h1).1
    have hmem := List.getElem_mem hk
    have hlk : ((s.paths.map (·.map backE)).take k).length = k := by rw [List.length_take, List.length_map]; omega
    refine fs1_c (X := vb v ++ Z) h1 h2 (fun b hb => ?_) ((hrow.slE hpl).less fun b hb => ?_) (fun e he => hsm _ (Tr.paths_good hwf _ hmem e he)) (hb1 _ hmem) (by rw [hlk]; have := hb2; omega) _ ?_
    · rcases List.mem_cons.1 hb with rfl | hb
      · exact hob
      · rcases List.mem_append.1 hb with hb | hb
        · exact hrow.lt (by simpa [vb] using hb)
        · exact hZ b hb
    · simp only [List.mem_append, List.mem_cons] at hb ⊢
      rcases hb with hb | hb | hb | hb
      · exact .inr (.inl (.inr hb))
      · exact .inr (.inl (.inl hb))
      · exact .inl hb
      · exact .inr (.inr hb)
    intro w' v' k1 k2 k3 k4
    refine hK w' (ob :: vb v') k3 (fun b hb => ?_) ⟨v', rfl, k1, ?_, fun g hg => ?_, h4, Nat.le_trans h6 k3.size⟩
    · rcases List.mem_cons.1 hb with rfl | hb
      · exact .inl (by simp)
      · exact (k4 b (by simpa [vb] using hb)).imp (fun h => by simp [vb, h]) id
    · rw [List.take_succ_eq_append_getElem (by simpa using hk), List.getElem_map]
      exact k2
    · rcases k4 g (by simpa [vb] using hg) with h | h
      · exact h3 g (by simp [vb, h])
      · exact Nat.le_trans h6 h

set_option maxRecDepth 100000 in
set_option maxHeartbeats 4000000 in
set_option pp.maxSteps 1000000 in
set_option pp.deepTerms true in
theorem setIterate_c {F : FuncId} {cap : Array Value} {Inv : Nat → List Nat → List Nat → World → Prop} {ps : List (List PEl)} (hV : PVisit F cap Inv ps) {d : Nat} {w : World} {O Z : List Nat} {sv : Value} {s : St} {G : PEl → Prop} (hs : (kSt d).is w (O ++ Z) [sv] s) (hwf : Tr.Wf cmpPe G s) (hZ : Old Z w) (hinv : Inv 0 O Z w) (hps : ps = s.paths)
    (hbytes : ∀ q ∈ s.paths, q.length * 32 ≤ 140737488351232) (R : Ending → World → Prop) (hR : ∀ w' O', Mut w O w' → Inv s.paths.length O' Z w' → R (.returned (.tuple #[])) w') :
    Calls Tryz.prog 110 #[sv, .func (.func F) #[] cap] w R := by
  have hso : sv.oneCell' = true := (kSt d).one hs sv (by simp)
  have hO := hV.old hinv
  have hV' := Lib.hid hV
  have hs' := Lib.hid hs
  have hwf' := Lib.hid hwf
  have hZ' := Lib.hid hZ
  have hinv' := Lib.hid hinv
  have hps' := Lib.hid hps
  have hbytes' := Lib.hid hbytes
  have hR' := Lib.hid hR
  have hO' := Lib.hid hO
  clear hV hs hwf hZ hinv hps hbytes hR hO
  go_enter Tryz.func110, Tryz.ntmps110
  go_wp2_with fail
  refine abs1 (G := fun wr => Calls _ _ _ wr _) ?_
  intro w1 hE1 hb1 hs1
  have hpr : Row kPe 89 w1 (O ++ Z) (.slice (some ⟨w.heap.size, 0, none⟩) 0 0) [] := Row.made hb1 (fun h => by
    rcases List.mem_append.1 h with h | h
    · have := hO'.out _ h; omega
    · have := hZ'.out _ h; omega)
  refine itp_all hV'.out d (O := O) (Z := Z) (pre := []) (pv := .slice (some ⟨w.heap.size, 0, none⟩) 0 0) ((kSt d).mv hs'.out ((hE1.mv _).more (Nat.le_refl _))) hwf'.out hpr (hZ'.out.le hE1.size) (hV'.out.grow hinv'.out (hE1.mut []) (by simp) (fun b hb => by
    rcases List.mem_append.1 hb with hb | hb
    · exact .inr (by simp [vb, Value.ownBlock] at hb; omega)
    · exact .inl hb)) ⟨[], [], by rw [hps'.out]; simp, rfl⟩ (fun q hq => by simpa using hbytes'.out q hq) _ ?_
  intro w2 O2 hM hO2 hi2 _
  have hM2 := Lib.hid ((hE1.mut O).thenNew hM (fun b hb => by
    rcases List.mem_append.1 hb with hb | hb
    · exact .inr (by simp [vb, Value.ownBlock] at hb; omega)
    · exact .inl hb))
  have hi2' := Lib.hid (hV'.out.grow (Z' := Z) hi2 ((Ext.refl w2).mut []) (by simp) (fun b hb => .inl (List.mem_append_right _ hb)))
  rw [Nat.zero_add] at hi2'
  clear hM hO2 hi2 hpr hb1 hs1
  dsimp only
  go_wp2_with fail
  exact bodyPost_end (by simp [results, Tryz.results110, go_sem]) rfl (hR'.out w2 O2 hM2.out hi2'.out)

set_option maxRecDepth 100000 in
set_option maxHeartbeats 4000000 in
set_option pp.maxSteps 1000000 in
set_option pp.deepTerms true in
theorem fromSet_c {G : PEl → Prop} {d : Nat} {w : World} {X : List Nat} {sv : Value} {s : St} (hs : (kSt d).is w X [sv] s) (hwf : Tr.Wf cmpPe G s) (hX : Old X w) (hsm : ∀ x, G x → SmallPe x) (hb1 : ∀ q ∈ s.paths, q.length * 168 ≤ 140737488351232) (hb2 : (s.paths.length + 1) * 24 ≤ 140737488351232)
    (R : Ending → World → Prop) (hR : ∀ w' v', Ext w w' → IsSl kPth 24 w' X v' (s.paths.map (·.map backE)) → R (.returned v') w') :
    Calls Tryz.prog 57 #[sv] w R := by
  have hmf : ∀ (fn : Fn) (first cap : Array Value) (w : World), (Instr.makeFunc fn first cap).run Tryz.prog w = .ok (.func fn first cap) w := fun _ _ _ _ => rfl
  have hso : sv.oneCell' = true := (kSt d).one hs sv (by simp)
  have hs' := Lib.hid hs
  have hX' := Lib.hid hX
  have hsm' := Lib.hid hsm
  have hwf' := Lib.hid hwf
  have hb1' := Lib.hid hb1
  have hb2' := Lib.hid hb2
  have hR' := Lib.hid hR
  clear hs hX hsm hb1 hb2 hR hwf
  go_enter Tryz.func57, Tryz.ntmps57
  go_wp2_with fail
  refine abs1 (G := fun wr => Calls _ _ _ wr _) ?_
  intro w1 hE1 hb1 hs1
  have hob := (Array.getElem?_eq_some_iff.1 hb1).1
  have hoX : w.heap.size ∉ X := fun h => by have := hX'.out _ h; omega
  refine setIterate_c (Z := X) (O := [w.heap.size]) (G := G) (Inv := FsInv w.heap.size w.heap.size (s.paths.map (·.map backE))) (ps := s.paths) (fs_visit (G := G) (w.heap.size) hsm'.out hwf'.out hb1'.out hb2'.out) ((kSt d).mv hs'.out ((hE1.mv X).more (Nat.le_refl _))) hwf'.out (hX'.out.le hE1.size) ⟨.slice none 0 0, by simp [vb, Value.ownBlock], hb1, Row.nil _ _ _ _, by simp [vb, Value.ownBlock], hoX, hE1.size⟩ rfl (fun q hq => by have := hb1'.out q hq; omega) _ ?_
  rintro w2 O2 hM2 ⟨v, -, h1, h2, h3, -, -⟩
  rw [List.take_of_length_le (by simp)] at h2
  have hvo := h2.one
  have c0 := cells_of h1 0
  simp only [List.getElem?_toArray, List.getElem?_cons_zero] at c0
  have h2' := Lib.hid h2
  have hE2 := Lib.hid (hE1.mutated hM2 (fun k hk => by rw [List.mem_singleton.1 hk]; exact Nat.le_refl _))
  clear h1 h2 h3 hmf hM2
  dsimp only
  go_wp2_with fail
  exact hR'.out w2 v hE2.out ((h2'.out.less (fun b hb => List.mem_cons_of_mem _ hb)).isSl (by rw [List.length_map]; have := hb2'.out; omega))
end Go.Proofs.YtihapgangilncaaGreat
