/- Path elements that come of orderly elements of impl (plain). Set.Equals: two sets are equal exactly if they have the same paths (printed by gen_seteq.py). spec.SetOf: the reference's set of paths. impl.fromSet: the list of a set's paths. Sets that paths were put into, as sets to read; spec.Listed, spec.EqualSets, laws.lists. -/
import Derived.Test.YtihapgangilncaaGreatKFBackL
import Derived.Test.YtihapgangilncaaGreatKFSetL
import Derived.Test.YtihapgangilncaaGreatKFSetOps
import Derived.Test.YtihapgangilncaaGreatKFRowS
import Derived.Test.YtihapgangilncaaGreatKFMapQ
import Derived.Test.YtihapgangilncaaGreatKFToSet
import Derived.Test.YtihapgangilncaaGreatKFIterP
import Derived.Test.YtihapgangilncaaGreatKFDescend
namespace Go.Proofs.YtihapgangilncaaGreat
open Go.RowKit
set_option linter.unusedSimpArgs false

theorem tr_good {a b c : PEl} (ha : GoodPe a) (hb : GoodPe b) (hc : GoodPe c) : tr (cmpPe a b) (cmpPe b c) (cmpPe a c) := by
  cases a <;> cases b <;> cases c <;> simp only [cmpPe] <;> first
    | exact tr_S _ _ _
    | exact tr_I _ _ _
    | exact tr_T ha hb hc
    | exact tr_E fun p hp q hq s hs => tr_T (ha p hp) (hb q hq) (hc s hs)
    | (unfold tr; refine ⟨fun _ _ => ?_, fun _ _ => ?_, fun _ _ => ?_⟩ <;> omega)
    | (unfold tr; simp)
def GoodE (x : PEl) : Prop := ∃ e : EL, tameEl e ∧ e.l.length * 88 ≤ 140737488351232 ∧ x = toE e
theorem goodE_ord : Cmpr cmpPe GoodE := ⟨cmpPe_neg', cmpPe_rng', fun {a b d} ha hb hd => by
  obtain ⟨e1, t1, -, rfl⟩ := ha
  obtain ⟨e2, t2, -, rfl⟩ := hb
  obtain ⟨e3, t3, -, rfl⟩ := hd
  exact tr_good (good_toE t1) (good_toE t2) (good_toE t3)⟩
theorem goodE_from {x : PEl} (h : GoodE x) : FromEl x := by
  obtain ⟨e, -, -, rfl⟩ := h
  exact ⟨e, rfl⟩
theorem goodE_small {x : PEl} (h : GoodE x) : SmallPe x := by
  obtain ⟨e, -, h2, rfl⟩ := h
  unfold toE
  split
  · show (e.keys.zip (V.plainL e.l)).length * 88 ≤ _
    have : (V.plainL e.l).length = e.l.length := by rw [V.plainL_eq, List.length_map]
    rw [List.length_zip, this]
    refine Nat.le_trans (Nat.mul_le_mul_right 88 (Nat.min_le_right _ _)) h2
  · split
    · trivial
    · split <;> trivial
theorem goodE_back {x : PEl} (h : GoodE x) : GoodE (toE (backE x)) := by
  obtain ⟨e, h1, h2, rfl⟩ := h
  refine ⟨backE (toE e), tame_back h1, ?_, rfl⟩
  unfold toE
  split
  · show ((e.keys.zip (V.plainL e.l)).map (fun p => p.2.back)).length * 88 ≤ _
    have : (V.plainL e.l).length = e.l.length := by rw [V.plainL_eq, List.length_map]
    rw [List.length_map, List.length_zip, this]
    refine Nat.le_trans (Nat.mul_le_mul_right 88 (Nat.min_le_right _ _)) h2
  · split
    · simp [backE]
    · split <;> simp [backE]
end Go.Proofs.YtihapgangilncaaGreat
namespace Go.Proofs.YtihapgangilncaaGreat
open Go.RowKit
set_option linter.unusedSimpArgs false
set_option linter.unusedVariables false

section
variable {α : Type} {c : α → α → Int} {G : α → Prop}
theorem All2.has {l m : List α} (h : Cmpr c G) (a : All2 (fun a b => c a b = 0) l m) (gl : ∀ x ∈ l, G x) (gm : ∀ x ∈ m, G x) {p : α} (hp : G p) : hasC c l p ↔ hasC c m p := by
  induction a with
  | nil => exact Iff.rfl
  | cons h1 _ ih =>
    rw [hasC_cons, hasC_cons, h.congr (gl _ (by simp)) (gm _ (by simp)) hp h1]
    exact or_congr Iff.rfl (ih (fun x hx => gl x (List.mem_cons_of_mem _ hx)) (fun x hx => gm x (List.mem_cons_of_mem _ hx)))
end

/-- a set node, cell by cell -/
theorem node5 {d : Nat} {w : World} {X : List Nat} {cs : List Value} {n : PEl × St} (h : (kNd (kSt d)).is w X cs n) : ∃ c0 c1 c2 c3 c4, cs = [c0, c1, c2, c3, c4] ∧ kPe.is w X [c0, c1, c2, c3] n.1 ∧ (kSt d).is w X [c4] n.2 ∧ c0.oneCell' = true ∧ c1.oneCell' = true ∧ c2.oneCell' = true ∧ c3.oneCell' = true ∧ c4.oneCell' = true := by
  have h1 := (kNd (kSt d)).one h
  obtain ⟨pc, sc, rfl, hp, hs⟩ := h
  obtain ⟨c0, c1, c2, c3, rfl⟩ := kPe_four hp
  have hl := (kSt d).len hs
  rw [kSt_size] at hl
  match sc, hl, hs with
  | [c4], _, hs => exact ⟨c0, c1, c2, c3, c4, rfl, hp, hs, h1 _ (by simp), h1 _ (by simp), h1 _ (by simp), h1 _ (by simp), h1 _ (by simp)⟩

end Go.Proofs.YtihapgangilncaaGreat
namespace Go.Proofs.YtihapgangilncaaGreat
open Go.RowKit
set_option linter.unusedSimpArgs false

section
variable {P : Program}
end
theorem wc_map {α β : Type} {d : β → β → Int} {f : α → β} {g : α → β} {q : List β} : ∀ {p : List α}, (∀ x ∈ p, ∀ y, d (f x) y = d (g x) y) → wc d (p.map f) q = wc d (p.map g) q := by
  induction q with
  | nil => intro p _; cases p <;> simp [wc]
  | cons y q ih =>
    intro p h
    cases p with
    | nil => simp [wc]
    | cons x p =>
      have h1 := h x (by simp) y
      have h2 := ih (p := p) (fun z hz => h z (by simp [hz]))
      have h3 : fl (p.map f) q = fl (p.map g) q := by cases p <;> cases q <;> rfl
      simp only [List.map_cons, wc, h1, h2, h3]
/-- the set of the paths of l, in the order of a walk -/
def setStep (s : List (List PEl)) (p : List PEl) : List (List PEl) := if p.length = 0 then s else insC (wc cmpPe) s p
def setOf (l : List (List PEl)) : List (List PEl) := l.foldl setStep []
theorem setOf_snoc (l : List (List PEl)) (p : List PEl) : setOf (l ++ [p]) = setStep (setOf l) p := by simp [setOf]
theorem setOf_facts {G : PEl → Prop} (ho : Cmpr cmpPe G) {l : List (List PEl)} (hG : ∀ p ∈ l, GP G p) : SrtC (wc cmpPe) (setOf l) ∧ (∀ p ∈ setOf l, p ∈ l) ∧ (setOf l).length ≤ l.length ∧ (∀ q, GP G q → (hasC (wc cmpPe) (setOf l) q ↔ ∃ p ∈ l, p ≠ [] ∧ wc cmpPe p q = 0)) ∧ ∀ p ∈ setOf l, p ≠ [] := by
  induction l using snoc_ind with
  | h0 => exact ⟨by simp [setOf, SrtC], by simp [setOf], by simp [setOf], by simp [setOf, hasC], by simp [setOf]⟩
  | h1 l p ih =>
    obtain ⟨h1, h2, h3, h4, h5⟩ := ih (fun x hx => hG x (by simp [hx]))
    have hp := hG p (by simp)
    have hs : ∀ x ∈ setOf l, GP G x := fun x hx => hG x (by simp [h2 x hx])
    rw [setOf_snoc]
    unfold setStep
    by_cases h0 : p.length = 0
    · have hp0 := List.eq_nil_of_length_eq_zero h0
      rw [if_pos h0]
      refine ⟨h1, fun x hx => by simp [h2 x hx], by simp; omega, fun q hq => ?_, h5⟩
      rw [h4 q hq]
      simp [or_and_right, exists_or, hp0]
    · have hp0 : p ≠ [] := fun e => h0 (by simp [e])
      rw [if_neg h0]
      refine ⟨insC_srt (wc_ord ho) h1 hs hp, fun x hx => ?_, Nat.le_trans insC_len (by simp; omega), fun q hq => ?_, fun x hx => ?_⟩
      · rcases insC_mem hx with e | e
        · simp [e]
        · simp [h2 x e]
      · rw [insC_has (wc_ord ho) hp hq hs, h4 q hq]
        simp only [List.mem_append, List.mem_singleton, or_and_right, exists_or, exists_eq_left]
        simp [hp0]
      · rcases insC_mem hx with e | e
        · rw [e]; exact hp0
        · exact h5 x e

end Go.Proofs.YtihapgangilncaaGreat
namespace Go.Proofs.YtihapgangilncaaGreat
open Go.RowKit
set_option linter.unusedSimpArgs false

theorem Tryz.info24 : (Tryz.prog.info? 24).map (fun i => (i.zero, i.size, i.bytes)) = some (some (.slice none 0 0), 1, 24) := by kernel_rfl

set_option maxRecDepth 100000 in
theorem callFunc_fs1 (args : Array Value) (w : World) : (callFunc 111 args).run Tryz.prog w = .ok (.enter 111 args) w := rfl

set_option maxRecDepth 100000 in
set_option maxHeartbeats 4000000 in
set_option pp.maxSteps 1000000 in
set_option pp.deepTerms true in
theorem fs1_c {w : World} {X : List Nat} {ob : Nat} {v pv : Value} {us : List (List EL)} {p : List PEl} (hb : w.heap[ob]? = some (.cells #[v] 24 (0, 0))) (hrow : Row kPth 22 w (ob :: X) v us) (hX : Old (ob :: X) w) (hp : SlE kPe 32 w (vb v ++ ob :: X) pv p) (hs : ∀ e ∈ p, SmallPe e)
    (hbp : p.length * 168 ≤ 140737488351232) (hbytes : (us.length + 1) * 24 ≤ 140737488351232) (R : Ending → World → Prop)
    (hR : ∀ w' v', w'.heap[ob]? = some (.cells #[v'] 24 (0, 0)) → Row kPth 22 w' (ob :: X) v' (us ++ [p.map backE]) → Mut w (ob :: vb v) w' → (∀ g, v'.ownBlock = some g → v.ownBlock = some g ∨ w.heap.size ≤ g) → R (.returned (.tuple #[])) w') :
    Calls Tryz.prog 111 #[pv, .pointer (some ⟨ob, 0, none⟩)] w R := by
  have hob := (Array.getElem?_eq_some_iff.1 hb).1
  have p0 : w.cell? ⟨ob, 0, none⟩ = some v := cells_of hb 0
  have hvo := hrow.one
  have hpo := hp.one
  have hR' := Lib.hid hR
  have hX' := Lib.hid hX
  have hp' := Lib.hid hp
  have hb' := Lib.hid hb
  have hrow' := Lib.hid hrow
  have hbytes' := Lib.hid hbytes
  have hbp' := Lib.hid hbp
  have hs' := Lib.hid hs
  clear hR hX hp hb hrow hbytes hbp hs
  go_enter Tryz.func111, Tryz.ntmps111
  go_wp2_with fail
  refine wp_region_script [0, 1] [2, 3] (fun w' => Ext w w') [(.read, 0), (.pure, 1), (.one, 2), (.one, 3), (.one, 4), (.one, 5)] (by kernel_rfl) (by kernel_rfl) ?_
  have hC : Ext w w.drew := (Ext.refl _).drew
  (apply scr_read'; (· rfl); (· rfl); (· first | exact hC | exact (Ext.refl _).drew); (· (intro w' hw'; have p0_ := hw'.keep p0; go_simp; try rfl)); (· (simp [go_sem]; try rfl)))
  (apply scr_pure'; (· rfl); (· rfl); (· (intro w'; go_simp; try rfl)); (· (simp [go_sem]; try rfl)))
  refine scr_one rfl rfl (fun K hK => ?_)
  go_simp
  have hEd := Lib.hid hC
  refine fromPath_c (X := vb v ++ ob :: X) (hp'.out.ext hEd.out) ((hrow'.out.ext hEd.out).old (hX'.out.le hEd.out.size)) hs'.out hbp'.out _ ?_
  intro w3 dv hE3 hds
  have hds' := Lib.hid hds
  obtain ⟨dO, dC, -, -, hdv, -⟩ := id hds.ex
  rw [List.length_map] at hdv
  subst hdv
  have hE13 := Lib.hid (hEd.out.trans hE3)
  have hEw3 := Lib.hid (hEd.out.trans hE3)
  clear hds hE3
  refine hK _ _ (fun _ => hE13.out) ?_
  clear hK
  refine scr_one rfl rfl (fun K hK => ?_)
  go_simp
  refine hK _ _ (fun _ => hE13.out.push _) ?_
  clear hK
  refine scr_one rfl rfl (fun K hK => ?_)
  refine wp_rowApp (c := #[.slice dO p.length dC]) hrow'.out hEw3.out (hX'.out.le hEw3.out.size) ⟨_, rfl, hds'.out⟩ _ _ _ rfl Tryz.underlying24 Tryz.info22 rfl (by decide) (by go_simp) (by go_simp) (Nat.le_trans hbytes'.out (by decide)) (by rw [maxLen_eq]; have := hbytes'.out; omega) ?_
  intro v' w4 hr4 hg4 hne4 hd4
  have hvo4 := hr4.one
  have hr4' := Lib.hid hr4
  have hg4' := Lib.hid hg4
  have hd4' := Lib.hid hd4
  clear hr4 hg4 hne4 hd4
  refine hK _ _ (fun h => by simp at h) ?_
  clear hK
  have hb4 := Lib.hid ((hg4'.out.block ob (Nat.lt_of_lt_of_le hob hEw3.out.size) (hrow'.out.notin (by simp))).trans ((hEw3.out.below.block _ hob).trans hb'.out))
  refine scr_one rfl rfl (fun K hK => ?_)
  refine wp_storeC (new := #[v']) (b := ob) (off := 0) 24 _ _ rfl Tryz.info24 (by go_simp) (by go_simp) hvo4 hb4.out (by simp) rfl ?_
  intro w5 h5 g5
  have h5' := Lib.hid h5
  have g5' := Lib.hid g5
  clear h5 g5
  refine hK _ _ (fun h => by simp at h) ?_
  clear hK
  refine scr_end ?_
  refine bodyPost_end (by simp [results, Tryz.results111, go_sem]) rfl (hR'.out w5 v' h5'.out (hr4'.out.keep g5'.out (by simp)) (ins_mut hEw3.out hg4'.out g5'.out) (fun g h => (hd4'.out g h).imp id (fun e => Nat.le_trans hEw3.out.size e)))

/-- how far the list has come -/
def FsInv (ob base : Nat) (L : List (List EL)) (k : Nat) (O Z : List Nat) (w : World) : Prop :=
  ∃ v, O = ob :: vb v ∧ w.heap[ob]? = some (.cells #[v] 24 (0, 0)) ∧ Row kPth 22 w (ob :: Z) v (L.take k) ∧ (∀ g ∈ vb v, base ≤ g) ∧ ob ∉ Z ∧ base ≤ w.heap.size

theorem fs_visit {G : PEl → Prop} {s : St} (ob : Nat) (hsm : ∀ x, G x → SmallPe x) (hwf : Tr.Wf cmpPe G s) (hb1 : ∀ q ∈ s.paths, q.length * 168 ≤ 140737488351232) (hb2 : (s.paths.length + 1) * 24 ≤ 140737488351232) :
    PVisit 111 #[.pointer (some ⟨ob, 0, none⟩)] (FsInv ob ob (s.paths.map (·.map backE))) s.paths := by
  refine ⟨callFunc_fs1, ?_, ?_, ?_⟩
  · rintro k O Z w ⟨v, rfl, h1, h2, -⟩ b hb
    rcases List.mem_cons.1 hb with rfl | hb
    · exact (Array.getElem?_eq_some_iff.1 h1).1
    · exact h2.lt (by simpa [vb] using hb)
  · rintro k O Z Z' w w' B ⟨v, rfl, h1, h2, h3, h4, h6⟩ hM hB hZ
    have hob := (Array.getElem?_eq_some_iff.1 h1).1
    exact ⟨v, rfl, (hM.block ob hob (fun h => h4 (hB _ h))).trans h1, h2.mutd hM (fun b hb => List.mem_cons_of_mem _ (hB b hb)) (fun b hb => by
      rcases List.mem_cons.1 hb with rfl | hb
      · exact .inl (by simp)
      · exact (hZ b hb).imp (List.mem_cons_of_mem _) id), h3, fun h => (hZ ob h).elim h4 (fun h => by omega), Nat.le_trans h6 hM.size⟩
  · rintro k O Z w v p hpk hpl ⟨r, rfl, h1, h2, h3, h4, h6⟩ hZ hrow K hK
    obtain ⟨hk, rfl⟩ := List.getElem?_eq_some_iff.1 hpk
    have hob := (Array.getElem?_eq_some_iff.1 h1).1
    have hmem := List.getElem_mem hk
    have hlk : ((s.paths.map (·.map backE)).take k).length = k := by rw [List.length_take, List.length_map]; omega
    refine fs1_c (X := vb v ++ Z) h1 h2 (fun b hb => ?_) ((hrow.slE hpl).less fun b hb => ?_) (fun e he => hsm _ (Tr.paths_good hwf _ hmem e he)) (hb1 _ hmem) (by rw [hlk]; have := hb2; omega) _ ?_
    · rcases List.mem_cons.1 hb with rfl | hb
      · exact hob
      · rcases List.mem_append.1 hb with hb | hb
        · exact hrow.lt (by simpa [vb] using hb)
        · exact hZ b hb
    · simp only [List.mem_append, List.mem_cons] at hb ⊢
      rcases hb with hb | hb | hb | hb
      · exact .inr (.inl (.inr hb))
      · exact .inr (.inl (.inl hb))
      · exact .inl hb
      · exact .inr (.inr hb)
    intro w' v' k1 k2 k3 k4
    refine hK w' (ob :: vb v') k3 (fun b hb => ?_) ⟨v', rfl, k1, ?_, fun g hg => ?_, h4, Nat.le_trans h6 k3.size⟩
    · rcases List.mem_cons.1 hb with rfl | hb
      · exact .inl (by simp)
      · exact (k4 b (by simpa [vb] using hb)).imp (fun h => by simp [vb, h]) id
    · rw [List.take_succ_eq_append_getElem (by simpa using hk), List.getElem_map]
      exact k2
    · rcases k4 g (by simpa [vb] using hg) with h | h
      · exact h3 g (by simp [vb, h])
      · exact Nat.le_trans h6 h

set_option maxRecDepth 100000 in
set_option maxHeartbeats 4000000 in
set_option pp.maxSteps 1000000 in
set_option pp.deepTerms true in
theorem setIterate_c {F : FuncId} {cap : Array Value} {Inv : Nat → List Nat → List Nat → World → Prop} {ps : List (List PEl)} (hV : PVisit F cap Inv ps) {d : Nat} {w : World} {O Z : List Nat} {sv : Value} {s : St} {G : PEl → Prop} (hs : (kSt d).is w (O ++ Z) [sv] s) (hwf : Tr.Wf cmpPe G s) (hZ : Old Z w) (hinv : Inv 0 O Z w) (hps : ps = s.paths)
    (hbytes : ∀ q ∈ s.paths, q.length * 32 ≤ 140737488351232) (R : Ending → World → Prop) (hR : ∀ w' O', Mut w O w' → Inv s.paths.length O' Z w' → R (.returned (.tuple #[])) w') :
    Calls Tryz.prog 110 #[sv, .func (.func F) #[] cap] w R := by
  have hso : sv.oneCell' = true := (kSt d).one hs sv (by simp)
  have hO := hV.old hinv
  have hV' := Lib.hid hV
  have hs' := Lib.hid hs
  have hwf' := Lib.hid hwf
  have hZ' := Lib.hid hZ
  have hinv' := Lib.hid hinv
  have hps' := Lib.hid hps
  have hbytes' := Lib.hid hbytes
  have hR' := Lib.hid hR
  have hO' := Lib.hid hO
  clear hV hs hwf hZ hinv hps hbytes hR hO
  go_enter Tryz.func110, Tryz.ntmps110
  go_wp2_with fail
  refine abs1 (G := fun wr => Calls _ _ _ wr _) ?_
  intro w1 hE1 hb1 hs1
  have hpr : Row kPe 89 w1 (O ++ Z) (.slice (some ⟨w.heap.size, 0, none⟩) 0 0) [] := Row.made hb1 (fun h => by
    rcases List.mem_append.1 h with h | h
    · have := hO'.out _ h; omega
    · have := hZ'.out _ h; omega)
  refine itp_all hV'.out d (O := O) (Z := Z) (pre := []) (pv := .slice (some ⟨w.heap.size, 0, none⟩) 0 0) ((kSt d).mv hs'.out ((hE1.mv _).more (Nat.le_refl _))) hwf'.out hpr (hZ'.out.le hE1.size) (hV'.out.grow hinv'.out (hE1.mut []) (by simp) (fun b hb => by
    rcases List.mem_append.1 hb with hb | hb
    · exact .inr (by simp [vb, Value.ownBlock] at hb; omega)
    · exact .inl hb)) ⟨[], [], by rw [hps'.out]; simp, rfl⟩ (fun q hq => by simpa using hbytes'.out q hq) _ ?_
  intro w2 O2 hM hO2 hi2 _
  have hM2 := Lib.hid ((hE1.mut O).thenNew hM (fun b hb => by
    rcases List.mem_append.1 hb with hb | hb
    · exact .inr (by simp [vb, Value.ownBlock] at hb; omega)
    · exact .inl hb))
  have hi2' := Lib.hid (hV'.out.grow (Z' := Z) hi2 ((Ext.refl w2).mut []) (by simp) (fun b hb => .inl (List.mem_append_right _ hb)))
  rw [Nat.zero_add] at hi2'
  clear hM hO2 hi2 hpr hb1 hs1
  dsimp only
  go_wp2_with fail
  exact bodyPost_end (by simp [results, Tryz.results110, go_sem]) rfl (hR'.out w2 O2 hM2.out hi2'.out)

set_option maxRecDepth 100000 in
set_option maxHeartbeats 4000000 in
set_option pp.maxSteps 1000000 in
set_option pp.deepTerms true in
theorem fromSet_c {G : PEl → Prop} {d : Nat} {w : World} {X : List Nat} {sv : Value} {s : St} (hs : (kSt d).is w X [sv] s) (hwf : Tr.Wf cmpPe G s) (hX : Old X w) (hsm : ∀ x, G x → SmallPe x) (hb1 : ∀ q ∈ s.paths, q.length * 168 ≤ 140737488351232) (hb2 : (s.paths.length + 1) * 24 ≤ 140737488351232)
    (R : Ending → World → Prop) (hR : ∀ w' v', Ext w w' → IsSl kPth 24 w' X v' (s.paths.map (·.map backE)) → R (.returned v') w') :
    Calls Tryz.prog 57 #[sv] w R := by
  have hmf : ∀ (fn : Fn) (first cap : Array Value) (w : World), (Instr.makeFunc fn first cap).run Tryz.prog w = .ok (.func fn first cap) w := fun _ _ _ _ => rfl
  have hso : sv.oneCell' = true := (kSt d).one hs sv (by simp)
  have hs' := Lib.hid hs
  have hX' := Lib.hid hX
  have hsm' := Lib.hid hsm
  have hwf' := Lib.hid hwf
  have hb1' := Lib.hid hb1
  have hb2' := Lib.hid hb2
  have hR' := Lib.hid hR
  clear hs hX hsm hb1 hb2 hR hwf
  go_enter Tryz.func57, Tryz.ntmps57
  go_wp2_with fail
  refine abs1 (G := fun wr => Calls _ _ _ wr _) ?_
  intro w1 hE1 hb1 hs1
  have hob := (Array.getElem?_eq_some_iff.1 hb1).1
  have hoX : w.heap.size ∉ X := fun h => by have := hX'.out _ h; omega
  refine setIterate_c (Z := X) (O := [w.heap.size]) (G := G) (Inv := FsInv w.heap.size w.heap.size (s.paths.map (·.map backE))) (ps := s.paths) (fs_visit (G := G) (w.heap.size) hsm'.out hwf'.out hb1'.out hb2'.out) ((kSt d).mv hs'.out ((hE1.mv X).more (Nat.le_refl _))) hwf'.out (hX'.out.le hE1.size) ⟨.slice none 0 0, by simp [vb, Value.ownBlock], hb1, Row.nil _ _ _ _, by simp [vb, Value.ownBlock], hoX, hE1.size⟩ rfl (fun q hq => by have := hb1'.out q hq; omega) _ ?_
  rintro w2 O2 hM2 ⟨v, -, h1, h2, h3, -, -⟩
  rw [List.take_of_length_le (by simp)] at h2
  have hvo := h2.one
  have c0 := cells_of h1 0
  simp only [List.getElem?_toArray, List.getElem?_cons_zero] at c0
  have h2' := Lib.hid h2
  have hE2 := Lib.hid (hE1.mutated hM2 (fun k hk => by rw [List.mem_singleton.1 hk]; exact Nat.le_refl _))
  clear h1 h2 h3 hmf hM2
  dsimp only
  go_wp2_with fail
  exact hR'.out w2 v hE2.out ((h2'.out.less (fun b hb => List.mem_cons_of_mem _ hb)).isSl (by rw [List.length_map]; have := hb2'.out; omega))
end Go.Proofs.YtihapgangilncaaGreat
namespace Go.Proofs.YtihapgangilncaaGreat
open Go.RowKit
set_option linter.unusedSimpArgs false

mutual
def Tr.erase {β α : Type} : Tr β α → Tr Unit α
  | .mk _ ms cs => .mk () ms (Tr.eraseL cs)
def Tr.eraseL {β α : Type} : List (α × Tr β α) → List (α × Tr Unit α)
  | [] => []
  | p :: cs => Tr.eraseP p :: Tr.eraseL cs
def Tr.eraseP {β α : Type} : α × Tr β α → α × Tr Unit α
  | (e, s) => (e, Tr.erase s)
end
theorem Tr.eraseL_eq {β α : Type} (cs : List (α × Tr β α)) : Tr.eraseL cs = cs.map fun p => (p.1, p.2.erase) := by
  induction cs with
  | nil => simp [Tr.eraseL]
  | cons p cs ih => obtain ⟨e, s⟩ := p; simp [Tr.eraseL, Tr.eraseP, ih]
theorem Tr.erase_eq {β α : Type} (t : β) (ms : List α) (cs : List (α × Tr β α)) : (Tr.mk t ms cs).erase = .mk () ms (cs.map fun p => (p.1, p.2.erase)) := by rw [Tr.erase, Tr.eraseL_eq]
theorem Tr.erase_paths {β α : Type} (s : Tr β α) : s.erase.paths = s.paths := by
  induction s using Tr.ind with
  | h t ms cs ih =>
    rw [Tr.erase_eq, Tr.paths_eq, Tr.paths_eq (.mk t ms cs)]
    simp only [Tr.ms, Tr.cs, List.flatMap_map]
    congr 1
    have : ∀ l : List (α × Tr β α), (∀ p ∈ l, p.2.erase.paths = p.2.paths) → (l.flatMap fun p => p.2.erase.paths.map (p.1 :: ·)) = l.flatMap fun p => p.2.paths.map (p.1 :: ·) := by
      intro l
      induction l with
      | nil => simp
      | cons p l ihl =>
        intro h
        rw [List.flatMap_cons, List.flatMap_cons, h p (by simp), ihl fun q hq => h q (by simp [hq])]
    exact this cs ih
theorem Tr.erase_wf {β α : Type} {c : α → α → Int} {G : α → Prop} {s : Tr β α} (h : s.Wf c G) : s.erase.Wf c G := by
  induction s using Tr.ind with
  | h t ms cs ih =>
    cases h with
    | mk h1 h2 h3 h4 h5 h6 =>
      rw [Tr.erase_eq]
      refine .mk h1 h2 (by rw [List.map_map]; exact h3) (fun p hp => ?_) (fun p hp => ?_) (fun p hp => ?_) <;> obtain ⟨q, hq, rfl⟩ := List.mem_map.1 hp
      · exact h4 q hq
      · rw [Tr.erase_paths]; exact h5 q hq
      · exact ih q hq (h6 q hq)
theorem Tr.erase_has {β α : Type} {c : α → α → Int} {s : Tr β α} {q : List α} : s.erase.has c q ↔ s.has c q := by unfold Tr.has; rw [Tr.erase_paths]

theorem kid_len' {ms : List PEl} {t0 : Nat × Value × Value} {cs : List (PEl × BT)} {p : PEl × BT} (hp : p ∈ cs) : p.2.paths.length ≤ (Tr.mk t0 ms cs).paths.length := by
  obtain ⟨A, B, rfl⟩ := List.append_of_mem hp
  obtain ⟨x, s⟩ := p
  exact kid_len
theorem flat_kid {cs : List (PEl × BT)} {p : PEl × BT} (hp : p ∈ cs) : ∀ n ∈ BT.flat p.2, n ∈ BT.flatL cs := fun n hn => by
  obtain ⟨A, B, rfl⟩ := List.append_of_mem hp
  obtain ⟨x, s⟩ := p
  rw [BT.flatL_mid]
  simp [hn]
/-- a set that paths were put into can be read -/
theorem store_read {G : PEl → Prop} {w : World} {X : List Nat} {Γ : List Nd} (hs : Store w X Γ) (t : BT) : (∀ n ∈ BT.flat t, n ∈ Γ) → Tr.Wf cmpPe G t → t.paths.length * 40 ≤ 140737488351232 → ∃ d, (kSt d).is w X [.pointer (some ⟨BT.b t, 0, none⟩)] t.erase := by
  induction t using Tr.ind with
  | h tg ms cs ih =>
    intro hin hwf hlen
    obtain ⟨b, vm, vc⟩ := tg
    obtain ⟨s1, s2, s3, s4, s5, s6⟩ := Tr.wf_parts hwf
    simp only [Tr.cs] at s6
    have hn := hin ⟨b, vm, vc, ms, ksOf cs⟩ (by rw [BT.flat_eq]; simp)
    have hnd := hs.each _ hn
    have hbl : ∀ g ∈ Nd.bl ⟨b, vm, vc, ms, ksOf cs⟩, g ∉ X := fun g hg => hs.out g (List.mem_flatMap.2 ⟨_, hn, hg⟩)
    have hml : ms.length ≤ (Tr.mk (b, vm, vc) ms cs).paths.length := ms_len (s := .mk (b, vm, vc) ms cs)
    have hcl : cs.length ≤ (Tr.mk (b, vm, vc) ms cs).paths.length := cs_len hwf
    have hkid : ∃ d, ∀ p ∈ cs, (kSt d).is w X [.pointer (some ⟨BT.b p.2, 0, none⟩)] p.2.erase := by
      have hk : ∀ p ∈ cs, ∃ d, (kSt d).is w X [.pointer (some ⟨BT.b p.2, 0, none⟩)] p.2.erase := fun p hp => ih p hp (fun n hnn => hin n (by rw [BT.flat_eq]; exact List.mem_cons_of_mem _ (flat_kid hp n hnn))) (s6 p hp) (Nat.le_trans (Nat.mul_le_mul_right 40 (kid_len' hp)) hlen)
      clear ih hin hwf s3 s4 s5 s6 hn hnd hbl hcl hml hlen s1 s2
      induction cs with
      | nil => exact ⟨0, by simp⟩
      | cons p cs ihc =>
        obtain ⟨d1, h1⟩ := ihc (fun q hq => hk q (by simp [hq]))
        obtain ⟨d2, h2⟩ := hk p (by simp)
        refine ⟨max d1 d2, fun q hq => ?_⟩
        rcases List.mem_cons.1 hq with rfl | hq
        · exact (kSt_le (Nat.le_max_right d1 d2)).2 h2
        · exact (kSt_le (Nat.le_max_left d1 d2)).2 (h1 q hq)
    obtain ⟨d, hd⟩ := hkid
    obtain ⟨r1, m1, m2⟩ := hnd.ms
    obtain ⟨r2, k1, k2⟩ := hnd.ks
    have hrm : Row kPe 89 w X vm ms := ⟨r1, m1, m2.imp fun _ _ h => kPe.mv h ((Mv.refl _ _).less fun g hg => by
      rcases List.mem_append.1 hg with hg | hg
      · exact List.mem_append_left _ (List.mem_flatMap.2 ⟨_, hn, by simp [Nd.bl, hg]⟩)
      · exact List.mem_append_right _ hg), fun g hg => hbl g (by simp [Nd.bl, vb, hg])⟩
    have hrk : Row kBk 183 w X vc (ksOf cs) := ⟨r2, k1, k2.imp fun _ _ h => kBk.mv h ((Mv.refl _ _).less fun g hg => by
      rcases List.mem_append.1 hg with hg | hg
      · exact List.mem_append_left _ (List.mem_flatMap.2 ⟨_, hn, by simp [Nd.bl, hg]⟩)
      · exact List.mem_append_right _ hg), fun g hg => hbl g (by simp [Nd.bl, vb, hg])⟩
    refine ⟨d + 1, b, vm, vc, rfl, hbl b (by simp [Nd.bl]), cells_of hnd.cell 0, cells_of hnd.cell 1, ?_, ?_⟩
    · rw [Tr.erase_eq]
      exact hrm.isSl (Nat.le_trans (Nat.mul_le_mul hml (by decide : 32 ≤ 40)) hlen)
    · rw [Tr.erase_eq]
      obtain ⟨o, c, b2, off, rfl, l2, l3, l4, l5⟩ := (hrk.isSl (bytes := 40) (by simp only [ksOf, List.length_map]; exact Nat.le_trans (Nat.mul_le_mul_right 40 hcl) hlen)).ex
      simp only [Tr.cs]
      have hkl : (ksOf cs).length = cs.length := by simp [ksOf]
      refine ⟨o, c, b2, off, by simp [ksOf], by simpa [ksOf] using l2, by simpa [ksOf] using l3, fun hp => l4 (by simpa [ksOf] using hp), fun i hi => ?_⟩
      have hi' : i < cs.length := by simpa using hi
      obtain ⟨ds, h1, pc, rfl, h2⟩ := l5 i (by rw [hkl]; exact hi')
      rw [kNd_size]
      refine ⟨_, h1, pc, [_], rfl, ?_, ?_⟩
      · have e : (ksOf cs)[i]'(by rw [hkl]; exact hi') = (cs[i].1, BT.b cs[i].2) := by simp [ksOf]
        rw [e] at h2
        rw [List.getElem_map]
        exact h2
      · have e : (ksOf cs)[i]'(by rw [hkl]; exact hi') = (cs[i].1, BT.b cs[i].2) := by simp [ksOf]
        rw [List.getElem_map, e]
        exact hd _ (List.getElem_mem hi')

end Go.Proofs.YtihapgangilncaaGreat
