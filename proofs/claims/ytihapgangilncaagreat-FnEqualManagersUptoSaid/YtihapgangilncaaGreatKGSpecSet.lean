/- spec.SetOf: the reference's set of paths. -/
import Derived.Test.YtihapgangilncaaGreatKGToSet
import Derived.Test.YtihapgangilncaaGreatKGUniP
import Derived.Test.YtihapgangilncaaGreatKGFromS
namespace Go.Proofs.YtihapgangilncaaGreat
open Go.RowKit
set_option linter.unusedSimpArgs false

section
variable {P : Program}
theorem wp_copy0 {w : World} {o : Oper} {a : Act} {K : Act → World → Prop} {Q : Exit → Act → World → Prop} (d s : Operand) (dT sT : TypeId)
    (ho : o.op = .call { callee := .builtin .copy, args := #[d, s], argTypes := #[dT, sT] }) {elem : TypeId} (hu : P.underlying dT = some (.slice elem)) {sz : Nat} (hs : (P.info? elem).map (·.size) = some sz)
    {dp sp : Option Addr} {dLen dCap sLen sCap : Nat} (hd : a.eval d = .slice dp dLen dCap) (hsv : a.eval s = .slice sp sLen sCap) (hn : Nat.min sLen dLen = 0)
    (h : K (a.put o.dst (goInt 0)) w) : o.wp P a w K Q := by
  have hrun : (Builtin.copy_ #[dT, sT] o.type #[.slice dp dLen dCap, .slice sp sLen sCap]).run P w = .ok (goInt 0) w := by
    cases hq : P.info? elem with
    | none => simp [hq] at hs
    | some i =>
      have hl : ∀ (x : Addr), (loadCells x 0).run P w = .ok #[] w := fun x => by simpa using run_loadCells_list (P := P) w x [] (by simp)
      cases dp <;> cases sp <;> simp [Builtin.copy_, run_underlying hu, Builtin.lenOf, Builtin.firstCells, sizeOf, typeInfo, hq, hn, storeCells, hl]
  unfold Oper.wp
  simp [execOp, ho, resolve, invoke, builtin, hd, hsv, hrun, Result.andThen]
  exact h
end
theorem wc_map {α β : Type} {d : β → β → Int} {f : α → β} {g : α → β} {q : List β} : ∀ {p : List α}, (∀ x ∈ p, ∀ y, d (f x) y = d (g x) y) → wc d (p.map f) q = wc d (p.map g) q := by
  induction q with
  | nil => intro p _; cases p <;> simp [wc]
  | cons y q ih =>
    intro p h
    cases p with
    | nil => simp [wc]
    | cons x p =>
      have h1 := h x (by simp) y
      have h2 := ih (p := p) (fun z hz => h z (by simp [hz]))
      have h3 : fl (p.map f) q = fl (p.map g) q := by cases p <;> cases q <;> rfl
      simp only [List.map_cons, wc, h1, h2, h3]
theorem wE_back {p : List PEl} (hp : ∀ x ∈ p, FromEl x) (q : List EL) : wE (p.map backE) q = wc cmpPe p (q.map toE) := by
  unfold wE
  rw [List.map_map]
  have := wc_map (d := cmpPe) (f := toE ∘ backE) (g := id) (q := q.map toE) (p := p) (fun x hx y => cmpPe_back (hp x hx) y)
  simpa using this

/-- the set of the paths of l, in the order of a walk -/
def setStep (s : List (List PEl)) (p : List PEl) : List (List PEl) := if p.length = 0 then s else insC (wc cmpPe) s p
def setOf (l : List (List PEl)) : List (List PEl) := l.foldl setStep []
theorem setOf_snoc (l : List (List PEl)) (p : List PEl) : setOf (l ++ [p]) = setStep (setOf l) p := by simp [setOf]
theorem setOf_facts {G : PEl → Prop} (ho : Cmpr cmpPe G) {l : List (List PEl)} (hG : ∀ p ∈ l, GP G p) : SrtC (wc cmpPe) (setOf l) ∧ (∀ p ∈ setOf l, p ∈ l) ∧ (setOf l).length ≤ l.length ∧ (∀ q, GP G q → (hasC (wc cmpPe) (setOf l) q ↔ ∃ p ∈ l, p ≠ [] ∧ wc cmpPe p q = 0)) ∧ ∀ p ∈ setOf l, p ≠ [] := by
  induction l using snoc_ind with
  | h0 => exact ⟨by simp [setOf, SrtC], by simp [setOf], by simp [setOf], by simp [setOf, hasC], by simp [setOf]⟩
  | h1 l p ih =>
    obtain ⟨h1, h2, h3, h4, h5⟩ := ih (fun x hx => hG x (by simp [hx]))
    have hp := hG p (by simp)
    have hs : ∀ x ∈ setOf l, GP G x := fun x hx => hG x (by simp [h2 x hx])
    rw [setOf_snoc]
    unfold setStep
    by_cases h0 : p.length = 0
    · have hp0 := List.eq_nil_of_length_eq_zero h0
      rw [if_pos h0]
      refine ⟨h1, fun x hx => by simp [h2 x hx], by simp; omega, fun q hq => ?_, h5⟩
      rw [h4 q hq]
      simp [or_and_right, exists_or, hp0]
    · have hp0 : p ≠ [] := fun e => h0 (by simp [e])
      rw [if_neg h0]
      refine ⟨insC_srt (wc_ord ho) h1 hs hp, fun x hx => ?_, Nat.le_trans insC_len (by simp; omega), fun q hq => ?_, fun x hx => ?_⟩
      · rcases insC_mem hx with e | e
        · simp [e]
        · simp [h2 x e]
      · rw [insC_has (wc_ord ho) hp hq hs, h4 q hq]
        simp only [List.mem_append, List.mem_singleton, or_and_right, exists_or, exists_eq_left]
        simp [hp0]
      · rcases insC_mem hx with e | e
        · rw [e]; exact hp0
        · exact h5 x e

theorem row_shift {α : Type} {k : Kind α} {e : TypeId} {w11 : World} {X : List Nat} {g cap n j : Nat} {cur fin : Array Value} {V : List Value} {rows : List (List Value)} {us : List α} {u : α} (hn : us.length = n) (hall : All2 (k.is w11 (g :: X)) rows us) (hx : cur.toList.take (n * k.size) = rows.flatten) (hj : j ≤ n) (hV : k.is w11 (g :: X) V u)
    (hcz : cur.size = cap * k.size) (hnc : n + 1 ≤ cap) (hcm : cap ≤ maxLen) (hgX : g ∉ X) (h11 : w11.heap[g]? = some (.cells fin e (0, 0)))
    (hfin : fin.toList = (cur.toList.take (j * k.size + k.size) ++ rows.flatten.drop (j * k.size) ++ cur.toList.drop (j * k.size + k.size + (rows.flatten.drop (j * k.size)).length)).take (j * k.size) ++ V ++ (cur.toList.take (j * k.size + k.size) ++ rows.flatten.drop (j * k.size) ++ cur.toList.drop (j * k.size + k.size + (rows.flatten.drop (j * k.size)).length)).drop (j * k.size + V.length)) :
    Row k e w11 X (.slice (some ⟨g, 0, none⟩) (n + 1) cap) (us.take j ++ u :: us.drop j) := by
  have hcl : cur.toList.length = cap * k.size := by rw [Array.length_toList]; exact hcz
  have hVl : V.length = k.size := k.len hV
  have hmn := Nat.mul_le_mul_right k.size hnc
  rw [Nat.succ_mul] at hmn
  have hsl := shift_list (cur := cur.toList) (xs := rows.flatten) (V := V) (a := j * k.size) (L := n * k.size) (s := k.size) hx (Nat.mul_le_mul_right k.size hj) hVl (by rw [hcl]; omega)
  rw [← hfin] at hsl
  have hml := All2.mem_len (s := k.size) (fun r a h => k.len h) hall
  have hrl := hall.length
  refine ⟨rows.take j ++ V :: rows.drop j, ?_, ?_, ?_⟩
  · have e1 : (us.take j ++ u :: us.drop j).length = n + 1 := by simp; omega
    have e2 : (rows.take j ++ V :: rows.drop j).flatten = rows.flatten.take (j * k.size) ++ V ++ rows.flatten.drop (j * k.size) := by
      rw [flat_take j hml, flat_drop j hml]; simp
    rw [e1, e2]
    refine ⟨?_, .inr ⟨g, cap, fin, rfl, Nat.zero_le _, h11, hnc, hcm, ?_, ?_⟩⟩
    · have hfl : rows.flatten.length = n * k.size := by rw [flat_len hml, hrl, hn]
      have := Nat.mul_le_mul_right k.size hj
      simp only [List.length_append, List.length_take, List.length_drop, hVl, hfl]
      rw [Nat.succ_mul]
      omega
    · rw [← Array.length_toList, hsl.2, hcl]
    · rw [Nat.succ_mul]
      exact hsl.1
  · simp only [vb, Value.ownBlock, Option.toList_some, List.singleton_append]
    exact (hall.take j).glue (.cons hV (hall.drop j))
  · intro g' hg'
    simp only [Value.ownBlock, Option.some.injEq] at hg'
    subst hg'
    exact hgX
/-- a row whose last place is free -/
theorem Row.open' {α : Type} {k : Kind α} {e : TypeId} {w : World} {X : List Nat} {v : Value} {us : List α} {z : α} (h : Row k e w X v (us ++ [z])) : ∃ g cap cur, ∃ rows : List (List Value), v = .slice (some ⟨g, 0, none⟩) (us.length + 1) cap ∧ g ∉ X ∧ w.heap[g]? = some (.cells cur e (0, 0)) ∧ us.length + 1 ≤ cap ∧ cap ≤ maxLen ∧ cur.size = cap * k.size ∧
    All2 (k.is w (g :: X)) rows us ∧ cur.toList.take (us.length * k.size) = rows.flatten := by
  obtain ⟨rows, hown, hall, hnx⟩ := h.ex
  have hlen : (us ++ [z]).length = us.length + 1 := by simp
  rw [hlen] at hown
  have hrl := hall.length
  rw [hlen] at hrl
  have hml := All2.mem_len (s := k.size) (fun r a h => k.len h) hall
  rcases hown.2 with ⟨rfl, e2⟩ | ⟨g, cap, cur, rfl, -, hg, hnc, hcm, hcz, hct⟩
  · omega
  · refine ⟨g, cap, cur, rows.take us.length, rfl, hnx g rfl, hg, hnc, hcm, hcz, ?_, ?_⟩
    · have := hall.take us.length
      rw [List.take_left] at this
      simpa [vb, Value.ownBlock] using this
    · rw [← flat_take us.length hml]
      rw [← hct, List.take_take]
      congr 1
      exact (Nat.min_eq_left (Nat.mul_le_mul_right k.size (Nat.le_succ _))).symm

theorem mono_C {α : Type} {c : α → α → Int} {G : α → Prop} (ho : Cmpr c G) {us : List α} {t : α} (hs : SrtC c us) (hG : ∀ x ∈ us, G x) (ht : G t) : ∀ i j (hi : i < us.length) (hj : j < us.length), i ≤ j → c us[j] t < 0 → c us[i] t < 0 := by
  intro i j hi hj hij h
  by_cases e : i = j
  · subst e; exact h
  · exact ho.lt_tr (hG _ (List.getElem_mem hi)) (hG _ (List.getElem_mem hj)) ht (List.pairwise_iff_getElem.1 hs i j hi hj (by omega)) h
theorem wE_at {us : List (List PEl)} (hf : ∀ x ∈ us, ∀ e ∈ x, FromEl e) (p : List EL) {j : Nat} (h : j < (us.map (·.map backE)).length) : wE ((us.map (·.map backE))[j]'h) p = wc cmpPe (us[j]'(by simpa using h)) (p.map toE) := by
  rw [List.getElem_map]
  exact wE_back (hf _ (List.getElem_mem _)) p
theorem place_ins {us : List (List PEl)} (hf : ∀ x ∈ us, ∀ e ∈ x, FromEl e) {p : List EL} {i : Nat} (h : AtP (us.map (·.map backE)) p i) : insC (wc cmpPe) us (p.map toE) = if hasAtC wE (us.map (·.map backE)) p i then us else us.take i ++ p.map toE :: us.drop i := by
  have hi : i ≤ us.length := by simpa using h.1
  have e : hasAtC (wc cmpPe) us (p.map toE) i = hasAtC wE (us.map (·.map backE)) p i := by
    unfold hasAtC
    by_cases hl : i < us.length
    · rw [List.getElem?_eq_getElem hl, List.getElem?_eq_getElem (by simpa using hl)]
      simp only [wE_at hf p (show i < (us.map (·.map backE)).length by simpa using hl)]
    · rw [List.getElem?_eq_none (by omega), List.getElem?_eq_none (by simp; omega)]
  rw [← e]
  refine insC_at hi (fun j hj hji => ?_) (fun j hj hij => ?_)
  · have := h.2.1 j (by simpa using hj) hji
    rwa [wE_at hf] at this
  · have := h.2.2 j (by simpa using hj) hij
    rwa [wE_at hf] at this

set_option maxRecDepth 100000 in
set_option maxHeartbeats 16000000 in
set_option pp.maxSteps 1000000 in
set_option pp.deepTerms true in
theorem specSetOf_c {G : PEl → Prop} (ho : Cmpr cmpPe G) (hGb : ∀ x, G x → FromEl x) {w : World} {X : List Nat} {lv : Value} {l : List (List EL)} (hl : IsSl kPth 24 w X lv l) (hX : Old X w) (hG : ∀ p ∈ l, GP G (p.map toE)) (hbytes : (l.length + 1) * 24 ≤ 140737488351232)
    (R : Ending → World → Prop) (hR : ∀ w' v', Ext w w' → IsSl kPth 24 w' X v' ((setOf (l.map (·.map toE))).map (·.map backE)) → R (.returned v') w') :
    Calls Tryz.prog 18 #[lv] w R := by
  obtain ⟨o, c, b, off, rfl, l2, l3, l4, l5⟩ := id hl.ex
  have l4' := Lib.hid l4
  have l5' := Lib.hid l5
  have hX' := Lib.hid hX
  have hG' := Lib.hid hG
  have hGb' := Lib.hid hGb
  have hR' := Lib.hid hR
  have hbytes' := Lib.hid hbytes
  have ho' : Hid (Cmpr cmpPe G) := Lib.hid ho
  have hmb : (l.length : Int) ≤ 140737488351232 := by omega
  clear hR hX hl l4 l5 hG hGb hbytes l2 l3 ho
  go_enter Tryz.func18, Tryz.ntmps18
  go_wp2_with fail
  have hrow0 : Hid (Row kPth 22 w X (.slice none 0 0) ((setOf ((l.take 0).map (·.map toE))).map (·.map backE))) := Lib.hid (Row.nil _ _ _ _)
  go_loopw [3, 5, 6, 7, 10] (fun v _ _ _ i wr => ∃ k : Nat, k ≤ l.length ∧ i = .int .i64 k ∧ Ext w wr ∧ Hid (∀ g, v.ownBlock = some g → w.heap.size ≤ g) ∧ Hid (Row kPth 22 wr X v ((setOf ((l.take k).map (·.map toE))).map (·.map backE)))) (fun _ _ _ _ i _ => l.length - (intOf i).toNat)
  case atStart => exact ⟨0, Nat.zero_le _, rfl, Ext.refl _, Lib.hid (fun g hg => by simp [Value.ownBlock] at hg), hrow0⟩
  case round =>
    obtain ⟨k, hk, rfl, hEr, hgv, hrow⟩ := hrel
    rename World => wr
    clear hrow0
    by_cases hlt : k < l.length
    · obtain ⟨cs, hc, hcs⟩ := l5'.out k hlt
      obtain ⟨rfl, -⟩ := l4'.out (by omega)
      obtain ⟨pv, rfl, hpv⟩ := hcs
      have x0 := hEr.keep (hc 0 (by decide))
      simp only [show kPth.size = 1 from rfl, Nat.add_zero, Nat.mul_one, List.getElem?_cons_zero] at x0
      have hi1 : (k : Int) < (l.length : Int) := by omega
      have hkm : (k : Int) + 1 ≤ 9223372036854775807 := by omega
      have htk := Lib.hid (show (l.take (k + 1)).map (·.map toE) = (l.take k).map (·.map toE) ++ [(l[k]'hlt).map toE] by rw [List.take_succ_eq_append_getElem hlt, List.map_append]; rfl)
      have hGk := Lib.hid (hG'.out _ (List.getElem_mem hlt))
      have hfx := setOf_facts ho'.out (l := (l.take k).map (·.map toE)) (fun x hx => by
        obtain ⟨e, he, rfl⟩ := List.mem_map.1 hx
        exact hG'.out e (List.mem_of_mem_take he))
      have hlk : ((l.take k).map (·.map toE)).length = k := by rw [List.length_map, List.length_take]; omega
      rw [hlk] at hfx
      obtain ⟨p, hp⟩ : ∃ p, l[k]'hlt = p := ⟨_, rfl⟩
      rw [hp] at htk hGk hpv
      obtain ⟨us, hus⟩ : ∃ us, setOf ((l.take k).map (·.map toE)) = us := ⟨_, rfl⟩
      have hGus : ∀ x ∈ us, GP G x := fun x hx => by
        rw [← hus] at hx
        obtain ⟨e, he, rfl⟩ := List.mem_map.1 (hfx.2.1 x hx)
        exact hG'.out e (List.mem_of_mem_take he)
      rw [hus] at hfx hrow
      have hpv0 := Lib.hid hpv
      have hpv' := Lib.hid (hpv.mv (hEr.mv X) (by decide))
      obtain ⟨po, pc, pb, poff, rfl, p2, p3, p4, p5⟩ := id hpv.ex
      have hus' := Lib.hid hus
      have hfx' := Lib.hid hfx
      have hGus' := Lib.hid hGus
      clear hc hp hus hfx hGus hpv p4 p5 hlk
      by_cases hp0 : p.length = 0
      · have hpI : ((p.length : Int) == 0) = true := by rw [beq_iff_eq]; omega
        have hst : Hid (setStep us (p.map toE) = us) := Lib.hid (by unfold setStep; rw [if_pos (by simpa using hp0)])
        clear p2 p3
        go_wp2_with fail
        refine ⟨⟨k + 1, by omega, by go_num, hEr, hgv, Lib.hid (by rw [htk.out, setOf_snoc, hus'.out, hst.out]; exact hrow.out)⟩, by simp [intOf]; omega⟩
      · have hpI : ((p.length : Int) == 0) = false := by rw [beq_eq_false_iff_ne]; omega
        have hst : Hid (setStep us (p.map toE) = insC (wc cmpPe) us (p.map toE)) := Lib.hid (by unfold setStep; rw [if_neg (by simpa using hp0)])
        clear p2 p3
        go_wp2_with fail
        have hfr := Lib.hid (show ∀ x ∈ us, ∀ e ∈ x, FromEl e from fun x hx e he => hGb'.out e (hGus'.out x hx e he))
        have hml : (us.map (·.map backE)).length = us.length := List.length_map ..
        have hrs := hrow.out.isSl (bytes := 24) (by rw [hml]; have := hfx'.out.2.2.1; have := hbytes'.out; omega)
        have hmo := mono_C (wc_ord ho'.out) hfx'.out.1 hGus'.out hGk.out
        refine place_c hrs hpv'.out (fun i j hi hj hij hlt2 => ?_) _ ?_
        · rw [wE_at hfr.out] at hlt2 ⊢
          exact hmo i j _ _ hij hlt2
        intro w2 i hE2 hat
        have hins := place_ins hfr.out hat
        have hin : i ≤ us.length := by have := hat.1; rw [hml] at this; exact this
        obtain ⟨fb, hfb⟩ : ∃ q, hasAtC wE (us.map (·.map backE)) p i = q := ⟨_, rfl⟩
        rw [hfb] at hins ⊢
        rw [hins] at hst
        have hEw2 := Lib.hid (hEr.trans hE2)
        have hE2' := Lib.hid hE2
        clear hmo hrs hat hfb hins hE2 hml
        dsimp only
        cases fb
        · have hst2 := Lib.hid (show setStep us (p.map toE) = us.take i ++ p.map toE :: us.drop i from hst.out.trans (if_neg (by simp)))
          obtain ⟨n, hn⟩ : ∃ n, us.length = n := ⟨_, rfl⟩
          have hlm' : Hid ((us.map (·.map backE)).length = n) := Lib.hid (by rw [List.length_map, hn])
          have hnk : n ≤ k := by rw [← hn]; exact hfx'.out.2.2.1
          have hXz := Lib.hid (hX'.out.le hEw2.out.size)
          have hnb := Lib.hid (show (n + 1) * 24 ≤ 140737488355328 from Nat.le_trans (Nat.mul_le_mul_right 24 (Nat.succ_le_succ (Nat.le_trans hnk hk))) (Nat.le_trans hbytes'.out (by decide)))
          rw [hn] at hin
          have hn' := Lib.hid hn
          clear hn hst
          go_wp2_with (at_builtin; refine wpL_rowApp (c := #[.slice none 0 0]) (u := []) rfl hrow.out hE2'.out hXz.out ⟨_, rfl, IsSl.nil _ _ _ _⟩ _ _ _ rfl Tryz.underlying24 Tryz.info22 rfl (by decide) rfl rfl (by rw [hlm'.out]; exact hnb.out) (by rw [hlm'.out, maxLen_eq]; omega) ?_; intro v8 w8 hr8 hg8 hne8 hd8; have hr8' := Lib.hid hr8; have hg8' := Lib.hid hg8; have hd8' := Lib.hid hd8; clear hr8 hg8 hne8 hd8)
          obtain ⟨g, cap, cur, rows, hv8, hgX, hgb, hnc, hcm, hcz, hall, htkc⟩ := hr8'.out.open'
          rw [hlm'.out] at hv8 hnc htkc
          subst hv8
          have hgw : w.heap.size ≤ g := by
            rcases hd8'.out g rfl with h | h
            · exact hgv.out g h
            · exact Nat.le_trans hEw2.out.size h
          have hEw8 : Ext w w8 := hEw2.out.grown hg8'.out hgv.out
          have hpo8 := hpv0.out.one
          have hcz1 : cur.size = cap := by rw [hcz]; exact Nat.mul_one cap
          have htk1 : cur.toList.take n = rows.flatten := by rw [← htkc]; congr 1; exact (Nat.mul_one n).symm
          have hrl : rows.flatten.length = n := by
            rw [flat_len (All2.mem_len (s := 1) (fun r a h => kPth.len h) hall), hall.length, hlm'.out, Nat.mul_one]
          have hro : ∀ y ∈ rows.flatten, y.oneCell' = true := Row.flat hall
          have hsz1 : (Tryz.prog.info? 22).map (·.size) = some 1 := by kernel_rfl
          have hw47 : IntKind.i64.wrap ((i : Int) + 1) = (i : Int) + 1 := IntWalk.i64_in _ (by omega)
          have b3 : (i : Int) + 1 ≤ (n : Int) + 1 := by omega
          have b4 : (0 : Int) ≤ (i : Int) + 1 := by omega
          have b5 : (i : Int) ≤ (n : Int) + 1 := by omega
          have b6 : (i : Int) ≤ (n : Int) := by omega
          have b9 : ((i : Int) + 1).toNat = i + 1 := by omega
          have b8 : ¬ cap = i := by omega
          have hEw8' := Lib.hid hEw8
          have hgb' := Lib.hid hgb
          have hcm' := Lib.hid hcm
          have hcz' := Lib.hid hcz1
          have hall' := Lib.hid hall
          have htk' := Lib.hid htk1
          have hrl' := Lib.hid hrl
          have hro' := Lib.hid hro
          have hgX' := Lib.hid hgX
          clear hEw8 hgb hcm hcz hcz1 hall htkc htk1 hrl hro hr8' hd8' hg8' hgX
          by_cases hlast : i = n
          · subst hlast
            by_cases hcn : cap = i + 1
            · subst hcn
              refine wp_region_script [0, 1, 2, 3, 4, 5, 6] [] (fun w' => Ext w8 w') [(.pure, 0), (.pure, 1), (.pure, 2), (.pure, 3), (.pure, 4), (.pure, 5), (.pure, 6), (.one, 7)] (by kernel_rfl) (by kernel_rfl) ?_
              iterate 7 (apply scr_pure'; (· rfl); (· rfl); (· (intro w'; go_simp; try rfl)); (· (simp [go_sem]; try rfl)))
              refine scr_one rfl rfl (fun K hK => ?_)
              refine wp_copy0 _ _ _ _ rfl Tryz.underlying24 hsz1 (dp := some ⟨g, 0, none⟩) (dCap := 0) (sp := some ⟨g, i, none⟩) (sCap := 1) (dLen := 0) (sLen := 1) (by go_simp; try rfl) (by go_simp; try rfl) (by simp) ?_
              refine hK _ _ (fun h => by simp at h) ?_
              clear hK
              refine scr_end ?_
              simp only [Exit.then]
              obtain ⟨w9, hw9⟩ : ∃ w9, w8.drew = w9 := ⟨_, rfl⟩
              have h9 : w9.heap[g]? = some (.cells cur 22 (0, 0)) := by rw [← hw9]; exact hgb'.out
              have hE9 : Ext w w9 := by rw [← hw9]; exact hEw8'.out.drew
              have hmv9 : Mv w8 (g :: X) w9 (g :: X) := by rw [← hw9]; exact (Mv.refl w8 (g :: X)).ext (Ext.refl w8).drew
              rw [hw9]
              obtain ⟨fin1, hfin1⟩ : ∃ f : Array Value, cur = f := ⟨_, rfl⟩
              have hf9 : fin1.toList = cur.toList.take (i + 1) ++ rows.flatten.drop i ++ cur.toList.drop (i + 1 + (rows.flatten.drop i).length) := by
                rw [← hfin1, List.drop_eq_nil_of_le (by rw [hrl'.out]; exact Nat.le_refl _)]
                simp
              rw [hfin1] at h9
              clear hfin1 hw9
              have hgl9 := (Array.getElem?_eq_some_iff.1 h9).1
              have h9' := Lib.hid h9
              have hf9' := Lib.hid hf9
              have hE9' := Lib.hid hE9
              have hmv9' := Lib.hid hmv9
              have hbp := hpv0.out
              obtain ⟨-, -, -, -, -, -, hbp, -, -⟩ := hbp.ex
              clear h9 hf9 hE9 hmv9
              go_wp2_with fail
              refine cleanPath_c (X := g :: X) (hpv0.out.mv ((hE9'.out.mv X).more hgw) (by decide)) (Old.cons hgl9 (hX'.out.le hE9'.out.size)) hbp _ ?_
              intro w10 qv hE10 hq
              obtain ⟨qo, qc, -, -, hqv, -⟩ := id hq.ex
              rw [List.length_map] at hqv
              subst hqv
              have hq' := Lib.hid hq
              have h10 := Lib.hid ((hE10.below.block g hgl9).trans h9'.out)
              have hE10' := Lib.hid hE10
              have hif : i < fin1.size := by
                have := congrArg List.length hf9'.out
                rw [Array.length_toList] at this
                simp only [List.length_append, List.length_take, List.length_drop, Array.length_toList, hcz'.out, hrl'.out] at this
                omega
              have hif' := Lib.hid hif
              clear hq hE10 hif hbp
              dsimp only
              go_wp2_with (refine wpL_storeC rfl 22 _ _ rfl Tryz.info22 (b := g) (off := i) (v := .slice qo p.length qc) (new := fin1.setIfInBounds i (.slice qo p.length qc)) rfl rfl rfl h10.out hif'.out rfl ?_; intro w11 h11 g11; have h11' := Lib.hid h11; have g11' := Lib.hid g11; clear h11 g11)
              refine ⟨⟨k + 1, by omega, by go_num, ?_, ?_, Lib.hid ?_⟩, by simp [intOf]; omega⟩
              · exact (hE9'.out.trans hE10'.out).grown g11'.out (fun k hk => by cases hk; exact hgw)
              · exact Lib.hid fun g' hg' => by
                  simp only [Value.ownBlock, Option.some.injEq] at hg'
                  omega
              · have hmv11 : Mv w8 (g :: X) w11 (g :: X) := (hmv9'.out.ext hE10'.out).grown g11'.out (fun k hk => by cases hk; simp)
                have hrs := row_shift (k := kPth) (e := 22) (w11 := w11) (X := X) (g := g) (cap := i + 1) (n := i) (j := i) (cur := cur) (fin := fin1.setIfInBounds i (.slice qo p.length qc)) (V := [.slice qo p.length qc]) (rows := rows) (us := us.map (·.map backE)) (u := p.map cleanEl) hlm'.out (hall'.out.imp fun _ _ h => kPth.mv h hmv11) (by show cur.toList.take (i * 1) = _; rw [Nat.mul_one]; exact htk'.out) hin
                  ⟨_, rfl, hq'.out.mv ((Mv.refl w10 (g :: X)).grown g11'.out (fun k hk => by cases hk; simp)) (by decide)⟩ (by show cur.size = (i + 1) * 1; rw [Nat.mul_one]; exact hcz'.out) hnc hcm'.out hgX'.out h11'.out (by
                    show (fin1.setIfInBounds i (.slice qo p.length qc)).toList = (cur.toList.take (i * 1 + 1) ++ rows.flatten.drop (i * 1) ++ cur.toList.drop (i * 1 + 1 + (rows.flatten.drop (i * 1)).length)).take (i * 1) ++ [.slice qo p.length qc] ++ (cur.toList.take (i * 1 + 1) ++ rows.flatten.drop (i * 1) ++ cur.toList.drop (i * 1 + 1 + (rows.flatten.drop (i * 1)).length)).drop (i * 1 + 1)
                    rw [Nat.mul_one, ← hf9'.out, Array.toList_setIfInBounds, List.set_eq_take_append_cons_drop, if_pos (by rw [Array.length_toList]; exact hif'.out)]
                    simp)
                rw [htk.out, setOf_snoc, hus'.out, hst2.out, List.map_append, List.map_cons, List.map_take, List.map_drop]
                have ec : p.map cleanEl = (p.map toE).map backE := by
                  rw [List.map_map]
                  exact List.map_congr_left fun e _ => cleanEl_back e
                rw [ec] at hrs
                exact hrs
            · have b7 : ¬ cap = i + 1 := hcn
              refine wp_region_script [0, 1, 2, 3, 4, 5, 6] [] (fun w' => Ext w8 w') [(.pure, 0), (.pure, 1), (.pure, 2), (.pure, 3), (.pure, 4), (.pure, 5), (.pure, 6), (.one, 7)] (by kernel_rfl) (by kernel_rfl) ?_
              iterate 7 (apply scr_pure'; (· rfl); (· rfl); (· (intro w'; go_simp; try rfl)); (· (simp [go_sem]; try rfl)))
              refine scr_one rfl rfl (fun K hK => ?_)
              refine wp_copy0 _ _ _ _ rfl Tryz.underlying24 hsz1 (dp := some ⟨g, i + 1, none⟩) (dCap := cap - (i + 1)) (sp := some ⟨g, i, none⟩) (sCap := cap - i) (dLen := 0) (sLen := 1) (by go_simp; try rfl) (by go_simp; try rfl) (by simp) ?_
              refine hK _ _ (fun h => by simp at h) ?_
              clear hK
              refine scr_end ?_
              simp only [Exit.then]
              obtain ⟨w9, hw9⟩ : ∃ w9, w8.drew = w9 := ⟨_, rfl⟩
              have h9 : w9.heap[g]? = some (.cells cur 22 (0, 0)) := by rw [← hw9]; exact hgb'.out
              have hE9 : Ext w w9 := by rw [← hw9]; exact hEw8'.out.drew
              have hmv9 : Mv w8 (g :: X) w9 (g :: X) := by rw [← hw9]; exact (Mv.refl w8 (g :: X)).ext (Ext.refl w8).drew
              rw [hw9]
              obtain ⟨fin1, hfin1⟩ : ∃ f : Array Value, cur = f := ⟨_, rfl⟩
              have hf9 : fin1.toList = cur.toList.take (i + 1) ++ rows.flatten.drop i ++ cur.toList.drop (i + 1 + (rows.flatten.drop i).length) := by
                rw [← hfin1, List.drop_eq_nil_of_le (by rw [hrl'.out]; exact Nat.le_refl _)]
                simp
              rw [hfin1] at h9
              clear hfin1 hw9
              have hgl9 := (Array.getElem?_eq_some_iff.1 h9).1
              have h9' := Lib.hid h9
              have hf9' := Lib.hid hf9
              have hE9' := Lib.hid hE9
              have hmv9' := Lib.hid hmv9
              have hbp := hpv0.out
              obtain ⟨-, -, -, -, -, -, hbp, -, -⟩ := hbp.ex
              clear h9 hf9 hE9 hmv9
              go_wp2_with fail
              refine cleanPath_c (X := g :: X) (hpv0.out.mv ((hE9'.out.mv X).more hgw) (by decide)) (Old.cons hgl9 (hX'.out.le hE9'.out.size)) hbp _ ?_
              intro w10 qv hE10 hq
              obtain ⟨qo, qc, -, -, hqv, -⟩ := id hq.ex
              rw [List.length_map] at hqv
              subst hqv
              have hq' := Lib.hid hq
              have h10 := Lib.hid ((hE10.below.block g hgl9).trans h9'.out)
              have hE10' := Lib.hid hE10
              have hif : i < fin1.size := by
                have := congrArg List.length hf9'.out
                rw [Array.length_toList] at this
                simp only [List.length_append, List.length_take, List.length_drop, Array.length_toList, hcz'.out, hrl'.out] at this
                omega
              have hif' := Lib.hid hif
              clear hq hE10 hif hbp
              dsimp only
              go_wp2_with (refine wpL_storeC rfl 22 _ _ rfl Tryz.info22 (b := g) (off := i) (v := .slice qo p.length qc) (new := fin1.setIfInBounds i (.slice qo p.length qc)) rfl rfl rfl h10.out hif'.out rfl ?_; intro w11 h11 g11; have h11' := Lib.hid h11; have g11' := Lib.hid g11; clear h11 g11)
              refine ⟨⟨k + 1, by omega, by go_num, ?_, ?_, Lib.hid ?_⟩, by simp [intOf]; omega⟩
              · exact (hE9'.out.trans hE10'.out).grown g11'.out (fun k hk => by cases hk; exact hgw)
              · exact Lib.hid fun g' hg' => by
                  simp only [Value.ownBlock, Option.some.injEq] at hg'
                  omega
              · have hmv11 : Mv w8 (g :: X) w11 (g :: X) := (hmv9'.out.ext hE10'.out).grown g11'.out (fun k hk => by cases hk; simp)
                have hrs := row_shift (k := kPth) (e := 22) (w11 := w11) (X := X) (g := g) (cap := cap) (n := i) (j := i) (cur := cur) (fin := fin1.setIfInBounds i (.slice qo p.length qc)) (V := [.slice qo p.length qc]) (rows := rows) (us := us.map (·.map backE)) (u := p.map cleanEl) hlm'.out (hall'.out.imp fun _ _ h => kPth.mv h hmv11) (by show cur.toList.take (i * 1) = _; rw [Nat.mul_one]; exact htk'.out) hin
                  ⟨_, rfl, hq'.out.mv ((Mv.refl w10 (g :: X)).grown g11'.out (fun k hk => by cases hk; simp)) (by decide)⟩ (by show cur.size = cap * 1; rw [Nat.mul_one]; exact hcz'.out) hnc hcm'.out hgX'.out h11'.out (by
                    show (fin1.setIfInBounds i (.slice qo p.length qc)).toList = (cur.toList.take (i * 1 + 1) ++ rows.flatten.drop (i * 1) ++ cur.toList.drop (i * 1 + 1 + (rows.flatten.drop (i * 1)).length)).take (i * 1) ++ [.slice qo p.length qc] ++ (cur.toList.take (i * 1 + 1) ++ rows.flatten.drop (i * 1) ++ cur.toList.drop (i * 1 + 1 + (rows.flatten.drop (i * 1)).length)).drop (i * 1 + 1)
                    rw [Nat.mul_one, ← hf9'.out, Array.toList_setIfInBounds, List.set_eq_take_append_cons_drop, if_pos (by rw [Array.length_toList]; exact hif'.out)]
                    simp)
                rw [htk.out, setOf_snoc, hus'.out, hst2.out, List.map_append, List.map_cons, List.map_take, List.map_drop]
                have ec : p.map cleanEl = (p.map toE).map backE := by
                  rw [List.map_map]
                  exact List.map_congr_left fun e _ => cleanEl_back e
                rw [ec] at hrs
                exact hrs
          · have hlt9 : i < n := by omega
            have b7 : ¬ cap = i + 1 := by omega
            refine wp_region_script [0, 1, 2, 3, 4, 5, 6] [] (fun w' => Ext w8 w') [(.pure, 0), (.pure, 1), (.pure, 2), (.pure, 3), (.pure, 4), (.pure, 5), (.pure, 6), (.one, 7)] (by kernel_rfl) (by kernel_rfl) ?_
            iterate 7 (apply scr_pure'; (· rfl); (· rfl); (· (intro w'; go_simp; try rfl)); (· (simp [go_sem]; try rfl)))
            refine scr_one rfl rfl (fun K hK => ?_)
            have hgc : ∀ j y, rows.flatten[j]? = some y → w8.drew.cell? ⟨g, j, none⟩ = some y := fun j y hj => by
              rw [cells_of (w := w8.drew) (b := g) hgb'.out]
              rw [← htk'.out, List.getElem?_take] at hj
              split at hj
              · simpa using hj
              · cases hj
            refine wp_copyN _ _ _ _ rfl Tryz.underlying24 hsz1 (off := i + 1) (dLen := n - i) (dCap := cap - (i + 1)) (ad := ⟨g, i, none⟩) (sLen := n + 1 - i) (sCap := cap - i) (by go_simp; try rfl) (by go_simp; try rfl) (cur := cur) (t := 22) hgb'.out (rows.flatten.drop i) (by rw [List.length_drop, hrl'.out, Nat.mul_one]; simp only [Nat.min_def]; split <;> omega)
              (fun j y hj => by
                have e1 : (⟨g, i, none⟩ : Addr).add j = ⟨g, i + j, none⟩ := by unfold Addr.add; split <;> simp_all
                rw [e1]
                exact hgc _ _ (by rwa [List.getElem?_drop] at hj))
              (by rw [List.length_drop, hrl'.out, hcz'.out]; omega) (fun y hy => hro'.out y (List.mem_of_mem_drop hy)) ?_
            intro w9 h9 g9
            refine hK _ _ (fun h => by simp at h) ?_
            clear hK hgc
            refine scr_end ?_
            simp only [Exit.then]
            obtain ⟨fin1, hfin1⟩ : ∃ f : Array Value, (cur.toList.take (i + 1) ++ rows.flatten.drop i ++ cur.toList.drop (i + 1 + (rows.flatten.drop i).length)).toArray = f := ⟨_, rfl⟩
            rw [hfin1] at h9
            have hf9 : fin1.toList = cur.toList.take (i + 1) ++ rows.flatten.drop i ++ cur.toList.drop (i + 1 + (rows.flatten.drop i).length) := by rw [← hfin1]
            have hE9 : Ext w w9 := hEw8'.out.drew.grown g9 (fun k hk => by cases hk; exact hgw)
            have hmv9 : Mv w8 (g :: X) w9 (g :: X) := ((Mv.refl w8 (g :: X)).ext (Ext.refl w8).drew).grown g9 (fun k hk => by cases hk; simp)
            clear hfin1 g9
            have hgl9 := (Array.getElem?_eq_some_iff.1 h9).1
            have h9' := Lib.hid h9
            have hf9' := Lib.hid hf9
            have hE9' := Lib.hid hE9
            have hmv9' := Lib.hid hmv9
            have hbp := hpv0.out
            obtain ⟨-, -, -, -, -, -, hbp, -, -⟩ := hbp.ex
            clear h9 hf9 hE9 hmv9
            go_wp2_with fail
            refine cleanPath_c (X := g :: X) (hpv0.out.mv ((hE9'.out.mv X).more hgw) (by decide)) (Old.cons hgl9 (hX'.out.le hE9'.out.size)) hbp _ ?_
            intro w10 qv hE10 hq
            obtain ⟨qo, qc, -, -, hqv, -⟩ := id hq.ex
            rw [List.length_map] at hqv
            subst hqv
            have hq' := Lib.hid hq
            have h10 := Lib.hid ((hE10.below.block g hgl9).trans h9'.out)
            have hE10' := Lib.hid hE10
            have hif : i < fin1.size := by
              have := congrArg List.length hf9'.out
              rw [Array.length_toList] at this
              simp only [List.length_append, List.length_take, List.length_drop, Array.length_toList, hcz'.out, hrl'.out] at this
              omega
            have hif' := Lib.hid hif
            clear hq hE10 hif hbp
            dsimp only
            go_wp2_with (refine wpL_storeC rfl 22 _ _ rfl Tryz.info22 (b := g) (off := i) (v := .slice qo p.length qc) (new := fin1.setIfInBounds i (.slice qo p.length qc)) rfl rfl rfl h10.out hif'.out rfl ?_; intro w11 h11 g11; have h11' := Lib.hid h11; have g11' := Lib.hid g11; clear h11 g11)
            refine ⟨⟨k + 1, by omega, by go_num, ?_, ?_, Lib.hid ?_⟩, by simp [intOf]; omega⟩
            · exact (hE9'.out.trans hE10'.out).grown g11'.out (fun k hk => by cases hk; exact hgw)
            · exact Lib.hid fun g' hg' => by
                simp only [Value.ownBlock, Option.some.injEq] at hg'
                omega
            · have hmv11 : Mv w8 (g :: X) w11 (g :: X) := (hmv9'.out.ext hE10'.out).grown g11'.out (fun k hk => by cases hk; simp)
              have hrs := row_shift (k := kPth) (e := 22) (w11 := w11) (X := X) (g := g) (cap := cap) (n := n) (j := i) (cur := cur) (fin := fin1.setIfInBounds i (.slice qo p.length qc)) (V := [.slice qo p.length qc]) (rows := rows) (us := us.map (·.map backE)) (u := p.map cleanEl) hlm'.out (hall'.out.imp fun _ _ h => kPth.mv h hmv11) (by show cur.toList.take (n * 1) = _; rw [Nat.mul_one]; exact htk'.out) hin
                ⟨_, rfl, hq'.out.mv ((Mv.refl w10 (g :: X)).grown g11'.out (fun k hk => by cases hk; simp)) (by decide)⟩ (by show cur.size = cap * 1; rw [Nat.mul_one]; exact hcz'.out) hnc hcm'.out hgX'.out h11'.out (by
                  show (fin1.setIfInBounds i (.slice qo p.length qc)).toList = (cur.toList.take (i * 1 + 1) ++ rows.flatten.drop (i * 1) ++ cur.toList.drop (i * 1 + 1 + (rows.flatten.drop (i * 1)).length)).take (i * 1) ++ [.slice qo p.length qc] ++ (cur.toList.take (i * 1 + 1) ++ rows.flatten.drop (i * 1) ++ cur.toList.drop (i * 1 + 1 + (rows.flatten.drop (i * 1)).length)).drop (i * 1 + 1)
                  rw [Nat.mul_one, ← hf9'.out, Array.toList_setIfInBounds, List.set_eq_take_append_cons_drop, if_pos (by rw [Array.length_toList]; exact hif'.out)]
                  simp)
              rw [htk.out, setOf_snoc, hus'.out, hst2.out, List.map_append, List.map_cons, List.map_take, List.map_drop]
              have ec : p.map cleanEl = (p.map toE).map backE := by
                rw [List.map_map]
                exact List.map_congr_left fun e _ => cleanEl_back e
              rw [ec] at hrs
              exact hrs
        · go_wp2_with fail
          refine ⟨⟨k + 1, by omega, by go_num, hEw2.out, hgv, Lib.hid (by rw [htk.out, setOf_snoc, hus'.out, hst.out]; exact hrow.out.ext hE2'.out)⟩, by simp [intOf]; omega⟩
    · have ek : k = l.length := by omega
      subst ek
      have hi1 : ¬ (l.length : Int) < (l.length : Int) := by omega
      have hfin := hrow.out.isSl (bytes := 24) (by
        rw [List.length_map]
        have := (setOf_facts ho'.out (l := (l.take l.length).map (·.map toE)) (fun x hx => by
          obtain ⟨e, he, rfl⟩ := List.mem_map.1 hx
          exact hG'.out e (List.mem_of_mem_take he))).2.2.1
        rw [List.length_map, List.length_take] at this
        have := hbytes'.out
        omega)
      rw [List.take_of_length_le (Nat.le_refl _)] at hfin
      have hfin' := Lib.hid hfin
      clear hfin hrow
      go_wp2_with fail
      exact hR'.out wr _ hEr hfin'.out
end Go.Proofs.YtihapgangilncaaGreat
