/- Path elements that come of orderly elements of impl (plain). Set.Equals: two sets are equal exactly if they have the same paths (printed by gen_seteq.py). spec.place: where a path stands, or would stand, in a set. Set.Insert: a path put into a set. -/
import Derived.Test.YtihapgangilncaaGreatKESetM
import Derived.Test.YtihapgangilncaaGreatKESetL
import Derived.Test.YtihapgangilncaaGreatKEWalkC
import Derived.Test.YtihapgangilncaaGreatKEHole
namespace Go.Proofs.YtihapgangilncaaGreat
open Go.RowKit
set_option linter.unusedSimpArgs false

theorem cmpE_eq0 : ∀ {P Q : EntsOfT T}, (∀ p ∈ P, ∀ q ∈ Q, (eqT p.2 q.2 = true ↔ cmpT p.2 q.2 = 0)) → (listB eqFd P Q = true ↔ cmpE cmpT P Q = 0)
  | [], [], _ => by simp [listB, pairB, cmpE]
  | [], _ :: _, _ => by simp [listB, cmpE]
  | _ :: _, [], _ => by simp [listB, cmpE]
  | p :: P, q :: Q, h => by
    have h0 := h p (by simp) q (by simp)
    have h1 := cmpE_eq0 (P := P) (Q := Q) (fun x hx y hy => h x (by simp [hx]) y (by simp [hy]))
    simp only [listB, pairB, eqFd, cmpE, List.length_cons, Bool.and_eq_true, decide_eq_true_eq, Nat.add_right_cancel_iff, beq_iff_eq] at h1 ⊢
    rw [h0]
    by_cases hk : cmpS p.1 q.1 = 0
    · have hkk := cmpS_zero.1 hk
      by_cases hz : cmpT p.2 q.2 = 0
      · rw [if_neg (by simp [hk]), if_neg (by simp [hz]), ← h1]; simp [hz, hkk]
      · rw [if_neg (by simp [hk]), if_pos hz]; simp [hz]
    · have hkk : p.1 ≠ q.1 := fun e => hk (cmpS_zero.2 e)
      rw [if_pos hk]; simp [hk, hkk]
theorem eqT_cmp0 {u v : V} (hu : u.clean.orderly = true) (hv : v.clean.orderly = true) : eqT u.plain v.plain = true ↔ cmpT u.plain v.plain = 0 := by
  rw [eqT_plain, cmpT_plain]
  exact cmpP_eq (clean_cl u) (clean_cl v) hu hv
theorem key_tame0 {e : EL} (h : tameEl e) (hk : e.kind = 1) : ∀ p ∈ e.keys.zip (V.plainL e.l), ∃ v : V, p.2 = v.plain ∧ v.clean.orderly = true := by
  intro p hp
  rw [V.plainL_eq, ← zip_map_right] at hp
  obtain ⟨q, hq, rfl⟩ := List.mem_map.1 hp
  obtain ⟨i, hi, rfl⟩ := List.getElem_of_mem hq
  obtain ⟨-, h2⟩ := h
  unfold cleanEl at h2
  rw [if_pos hk] at h2
  have hi1 : i < e.keys.length := by rw [List.length_zip] at hi; omega
  have hi2 : i < e.l.length := by rw [List.length_zip] at hi; omega
  have ho := (orderlyL_iff _).1 h2 i (by rw [cleanL_length, List.length_take]; omega)
  have e1 : (V.cleanL (e.l.take (min e.keys.length e.l.length)))[i]'(by rw [cleanL_length, List.length_take]; omega) = (e.l[i]).clean := by
    rw [cleanL_get (by rw [List.length_take]; omega), List.getElem_take]
  rw [e1] at ho
  exact ⟨e.l[i], by simp, ho⟩
theorem value_tame0 {e : EL} (h : tameEl e) (hk : e.kind = 2) : e.v.clean.orderly = true := by
  obtain ⟨h1, -⟩ := h
  unfold cleanEl at h1
  rw [if_neg (by omega), if_pos hk] at h1
  exact h1
theorem eqE_cmp0 {a b : EL} (ha : tameEl a) (hb : tameEl b) : eqE (toE a) (toE b) = true ↔ cmpPe (toE a) (toE b) = 0 := by
  unfold toE
  by_cases a1 : a.kind = 1
  · rw [if_pos a1]
    by_cases b1 : b.kind = 1
    · rw [if_pos b1]
      refine cmpE_eq0 fun p hp q hq => ?_
      obtain ⟨u, e1, hu⟩ := key_tame0 ha a1 p hp
      obtain ⟨v, e2, hv⟩ := key_tame0 hb b1 q hq
      rw [e1, e2]
      exact eqT_cmp0 hu hv
    · rw [if_neg b1]; split <;> (try split) <;> simp [eqE, cmpPe]
  · rw [if_neg a1]
    by_cases a2 : a.kind = 2
    · rw [if_pos a2]
      by_cases b1 : b.kind = 1
      · rw [if_pos b1]; simp [eqE, cmpPe]
      · rw [if_neg b1]
        by_cases b2 : b.kind = 2
        · rw [if_pos b2]
          exact eqT_cmp0 (value_tame0 ha a2) (value_tame0 hb b2)
        · rw [if_neg b2]; split <;> simp [eqE, cmpPe]
    · rw [if_neg a2]
      by_cases a3 : a.kind = 3
      · rw [if_pos a3]
        split
        · simp [eqE, cmpPe]
        split
        · simp [eqE, cmpPe]
        split
        · simp [eqE, cmpPe, cmpI_zero]
        · simp [eqE, cmpPe]
      · rw [if_neg a3]
        split
        · simp [eqE, cmpPe]
        split
        · simp [eqE, cmpPe]
        split
        · simp [eqE, cmpPe]
        · simp [eqE, cmpPe, cmpS_zero]

theorem tr_good {a b c : PEl} (ha : GoodPe a) (hb : GoodPe b) (hc : GoodPe c) : tr (cmpPe a b) (cmpPe b c) (cmpPe a c) := by
  cases a <;> cases b <;> cases c <;> simp only [cmpPe] <;> first
    | exact tr_S _ _ _
    | exact tr_I _ _ _
    | exact tr_T ha hb hc
    | exact tr_E fun p hp q hq s hs => tr_T (ha p hp) (hb q hq) (hc s hs)
    | (unfold tr; refine ⟨fun _ _ => ?_, fun _ _ => ?_, fun _ _ => ?_⟩ <;> omega)
    | (unfold tr; simp)
def GoodE (x : PEl) : Prop := ∃ e : EL, tameEl e ∧ e.l.length * 88 ≤ 140737488351232 ∧ x = toE e
theorem goodE_ord : Cmpr cmpPe GoodE := ⟨cmpPe_neg', cmpPe_rng', fun {a b d} ha hb hd => by
  obtain ⟨e1, t1, -, rfl⟩ := ha
  obtain ⟨e2, t2, -, rfl⟩ := hb
  obtain ⟨e3, t3, -, rfl⟩ := hd
  exact tr_good (good_toE t1) (good_toE t2) (good_toE t3)⟩
theorem goodE_from {x : PEl} (h : GoodE x) : FromEl x := by
  obtain ⟨e, -, -, rfl⟩ := h
  exact ⟨e, rfl⟩
theorem goodE_small {x : PEl} (h : GoodE x) : SmallPe x := by
  obtain ⟨e, -, h2, rfl⟩ := h
  unfold toE
  split
  · show (e.keys.zip (V.plainL e.l)).length * 88 ≤ _
    have : (V.plainL e.l).length = e.l.length := by rw [V.plainL_eq, List.length_map]
    rw [List.length_zip, this]
    refine Nat.le_trans (Nat.mul_le_mul_right 88 (Nat.min_le_right _ _)) h2
  · split
    · trivial
    · split <;> trivial
theorem goodE_back {x : PEl} (h : GoodE x) : GoodE (toE (backE x)) := by
  obtain ⟨e, h1, h2, rfl⟩ := h
  refine ⟨backE (toE e), tame_back h1, ?_, rfl⟩
  unfold toE
  split
  · show ((e.keys.zip (V.plainL e.l)).map (fun p => p.2.back)).length * 88 ≤ _
    have : (V.plainL e.l).length = e.l.length := by rw [V.plainL_eq, List.length_map]
    rw [List.length_map, List.length_zip, this]
    refine Nat.le_trans (Nat.mul_le_mul_right 88 (Nat.min_le_right _ _)) h2
  · split
    · simp [backE]
    · split <;> simp [backE]
theorem goodE_eq {x y : PEl} (hx : GoodE x) (hy : GoodE y) : eqEl (backE x) (backE y) = true ↔ cmpPe x y = 0 := by
  obtain ⟨e, h1, -, rfl⟩ := id hx
  obtain ⟨f, g1, -, rfl⟩ := id hy
  rw [← eqE_toE, eqE_cmp0 (tame_back h1) (tame_back g1), cmpPe_back (goodE_from hx), cmpPe_neg' _ (toE e), cmpPe_back (goodE_from hy), cmpPe_neg' (toE e)]
  omega
theorem goodE_list {p q : List PEl} (hp : GP GoodE p) (hq : GP GoodE q) : listB eqEl (p.map backE) (q.map backE) = true ↔ wc cmpPe p q = 0 := by
  rw [wc_zero]
  induction p generalizing q with
  | nil =>
    cases q with
    | nil => simp [listB, pairB]; exact .nil
    | cons y q => simp [listB]; intro h; cases h
  | cons x p ih =>
    cases q with
    | nil => simp [listB]; intro h; cases h
    | cons y q =>
      have h1 := goodE_eq (hp x (by simp)) (hq y (by simp))
      have h2 := ih (q := q) (fun z hz => hp z (by simp [hz])) (fun z hz => hq z (by simp [hz]))
      simp only [listB, List.length_map, Bool.and_eq_true, decide_eq_true_eq] at h2
      simp only [listB, List.map_cons, List.length_cons, List.length_map, pairB, Bool.and_eq_true, decide_eq_true_eq, Nat.add_right_cancel_iff, h1]
      constructor
      · rintro ⟨h3, h4, h5⟩; exact .cons h4 (h2.1 ⟨h3, h5⟩)
      · intro h
        cases h with
        | cons h3 h4 => have := h2.2 h4; exact ⟨this.1, h3, this.2⟩
theorem goodE_lists {a b : List (List PEl)} (ha : ∀ p ∈ a, GP GoodE p) (hb : ∀ p ∈ b, GP GoodE p) : listB (listB eqEl) (a.map (·.map backE)) (b.map (·.map backE)) = true ↔ All2 (fun p q => wc cmpPe p q = 0) a b := by
  induction a generalizing b with
  | nil =>
    cases b with
    | nil => simp [listB, pairB]; exact .nil
    | cons y q => simp [listB]; intro h; cases h
  | cons x a ih =>
    cases b with
    | nil => simp [listB]; intro h; cases h
    | cons y b =>
      have h1 := goodE_list (ha x (by simp)) (hb y (by simp))
      have h2 := ih (b := b) (fun z hz => ha z (by simp [hz])) (fun z hz => hb z (by simp [hz]))
      simp only [listB, List.length_map, Bool.and_eq_true, decide_eq_true_eq] at h1 h2
      simp only [listB, List.map_cons, List.length_cons, List.length_map, pairB, Bool.and_eq_true, decide_eq_true_eq, Nat.add_right_cancel_iff, h1]
      constructor
      · rintro ⟨h3, h4, h5⟩; exact .cons h4 (h2.1 ⟨h3, h5⟩)
      · intro h
        cases h with
        | cons h3 h4 => have := h2.2 h4; exact ⟨this.1, h3, this.2⟩
end Go.Proofs.YtihapgangilncaaGreat
namespace Go.Proofs.YtihapgangilncaaGreat
open Go.RowKit
set_option linter.unusedSimpArgs false
set_option linter.unusedVariables false

section
variable {α : Type} {c : α → α → Int} {G : α → Prop}
theorem All2.has {l m : List α} (h : Cmpr c G) (a : All2 (fun a b => c a b = 0) l m) (gl : ∀ x ∈ l, G x) (gm : ∀ x ∈ m, G x) {p : α} (hp : G p) : hasC c l p ↔ hasC c m p := by
  induction a with
  | nil => exact Iff.rfl
  | cons h1 _ ih =>
    rw [hasC_cons, hasC_cons, h.congr (gl _ (by simp)) (gm _ (by simp)) hp h1]
    exact or_congr Iff.rfl (ih (fun x hx => gl x (List.mem_cons_of_mem _ hx)) (fun x hx => gm x (List.mem_cons_of_mem _ hx)))
end

/-- a set node, cell by cell -/
theorem node5 {d : Nat} {w : World} {X : List Nat} {cs : List Value} {n : PEl × St} (h : (kNd (kSt d)).is w X cs n) : ∃ c0 c1 c2 c3 c4, cs = [c0, c1, c2, c3, c4] ∧ kPe.is w X [c0, c1, c2, c3] n.1 ∧ (kSt d).is w X [c4] n.2 ∧ c0.oneCell' = true ∧ c1.oneCell' = true ∧ c2.oneCell' = true ∧ c3.oneCell' = true ∧ c4.oneCell' = true := by
  have h1 := (kNd (kSt d)).one h
  obtain ⟨pc, sc, rfl, hp, hs⟩ := h
  obtain ⟨c0, c1, c2, c3, rfl⟩ := kPe_four hp
  have hl := (kSt d).len hs
  rw [kSt_size] at hl
  match sc, hl, hs with
  | [c4], _, hs => exact ⟨c0, c1, c2, c3, c4, rfl, hp, hs, h1 _ (by simp), h1 _ (by simp), h1 _ (by simp), h1 _ (by simp), h1 _ (by simp)⟩

end Go.Proofs.YtihapgangilncaaGreat
namespace Go.Proofs.YtihapgangilncaaGreat
open Go.RowKit
set_option linter.unusedSimpArgs false

def wE (p q : List EL) : Int := wc cmpPe (p.map toE) (q.map toE)
def AtP (s : List (List EL)) (p : List EL) (i : Nat) : Prop := i ≤ s.length ∧ (∀ j (h : j < s.length), j < i → wE s[j] p < 0) ∧ ∀ j (h : j < s.length), i ≤ j → 0 ≤ wE s[j] p

set_option maxRecDepth 100000 in
set_option maxHeartbeats 4000000 in
set_option pp.maxSteps 1000000 in
set_option pp.deepTerms true in
theorem place_c {w : World} {X Y : List Nat} {sv pv : Value} {s : List (List EL)} {p : List EL} (hs : IsSl kPth 24 w X sv s) (hp : IsSl kEl 168 w Y pv p) (hmono : ∀ i j (hi : i < s.length) (hj : j < s.length), i ≤ j → wE s[j] p < 0 → wE s[i] p < 0)
    (R : Ending → World → Prop) (hR : ∀ w' i, Ext w w' → AtP s p i → R (.returned (.tuple #[.int .i64 (i : Int), .bool (hasAtC wE s p i)])) w') :
    Calls Tryz.prog 59 #[sv, pv] w R := by
  have hpo := hp.one
  obtain ⟨o, c, b, off, rfl, l2, l3, l4, l5⟩ := id hs.ex
  have l4' := Lib.hid l4
  have l5' := Lib.hid l5
  have hp' := Lib.hid hp
  have hm' := Lib.hid hmono
  have hR' := Lib.hid hR
  have hsI : (s.length : Int) ≤ 140737488351232 := by omega
  clear hR hs l4 l5 l3 l2 hp hmono
  go_enter Tryz.func59, Tryz.ntmps59
  go_wp2_with fail
  go_loopw [6, 7, 8] (fun lo hi _ wr => ∃ a b : Nat, lo = .int .i64 a ∧ hi = .int .i64 b ∧ a ≤ b ∧ b ≤ s.length ∧ Ext w wr ∧ Hid ((∀ j (h : j < s.length), j < a → wE s[j] p < 0) ∧ ∀ j (h : j < s.length), b ≤ j → 0 ≤ wE s[j] p))
    (fun lo hi _ _ => (intOf hi).toNat - (intOf lo).toNat)
  case atStart => exact ⟨0, s.length, rfl, rfl, Nat.zero_le _, Nat.le_refl _, Ext.refl _, Lib.hid ⟨fun j _ hj => by omega, fun j hj h => by omega⟩⟩
  case round =>
    obtain ⟨a, z, rfl, rfl, haz, hzl, hE, hI⟩ := hrel
    rename World => wr
    by_cases hlt : a < z
    · obtain ⟨m, hm⟩ : ∃ m, a + (z - a) / 2 = m := ⟨_, rfl⟩
      have hml : m < s.length := by omega
      have hmz : m < z := by omega
      have ham : a ≤ m := by omega
      obtain ⟨rfl, -⟩ := l4'.out (by omega)
      obtain ⟨ms, hc, hms⟩ := l5'.out m hml
      obtain ⟨mv, rfl, hmv⟩ := hms
      have x0 := hE.keep (hc 0 (by decide))
      simp only [show kPth.size = 1 from rfl, Nat.add_zero, Nat.mul_one, List.getElem?_cons_zero] at x0
      have hmvo := hmv.one
      have hmv' := Lib.hid hmv
      have hltI : (a : Int) < (z : Int) := by omega
      have hw1 : IntKind.i64.wrap ((z : Int) - (a : Int)) = (z : Int) - (a : Int) := IntWalk.i64_in _ (by omega)
      have hmI : (m : Int) < (s.length : Int) := by omega
      have hme : (a : Int) + ((z : Int) - (a : Int)) / 2 = (m : Int) := by omega
      have hm0 : (0 : Int) ≤ (m : Int) := by omega
      obtain ⟨y, hy⟩ : ∃ y, wE (s[m]'hml) p = y := ⟨_, rfl⟩
      have hy' := Lib.hid hy
      have hm2 := Lib.hid hml
      have hE' := Lib.hid hE
      clear hc hmv hy hE
      go_wp2_with fail
      refine walkCompare_c (hmv'.out.mv (hE'.out.mv X) (by decide)) (hp'.out.mv (hE'.out.mv Y) (by decide)) _ ?_
      intro w9 hE9
      have hE9' := Lib.hid (hE'.out.trans hE9)
      clear hE9
      have hyy : wc cmpPe ((s[m]'hm2.out).map toE) (p.map toE) = y := hy'.out
      rw [hyy]
      clear hyy x0
      dsimp only
      by_cases hneg : y < 0
      · go_wp2_with fail
        refine ⟨⟨m + 1, z, by go_num, rfl, by omega, hzl, hE9'.out, Lib.hid ⟨fun j h hj => ?_, hI.out.2⟩⟩, ?_⟩
        · exact hm'.out j m h hm2.out (by omega) (by rw [hy'.out]; exact hneg)
        · simp [intOf]; omega
      · go_wp2_with fail
        refine ⟨⟨a, m, rfl, rfl, by omega, by omega, hE9'.out, Lib.hid ⟨hI.out.1, fun j h hj => ?_⟩⟩, ?_⟩
        · exact Int.not_lt.1 fun hc => hneg (by
            have := hm'.out m j hm2.out h (by omega) hc
            rw [hy'.out] at this
            exact this)
        · simp [intOf]; omega
    · obtain rfl : a = z := by omega
      have hltI : ¬ (a : Int) < (a : Int) := by omega
      have hat : AtP s p a := ⟨hzl, hI.out.1, fun j h hj => hI.out.2 j h hj⟩
      have hat' := Lib.hid hat
      clear hat hI
      by_cases hin : a < s.length
      · obtain ⟨rfl, -⟩ := l4'.out (by omega)
        obtain ⟨ms, hc, hms⟩ := l5'.out a hin
        obtain ⟨mv, rfl, hmv⟩ := hms
        have x0 := hE.keep (hc 0 (by decide))
        simp only [show kPth.size = 1 from rfl, Nat.add_zero, Nat.mul_one, List.getElem?_cons_zero] at x0
        have hmvo := hmv.one
        have hmv' := Lib.hid hmv
        have hini : (a : Int) < (s.length : Int) := by omega
        have hh : hasAtC wE s p a = decide (wE (s[a]'hin) p = 0) := by unfold hasAtC; rw [List.getElem?_eq_getElem hin]
        have hh' := Lib.hid hh
        have hE' := Lib.hid hE
        clear hc hmv hh hE
        go_wp2_with fail
        refine walkCompare_c (hmv'.out.mv (hE'.out.mv X) (by decide)) (hp'.out.mv (hE'.out.mv Y) (by decide)) _ ?_
        obtain ⟨y, hy⟩ : ∃ y, wE (s[a]'hin) p = y := ⟨_, rfl⟩
        have hyy : wc cmpPe ((s[a]'hin).map toE) (p.map toE) = y := hy
        rw [hyy]
        rw [hy] at hh'
        intro w9 hE9
        have hE9' := Lib.hid (hE'.out.trans hE9)
        clear hE9 hyy hy x0
        dsimp only
        by_cases h0 : y = 0
        · have hyb : (y == 0) = true := by rw [beq_iff_eq]; exact h0
          go_wp2_with fail
          have := hR'.out w9 a hE9'.out hat'.out
          rw [hh'.out, decide_eq_true h0] at this
          exact this
        · have hyb : (y == 0) = false := by rw [beq_eq_false_iff_ne]; exact h0
          go_wp2_with fail
          have := hR'.out w9 a hE9'.out hat'.out
          rw [hh'.out, decide_eq_false h0] at this
          exact this
      · have hini : ¬ (a : Int) < (s.length : Int) := by omega
        have hh : hasAtC wE s p a = false := by unfold hasAtC; rw [List.getElem?_eq_none (by omega)]
        have hh' := Lib.hid hh
        have hE' := Lib.hid hE
        clear hh hE
        go_wp2_with fail
        have := hR'.out wr a hE'.out hat'.out
        rw [hh'.out] at this
        exact this
end Go.Proofs.YtihapgangilncaaGreat
namespace Go.Proofs.YtihapgangilncaaGreat
open Go.RowKit
set_option linter.unusedSimpArgs false

theorem hasAtC_eq (us : List PEl) (t : PEl) (i : Nat) : hasAtC cmpPe us t i = HasAt us t i := by
  unfold hasAtC HasAt
  cases us[i]? <;> rfl
theorem insAt_eq {us : List PEl} {t : PEl} {i : Nat} (h : At us t i) : insAt us t i = insC cmpPe us t := by
  rw [insC_at h.1 h.2.1 h.2.2, hasAtC_eq]
  rfl
theorem mono_srt {G : PEl → Prop} (ho : Cmpr cmpPe G) {us : List PEl} {t : PEl} (hs : SrtC cmpPe us) (hG : ∀ x ∈ us, G x) (ht : G t) : ∀ i j (hi : i < us.length) (hj : j < us.length), i ≤ j → cmpPe us[j] t < 0 → cmpPe us[i] t < 0 := by
  intro i j hi hj hij h
  by_cases e : i = j
  · subst e; exact h
  · exact ho.lt_tr (hG _ (List.getElem_mem hi)) (hG _ (List.getElem_mem hj)) ht (List.pairwise_iff_getElem.1 hs i j hi hj (by omega)) h
theorem at_gt {G : PEl → Prop} (ho : Cmpr cmpPe G) {us : List PEl} {t : PEl} {i : Nat} (hs : SrtC cmpPe us) (hG : ∀ x ∈ us, G x) (ht : G t) (h : At us t i) (hh : HasAt us t i = false) : ∀ j (hj : j < us.length), i ≤ j → cmpPe t us[j] < 0 := by
  intro j hj hij
  have hi : i < us.length := by omega
  have h0 : cmpPe t us[i] < 0 := by
    have h1 := h.2.2 i hi (Nat.le_refl _)
    have h2 : cmpPe us[i] t ≠ 0 := fun e => by simp [HasAt, hi, e] at hh
    rw [ho.neg us[i] t]
    omega
  by_cases e : i = j
  · subst e; exact h0
  · exact ho.lt_tr ht (hG _ (List.getElem_mem hi)) (hG _ (List.getElem_mem hj)) h0 (List.pairwise_iff_getElem.1 hs i j hi hj (by omega))
theorem ms_len {β : Type} {s : Tr β PEl} : s.ms.length ≤ s.paths.length := by rw [Tr.paths_eq]; simp
theorem cs_len {β : Type} {G : PEl → Prop} {s : Tr β PEl} (h : s.Wf cmpPe G) : s.cs.length ≤ s.paths.length := by
  rw [Tr.paths_eq]
  have hne : ∀ p ∈ s.cs, p.2.paths ≠ [] := by
    cases h with
    | mk _ _ _ _ h5 _ => exact h5
  have : ∀ l : List (PEl × Tr β PEl), (∀ p ∈ l, p.2.paths ≠ []) → l.length ≤ (l.flatMap (fun p => p.2.paths.map (p.1 :: ·))).length := by
    intro l
    induction l with
    | nil => simp
    | cons p l ih =>
      intro h
      have h1 := ih (fun q hq => h q (by simp [hq]))
      have h2 : 0 < p.2.paths.length := List.length_pos_iff.2 (h p (by simp))
      simp only [List.length_cons, List.flatMap_cons, List.length_append, List.length_map]
      omega
  have := this s.cs hne
  rw [List.length_append]
  omega

section
variable {G : PEl → Prop} {X : List Nat} {t : BT} {p : List PEl} {w wr : World} {A B : List Nd} {ctx : BT → BT} {b : Nat} {vm vc : Value} {ms : List PEl} {cs : List (PEl × BT)} {p2 : List PEl} {e : PEl}
theorem Hole.ext {u : BT} (h : Hole G X t p w wr A B ctx u p2) {w' : World} (hE : Ext wr w') : Hole G X t p w w' A B ctx u p2 :=
  ⟨h.st.ext hE, h.mu.thenNew (hE.mut []) (by simp), h.bl, h.cx, h.wf, h.has, h.len⟩
theorem holeMember_c (ho : Cmpr cmpPe G) (h : Hole G X t p w wr A B ctx (.mk (b, vm, vc) ms cs) [e]) (hX : Old X w) (he : G e) {ds : List Value} (hds : kPe.is wr (Nd.bl ⟨b, vm, vc, ms, ksOf cs⟩ ++ (bls (A ++ (BT.flatL cs ++ B)) ++ X)) ds e) (hlen : (t.paths.length + 1) * 40 ≤ 140737488351232)
    (R : Ending → World → Prop) (hR : ∀ w' t', PutIn G X t p w w' t' → R (.returned (.tuple #[])) w') :
    Calls Tryz.prog 51 #[.pointer (some ⟨b, 0, none⟩), .agg ds.toArray] wr R := by
  have hns := h.node
  have hn0 := hns.each ⟨b, vm, vc, ms, ksOf cs⟩ (by simp)
  have hcell := hn0.cell
  have hlt := hn0.lt
  have hvm := hns.vm
  have hvc := hns.vc
  have hold := h.old hX
  obtain ⟨s1, s2, -⟩ := Tr.wf_parts h.wf
  have hml : ms.length ≤ t.paths.length := Nat.le_trans (ms_len (s := .mk (b, vm, vc) ms cs)) h.len
  refine esInsert_c (X := vb vc ++ (bls (A ++ (BT.flatL cs ++ B)) ++ X)) (off := 0) (old := #[vm, vc]) (T := 126) (v := vm) (us := ms) (t := e) hcell (by simp) (by simp) hvm (fun g hg => ?_) (kPe.mv hds ((Mv.refl _ _).less fun g hg => ?_)) (mono_srt ho s1 s2 he) (Nat.le_trans (Nat.mul_le_mul (Nat.succ_le_succ hml) (by decide : 32 ≤ 40)) hlen) _ ?_
  · rcases List.mem_cons.1 hg with rfl | hg
    · exact hlt _ (by simp [Nd.bl])
    · rcases List.mem_append.1 hg with hg | hg
      · exact hlt _ (by simp [Nd.bl, hg])
      · exact hold g hg
  · simp only [Nd.bl, List.mem_append, List.mem_cons] at hg ⊢
    rcases hg with hg | hg | hg | hg
    · exact .inl (.inr (.inl hg))
    · exact .inl (.inl hg)
    · exact .inl (.inr (.inr hg))
    · exact .inr hg
  intro w' v' i hat hb' hrow' hM hd
  rw [insAt_eq hat] at hrow'
  have hv' : ∀ g ∈ vb v', g ∈ vb vm ∨ wr.heap.size ≤ g := fun g hg => (hd g (by simpa [vb] using hg)).imp (fun h => by simp [vb, h]) id
  obtain ⟨t', ht'⟩ := h.member ho he (w' := w') (vm' := v') (hM.more fun g hg => by
    simp only [Nd.bl, List.mem_cons, List.mem_append] at hg ⊢
    exact hg.imp id .inl) (Store.mk1 (by simpa using hb') hrow' (hvc.mutd hM (fun g hg => by
      simp only [List.mem_cons, List.mem_append] at hg ⊢
      exact hg.imp id .inl) fun g hg => by
      simp only [List.mem_cons, List.mem_append] at hg ⊢
      rcases hg with hg | hg | hg
      · exact .inl (.inl hg)
      · exact (hv' g hg).imp (fun h => .inr (.inl h)) id
      · exact .inl (.inr (.inr hg))) (hns.out b (by simp [bls, Nd.bl]))) hv'
  exact hR w' t' ht'
theorem ks_keys (cs : List (PEl × BT)) : (ksOf cs).map (·.1) = cs.map (·.1) := by simp [ksOf, List.map_map]
theorem holeDescend_c (ho : Cmpr cmpPe G) (h : Hole G X t p w wr A B ctx (.mk (b, vm, vc) ms cs) (e :: p2)) (hX : Old X w) (he : G e) (hp : p2 ≠ []) (hG : GP G p2) {ds : List Value} (hds : kPe.is wr (Nd.bl ⟨b, vm, vc, ms, ksOf cs⟩ ++ (bls (A ++ (BT.flatL cs ++ B)) ++ X)) ds e) (hlen : (t.paths.length + 1) * 40 ≤ 140737488351232)
    (R : Ending → World → Prop) (hR : ∀ w' A' B' ctx' c vm' vc' ms' cs', Hole G X t p w w' A' B' ctx' (.mk (c, vm', vc') ms' cs') p2 → R (.returned (.pointer (some ⟨c, 0, none⟩))) w') :
    Calls Tryz.prog 152 #[.pointer (some ⟨b, 1, none⟩), .agg ds.toArray] wr R := by
  obtain ⟨s1, s2, s3, s4, s5, s6⟩ := Tr.wf_parts h.wf
  have hcl : cs.length ≤ t.paths.length := Nat.le_trans (cs_len h.wf) h.len
  have hkl : (ksOf cs).length = cs.length := by simp [ksOf]
  simp only [Tr.cs] at s3 s4
  have s4' : ∀ x ∈ (ksOf cs).map (·.1), G x := fun x hx => by
    rw [ks_keys] at hx
    obtain ⟨y, hy, rfl⟩ := List.mem_map.1 hx
    exact s4 y hy
  have s3' : SrtC cmpPe ((ksOf cs).map (·.1)) := by rw [ks_keys]; exact s3
  refine descend_c (n := ⟨b, vm, vc, ms, ksOf cs⟩) h.node (h.old hX) hds (mono_srt ho s3' s4' he) (by rw [hkl]; exact Nat.le_trans (Nat.mul_le_mul_right 40 (Nat.succ_le_succ hcl)) hlen) _ (fun w' i hi hE hat hha => ?_) (fun w' i vc' c hat hha hst hM hv hc => ?_)
  · have hi' : i < cs.length := by rw [← hkl]; exact hi
    have hki : (ksOf cs)[i]'hi = (cs[i].1, BT.b cs[i].2) := by simp [ksOf]
    rw [hki]
    obtain ⟨⟨x, s⟩, hxs⟩ : ∃ y, cs[i]'hi' = y := ⟨_, rfl⟩
    have e1 : cs = cs.take i ++ (x, s) :: cs.drop (i + 1) := by rw [← hxs, ← List.drop_eq_getElem_cons hi', List.take_append_drop]
    have hx : cmpPe x e = 0 := by
      unfold HasAt at hha
      rw [ks_keys, List.getElem?_map, List.getElem?_eq_getElem hi', hxs] at hha
      simpa using hha
    rw [hxs]
    obtain ⟨⟨sb, svm, svc⟩, sms, scs⟩ := s
    rw [e1] at h
    exact hR w' _ _ _ sb svm svc sms scs (h.found ho he hp hG hx hE)
  · have hi : i ≤ cs.length := by have := hat.1; rw [ks_keys, List.length_map] at this; exact this
    have e1 : cs = cs.take i ++ cs.drop i := (List.take_append_drop i cs).symm
    have hgt := at_gt ho s3' s4' he hat hha
    have ek : ∀ (j : Nat) (h1 : j < cs.length) (h2 : j < ((ksOf cs).map (·.1)).length), ((ksOf cs).map (·.1))[j]'h2 = cs[j].1 := fun j h1 h2 => by simp [ksOf]
    have h1 : ∀ y ∈ cs.take i, cmpPe y.1 e < 0 := fun y hy => by
      obtain ⟨j, hj, rfl⟩ := List.getElem_of_mem hy
      rw [List.length_take] at hj
      have hj' : j < cs.length := by omega
      have := hat.2.1 j (by simpa [ksOf] using hj') (by omega)
      rw [ek j hj'] at this
      rw [List.getElem_take]
      exact this
    have h2 : ∀ y ∈ cs.drop i, cmpPe e y.1 < 0 := fun y hy => by
      obtain ⟨j, hj, rfl⟩ := List.getElem_of_mem hy
      rw [List.length_drop] at hj
      have hj' : i + j < cs.length := by omega
      have := hgt (i + j) (by simpa [ksOf] using hj') (by omega)
      rw [ek (i + j) hj'] at this
      rw [List.getElem_drop]
      exact this
    have e2 : (ksOf cs).take i = ksOf (cs.take i) ∧ (ksOf cs).drop i = ksOf (cs.drop i) := by simp [ksOf, List.map_take, List.map_drop]
    rw [e2.1, e2.2] at hst
    have h' : Hole G X t p w wr A B ctx (.mk (b, vm, vc) ms (cs.take i ++ cs.drop i)) (e :: p2) := by rw [← e1]; exact h
    refine hR w' _ _ _ c _ _ _ _ (h'.new ho he hp hG h1 h2 (w' := w') (vc' := vc') (c := c) ?_ ?_ ?_ hc)
    · rw [← e1]; exact hM
    · rw [← e1]; exact hst
    · rw [← e1]; exact hv
end

def slLen : Value → Nat
  | .slice _ n _ => n
  | _ => 0

set_option maxRecDepth 100000 in
set_option maxHeartbeats 8000000 in
set_option pp.maxSteps 1000000 in
set_option pp.deepTerms true in
theorem setInsert_c {G : PEl → Prop} (ho : Cmpr cmpPe G) {w : World} {X : List Nat} {t : BT} {pv : Value} {p : List PEl} (hst : Store w X (BT.flat t)) (hwf : Tr.Wf cmpPe G t) (hX : Old X w) (hp : IsSl kPe 32 w (bls (BT.flat t) ++ X) pv p) (hG : GP G p) (hlen : (t.paths.length + 1) * 40 ≤ 140737488351232)
    (R : Ending → World → Prop) (hR0 : p = [] → ∀ w', Ext w w' → R (.returned (.tuple #[])) w') (hR : p ≠ [] → ∀ w' t', PutIn G X t p w w' t' → R (.returned (.tuple #[])) w') :
    Calls Tryz.prog 114 #[.pointer (some ⟨BT.b t, 0, none⟩), pv] w R := by
  obtain ⟨o, pcap, pb, poff, rfl, l2, l3, l4, l5⟩ := id hp.ex
  have l4' := Lib.hid l4
  have l5' := Lib.hid l5
  have hX' := Lib.hid hX
  have hG' := Lib.hid hG
  have hR0' := Lib.hid hR0
  have hR' := Lib.hid hR
  have hlen' := Lib.hid hlen
  have hpl : (p.length : Int) ≤ 140737488351232 := by omega
  have hh := Lib.hid (Hole.start (p := p) hst hwf)
  clear l4 l5 hX hG hR0 hR hlen hst hwf hp l3
  by_cases hp0 : p.length = 0
  · have hpe : p = [] := List.eq_nil_of_length_eq_zero hp0
    subst hpe
    go_enter Tryz.func114, Tryz.ntmps114
    go_wp2_with fail
    exact bodyPost_end (by simp [results, Tryz.results114, go_sem]) rfl (hR0'.out (by first | rfl | trivial) w (Ext.refl w))
  · obtain ⟨rfl, hpb⟩ := l4'.out (by omega)
    have hn0 : ¬ (p.length : Int) = 0 := by omega
    have hne : p ≠ [] := fun e => by rw [e] at hp0; exact hp0 rfl
    have hne' := Lib.hid hne
    have hpb' := Lib.hid hpb
    clear hne hpb
    obtain ⟨⟨b0, vm0, vc0⟩, ms0, cs0⟩ := t
    go_enter Tryz.func114, Tryz.ntmps114
    go_wp2_with fail
    simp only [BT.b, Tr.tag] at *
    go_loopw [0, 1] (fun sv qv wr => ∃ (k m qcap : Nat) (A B : List Nd) (ctx : BT → BT) (b : Nat) (vm vc : Value) (ms : List PEl) (cs : List (PEl × BT)), sv = .pointer (some ⟨b, 0, none⟩) ∧ qv = .slice (some ⟨pb, poff + k * 4, none⟩) m qcap ∧ k + m = p.length ∧ 0 < m ∧ m ≤ qcap ∧
      Hid (Hole G X (.mk (b0, vm0, vc0) ms0 cs0) p w wr A B ctx (.mk (b, vm, vc) ms cs) (p.drop k))) (fun _ qv _ => slLen qv)
    case atStart => exact ⟨0, p.length, pcap, [], [], id, b0, vm0, vc0, ms0, cs0, rfl, by simp, by omega, by omega, l2, hh⟩
    case round =>
      obtain ⟨k, m, qcap, A, B, ctx, b, vm, vc, ms, cs, rfl, rfl, hkm, hm0, hmc, hhole⟩ := hrel
      rename World => wr
      have hk : k < p.length := by omega
      obtain ⟨ds, hc, hds⟩ := l5'.out k hk
      have hone := kPe.one hds
      have hmv := hhole.out.mvd
      have hds' := Lib.hid (kPe.mv hds hmv)
      obtain ⟨d0, d1, d2, d3, rfl, o0, o1, o2, o3⟩ := kPe_4 hds
      have q0 := (hmv.cell hpb'.out (hc 0 (by decide))).1
      have q1 := (hmv.cell hpb'.out (hc 1 (by decide))).1
      have q2 := (hmv.cell hpb'.out (hc 2 (by decide))).1
      have q3 := (hmv.cell hpb'.out (hc 3 (by decide))).1
      simp only [show kPe.size = 4 from rfl, Nat.add_zero] at q0 q1 q2 q3
      have hdr : p.drop k = (p[k]'hk) :: p.drop (k + 1) := List.drop_eq_getElem_cons hk
      have hGk := hG'.out _ (List.getElem_mem hk)
      obtain ⟨e, he⟩ : ∃ e, p[k]'hk = e := ⟨_, rfl⟩
      rw [he] at hds' hGk hdr
      rw [hdr] at hhole
      have hmI : (0 : Int) < (m : Int) := by omega
      have hGk' := Lib.hid hGk
      have hns := Lib.hid hhole.out.node
      have hold := Lib.hid (hhole.out.old hX'.out)
      clear hc hds hone hmv hGk he hdr
      by_cases hm1 : m = 1
      · subst hm1
        have hd0 : p.drop (k + 1) = [] := List.drop_eq_nil_of_le (by omega)
        rw [hd0] at hhole
        clear hd0
        go_wp2_with fail
        refine wp_region_script [0, 1, 2, 3, 4, 5] [] (fun w' => Ext wr w') [(.pure, 0), (.pure, 1), (.pure, 2), (.pure, 3), (.pure, 4), (.read, 5), (.one, 6)] (by kernel_rfl) (by kernel_rfl) ?_
        have hC : Ext wr wr.drew := (Ext.refl wr).drew
        iterate 5 (apply scr_pure'; (· rfl); (· rfl); (· (intro w'; go_simp; try rfl)); (· (simp [go_sem]; try rfl)))
        (apply scr_read'; (· rfl); (· rfl); (· first | exact hC | exact (Ext.refl _).drew); (· (intro w' hw'; have q0_ := hw'.keep q0; have q1_ := hw'.keep q1; have q2_ := hw'.keep q2; have q3_ := hw'.keep q3; go_simp; try rfl)); (· (simp [go_sem]; try rfl)))
        refine scr_one rfl rfl (fun K hK => ?_)
        go_simp
        refine holeMember_c ho (hhole.out.ext hC) hX'.out hGk'.out (ds := [d0, d1, d2, d3]) (kPe.mv hds'.out (hC.mv _)) hlen'.out _ ?_
        intro w' t' ht'
        have ht2 := Lib.hid ht'
        refine hK _ _ (fun h => by simp at h) ?_
        clear hK ht' hhole hns hold hds' q0 q1 q2 q3
        refine scr_end ?_
        simp only [Exit.then]
        go_wp2_with fail
        exact bodyPost_end (by simp [results, Tryz.results114, go_sem]) rfl (hR'.out (by first | exact hne'.out | trivial) w' t' ht2.out)
      · have hm1I : ((m : Int) == 1) = false := by rw [beq_eq_false_iff_ne]; omega
        have hm1I' : ¬ (m : Int) = 1 := by omega
        have hqc1 : ¬ qcap = 1 := by omega
        have hm1q : 1 ≤ m := hm0
        have hm1q' : (1 : Int) ≤ (m : Int) := by omega
        have hG2 := Lib.hid (show GP G (p.drop (k + 1)) from fun x hx => hG'.out x (List.mem_of_mem_drop hx))
        have hd0 := Lib.hid (show p.drop (k + 1) ≠ [] from fun h => by rw [List.drop_eq_nil_iff] at h; omega)
        go_wp2_with fail
        refine wp_region_script [0, 1, 2, 3, 4, 5, 7] [] (fun w' => Ext wr w') [(.pure, 0), (.pure, 1), (.pure, 2), (.pure, 3), (.pure, 4), (.read, 5), (.one, 6), (.pure, 7)] (by kernel_rfl) (by kernel_rfl) ?_
        have hC : Ext wr wr.drew := (Ext.refl wr).drew
        iterate 5 (apply scr_pure'; (· rfl); (· rfl); (· (intro w'; go_simp; try rfl)); (· (simp [go_sem]; try rfl)))
        (apply scr_read'; (· rfl); (· rfl); (· first | exact hC | exact (Ext.refl _).drew); (· (intro w' hw'; have q0_ := hw'.keep q0; have q1_ := hw'.keep q1; have q2_ := hw'.keep q2; have q3_ := hw'.keep q3; go_simp; try rfl)); (· (simp [go_sem]; try rfl)))
        refine scr_one rfl rfl (fun K hK => ?_)
        go_simp
        refine holeDescend_c ho (hhole.out.ext hC) hX'.out hGk'.out hd0.out hG2.out (ds := [d0, d1, d2, d3]) (kPe.mv hds'.out (hC.mv _)) hlen'.out _ ?_
        intro w' A' B' ctx' c vm' vc' ms' cs' hh2
        have hh2' := Lib.hid hh2
        refine hK _ _ (fun h => by simp at h) ?_
        clear hK hh2 hhole hns hold hds' q0 q1 q2 q3
        (apply scr_pure'; (· rfl); (· rfl); (· (intro w'; go_simp; try rfl)); (· (simp [go_sem]; try rfl)))
        refine scr_end ?_
        simp only [Exit.then]
        go_wp2_with fail
        refine ⟨⟨k + 1, m - 1, qcap - 1, A', B', ctx', c, vm', vc', ms', cs', rfl, ?_, by omega, by omega, by omega, hh2'⟩, ?_⟩
        · rw [Nat.succ_mul, ← Nat.add_assoc]
        · show m - 1 < m
          omega
end Go.Proofs.YtihapgangilncaaGreat
