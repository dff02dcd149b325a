/- Set.Equals: two sets are equal exactly if they have the same paths (printed by gen_seteq.py). -/
import Derived.Test.YtihapgangilncaaGreatKGToSet
import Derived.Test.YtihapgangilncaaGreatKGUniP
import Derived.Test.YtihapgangilncaaGreatKGBSearchN
namespace Go.Proofs.YtihapgangilncaaGreat
open Go.RowKit
set_option linter.unusedSimpArgs false
set_option linter.unusedVariables false

section
variable {α : Type} {c : α → α → Int} {G : α → Prop}
/-- two trees equal place by place -/
def eqTr (c : α → α → Int) : Nat → Tr Unit α → Tr Unit α → Prop
  | 0, _, _ => True
  | d + 1, s, t => All2 (fun a b => c a b = 0) s.ms t.ms ∧ All2 (fun p q => c p.1 q.1 = 0 ∧ eqTr c d p.2 q.2) s.cs t.cs
theorem All2.has {l m : List α} (h : Cmpr c G) (a : All2 (fun a b => c a b = 0) l m) (gl : ∀ x ∈ l, G x) (gm : ∀ x ∈ m, G x) {p : α} (hp : G p) : hasC c l p ↔ hasC c m p := by
  induction a with
  | nil => exact Iff.rfl
  | cons h1 _ ih =>
    rw [hasC_cons, hasC_cons, h.congr (gl _ (by simp)) (gm _ (by simp)) hp h1]
    exact or_congr Iff.rfl (ih (fun x hx => gl x (List.mem_cons_of_mem _ hx)) (fun x hx => gm x (List.mem_cons_of_mem _ hx)))
theorem All2.swapP {β γ : Type} {R : β → γ → Prop} {l : List β} {m : List γ} (h : All2 R l m) : All2 (fun b a => R a b) m l := by
  induction h with
  | nil => exact .nil
  | cons h _ ih => exact .cons h ih
theorem All2.exl {β γ : Type} {R : β → γ → Prop} {l : List β} {m : List γ} (h : All2 R l m) {x : β} (hx : x ∈ l) : ∃ y ∈ m, R x y := by
  induction h with
  | nil => simp at hx
  | cons h1 _ ih =>
    rcases List.mem_cons.1 hx with rfl | hx
    · exact ⟨_, by simp, h1⟩
    · obtain ⟨y, hy, h2⟩ := ih hx
      exact ⟨y, by simp [hy], h2⟩
theorem All2.of_map {β γ : Type} {f : β → α} {g : γ → α} {R : α → α → Prop} {l : List β} {m : List γ} (h : All2 R (l.map f) (m.map g)) : All2 (fun a b => R (f a) (g b)) l m := by
  induction l generalizing m with
  | nil =>
    cases m with
    | nil => exact .nil
    | cons y m => cases h
  | cons x l ih =>
    cases m with
    | nil => cases h
    | cons y m => cases h with | cons h1 h2 => exact .cons h1 (ih h2)
theorem All2.impm {β γ : Type} {R S : β → γ → Prop} {l : List β} {m : List γ} (h : All2 R l m) (hs : ∀ x ∈ l, ∀ y ∈ m, R x y → S x y) : All2 S l m := by
  induction h with
  | nil => exact .nil
  | cons h1 _ ih => exact .cons (hs _ (by simp) _ (by simp) h1) (ih fun x hx y hy => hs x (List.mem_cons_of_mem _ hx) y (List.mem_cons_of_mem _ hy))
theorem eqTr_has (ho : Cmpr c G) : ∀ (d : Nat) {s t : Tr Unit α}, s.dep d → s.Wf c G → t.Wf c G → eqTr c d s t → ∀ q, GP G q → (s.has c q ↔ t.has c q)
  | 0, _, _, hd, _, _, _ => hd.elim
  | d + 1, s, t, hd, hs, ht, he => by
    obtain ⟨s1, s2, s3, s4, s5, s6⟩ := Tr.wf_parts hs
    obtain ⟨t1, t2, t3, t4, t5, t6⟩ := Tr.wf_parts ht
    intro q hq
    match q, hq with
    | [], _ => exact ⟨fun h => absurd h Tr.has_nil, fun h => absurd h Tr.has_nil⟩
    | [e], hq => rw [Tr.has_one, Tr.has_one]; exact he.1.has ho s2 t2 (hq e (by simp))
    | e :: f :: q, hq =>
      rw [Tr.has_cons (by simp), Tr.has_cons (by simp)]
      have ge := hq e (by simp)
      have gq : GP G (f :: q) := fun z hz => hq z (by simp [hz])
      constructor
      · rintro ⟨p, hp, h1, h2⟩
        obtain ⟨r, hr, h3, h4⟩ := he.2.exl hp
        exact ⟨r, hr, by rw [← ho.congr (s4 p hp) (t4 r hr) ge h3]; exact h1, (eqTr_has ho d (hd p hp) (s6 p hp) (t6 r hr) h4 _ gq).1 h2⟩
      · rintro ⟨r, hr, h1, h2⟩
        obtain ⟨p, hp, h3, h4⟩ := he.2.swapP.exl hr
        exact ⟨p, hp, by rw [ho.congr (s4 p hp) (t4 r hr) ge h3]; exact h1, (eqTr_has ho d (hd p hp) (s6 p hp) (t6 r hr) h4 _ gq).2 h2⟩
theorem has_eqTr (ho : Cmpr c G) : ∀ (d : Nat) {s t : Tr Unit α}, s.Wf c G → t.Wf c G → (∀ q, GP G q → (s.has c q ↔ t.has c q)) → eqTr c d s t
  | 0, _, _, _, _, _ => trivial
  | d + 1, s, t, hs, ht, hh => by
    obtain ⟨s1, s2, s3, s4, s5, s6⟩ := Tr.wf_parts hs
    obtain ⟨t1, t2, t3, t4, t5, t6⟩ := Tr.wf_parts ht
    have g1 : ∀ z ∈ s.cs.map (·.1), G z := fun z hz => by obtain ⟨p, hp, rfl⟩ := List.mem_map.1 hz; exact s4 p hp
    have g2 : ∀ z ∈ t.cs.map (·.1), G z := fun z hz => by obtain ⟨p, hp, rfl⟩ := List.mem_map.1 hz; exact t4 p hp
    have hm : ∀ e, G e → (hasC c s.ms e ↔ hasC c t.ms e) := fun e he => by
      have := hh [e] (fun z hz => by rw [List.mem_singleton.1 hz]; exact he)
      rwa [Tr.has_one, Tr.has_one] at this
    refine ⟨srt_uniq ho s1 t1 s2 t2 (fun x hx => (hm x (s2 x hx)).1 (hasC_self ho hx)) (fun x hx => (hm x (t2 x hx)).2 (hasC_self ho hx)), ?_⟩
    have hk : All2 (fun (p q : α × Tr Unit α) => c p.1 q.1 = 0) s.cs t.cs := by
      refine All2.of_map (f := fun p : α × Tr Unit α => p.1) (g := fun p : α × Tr Unit α => p.1) (R := fun a b => c a b = 0) (srt_uniq ho s3 t3 g1 g2 (fun x hx => ?_) (fun x hx => ?_))
      · obtain ⟨p, hp, rfl⟩ := List.mem_map.1 hx
        obtain ⟨q, gq, hq⟩ := has_good ho (s6 p hp) (s5 p hp)
        have hne : q ≠ [] := fun e => by subst e; exact Tr.has_nil hq
        obtain ⟨r, hr, h1, -⟩ := (Tr.has_cons hne).1 ((hh (p.1 :: q) (fun z hz => (List.mem_cons.1 hz).elim (fun e => e ▸ s4 p hp) (gq z))).1 ((Tr.has_cons hne).2 ⟨p, hp, ho.self _, hq⟩))
        exact ⟨r.1, List.mem_map.2 ⟨r, hr, rfl⟩, h1⟩
      · obtain ⟨p, hp, rfl⟩ := List.mem_map.1 hx
        obtain ⟨q, gq, hq⟩ := has_good ho (t6 p hp) (t5 p hp)
        have hne : q ≠ [] := fun e => by subst e; exact Tr.has_nil hq
        obtain ⟨r, hr, h1, -⟩ := (Tr.has_cons hne).1 ((hh (p.1 :: q) (fun z hz => (List.mem_cons.1 hz).elim (fun e => e ▸ t4 p hp) (gq z))).2 ((Tr.has_cons hne).2 ⟨p, hp, ho.self _, hq⟩))
        exact ⟨r.1, List.mem_map.2 ⟨r, hr, rfl⟩, h1⟩
    have huniq : ∀ {β : Type} {l : List (α × Tr β α)}, SrtC c (l.map (·.1)) → (∀ p ∈ l, G p.1) → ∀ p ∈ l, ∀ r ∈ l, c p.1 r.1 = 0 → p = r := by
      intro β l
      induction l with
      | nil => intro _ _ p hp; simp at hp
      | cons x l ih =>
        intro hsr hg p hp r hr h0
        rw [List.map_cons] at hsr
        have h1 := List.pairwise_cons.1 hsr
        rcases List.mem_cons.1 hp with e1 | hp'
        · rcases List.mem_cons.1 hr with e2 | hr'
          · rw [e1, e2]
          · have := h1.1 r.1 (List.mem_map.2 ⟨r, hr', rfl⟩); rw [e1] at h0; omega
        · rcases List.mem_cons.1 hr with e2 | hr'
          · have := h1.1 p.1 (List.mem_map.2 ⟨p, hp', rfl⟩); have := ho.neg p.1 r.1; rw [e2] at h0 this; omega
          · exact ih h1.2 (fun z hz => hg z (by simp [hz])) p hp' r hr' h0
    refine hk.impm fun p hp r hr h0 => ⟨h0, has_eqTr ho d (s6 p hp) (t6 r hr) fun q gq => ?_⟩
    match q, gq with
    | [], _ => exact ⟨fun h => absurd h Tr.has_nil, fun h => absurd h Tr.has_nil⟩
    | a :: q, gq =>
      have g3 : GP G (p.1 :: a :: q) := fun z hz => (List.mem_cons.1 hz).elim (fun e => e ▸ s4 p hp) (gq z)
      have h1 := hh (p.1 :: a :: q) g3
      rw [Tr.has_cons (by simp), Tr.has_cons (by simp)] at h1
      constructor
      · intro h
        obtain ⟨r2, hr2, k1, k2⟩ := h1.1 ⟨p, hp, ho.self _, h⟩
        have : r2 = r := huniq t3 t4 r2 hr2 r hr (by rw [ho.congr' (s4 p hp) (t4 r hr) (t4 r2 hr2) h0] at k1; exact k1)
        exact this ▸ k2
      · intro h
        obtain ⟨p2, hp2, k1, k2⟩ := h1.2 ⟨r, hr, ho.sym h0, h⟩
        exact (huniq s3 s4 p2 hp2 p hp k1) ▸ k2
end

def eqBt : Nat → St → St → Bool
  | 0, _, _ => true
  | d + 1, s, t => listB eqE s.ms t.ms && listB (fun p q => eqE p.1 q.1 && eqBt d p.2 q.2) s.cs t.cs
theorem listB_all2 {α : Type} {f : α → α → Bool} : ∀ {l m : List α}, listB f l m = true ↔ All2 (fun a b => f a b = true) l m
  | [], [] => by simp [listB, pairB]; exact .nil
  | [], _ :: _ => by simp [listB]; intro h; cases h
  | _ :: _, [] => by simp [listB]; intro h; cases h
  | x :: l, y :: m => by
    have ih := listB_all2 (f := f) (l := l) (m := m)
    simp only [listB, Bool.and_eq_true, decide_eq_true_eq] at ih
    simp only [listB, List.length_cons, pairB, Bool.and_eq_true, decide_eq_true_eq, Nat.add_right_cancel_iff]
    constructor
    · rintro ⟨h1, h2, h3⟩; exact .cons h2 (ih.1 ⟨h1, h3⟩)
    · intro h
      cases h with
      | cons h1 h2 => have := ih.2 h2; exact ⟨this.1, h1, this.2⟩
theorem goodE_eqE {x y : PEl} (hx : GoodE x) (hy : GoodE y) : eqE x y = true ↔ cmpPe x y = 0 := by
  obtain ⟨e, h1, -, rfl⟩ := hx
  obtain ⟨f, g1, -, rfl⟩ := hy
  exact eqE_cmp0 h1 g1
theorem eqBt_iff : ∀ (d : Nat) {s t : St}, Tr.Wf cmpPe GoodE s → Tr.Wf cmpPe GoodE t → (eqBt d s t = true ↔ eqTr cmpPe d s t)
  | 0, _, _, _, _ => by simp [eqBt, eqTr]
  | d + 1, s, t, hs, ht => by
    obtain ⟨s1, s2, s3, s4, s5, s6⟩ := Tr.wf_parts hs
    obtain ⟨t1, t2, t3, t4, t5, t6⟩ := Tr.wf_parts ht
    simp only [eqBt, eqTr, Bool.and_eq_true, listB_all2]
    constructor
    · rintro ⟨h1, h2⟩
      exact ⟨h1.impm fun x hx y hy h => (goodE_eqE (s2 x hx) (t2 y hy)).1 h, h2.impm fun p hp q hq h => ⟨(goodE_eqE (s4 p hp) (t4 q hq)).1 h.1, (eqBt_iff d (s6 p hp) (t6 q hq)).1 h.2⟩⟩
    · rintro ⟨h1, h2⟩
      exact ⟨h1.impm fun x hx y hy h => (goodE_eqE (s2 x hx) (t2 y hy)).2 h, h2.impm fun p hp q hq h => ⟨(goodE_eqE (s4 p hp) (t4 q hq)).2 h.1, (eqBt_iff d (s6 p hp) (t6 q hq)).2 h.2⟩⟩
theorem kSt_dep : ∀ (d : Nat) {w : World} {X : List Nat} {cs : List Value} {s : St}, (kSt d).is w X cs s → Tr.dep d s
  | 0, _, _, _, _, h => h.elim
  | d + 1, w, X, cs, s, ⟨b, vm, vc, _, _, _, _, _, h⟩ => by
    obtain ⟨_, _, _, _, _, _, _, _, h5⟩ := h.ex
    intro p hp
    obtain ⟨i, hi, rfl⟩ := List.getElem_of_mem hp
    obtain ⟨cs', _, pc, sc, _, _, h3⟩ := h5 i hi
    exact kSt_dep d h3
theorem eqBt_law {d e : Nat} {w : World} {X Y : List Nat} {cs ds : List Value} {s t : St} (h1 : (kSt d).is w X cs s) (hs : Tr.Wf cmpPe GoodE s) (ht : Tr.Wf cmpPe GoodE t) : eqBt d s t = true ↔ ∀ q, GP GoodE q → (Tr.has cmpPe s q ↔ Tr.has cmpPe t q) := by
  rw [eqBt_iff d hs ht]
  exact ⟨eqTr_has goodE_ord d (kSt_dep d h1) hs ht, has_eqTr goodE_ord d hs ht⟩
/-- a set node, cell by cell -/
theorem node5 {d : Nat} {w : World} {X : List Nat} {cs : List Value} {n : PEl × St} (h : (kNd (kSt d)).is w X cs n) : ∃ c0 c1 c2 c3 c4, cs = [c0, c1, c2, c3, c4] ∧ kPe.is w X [c0, c1, c2, c3] n.1 ∧ (kSt d).is w X [c4] n.2 ∧ c0.oneCell' = true ∧ c1.oneCell' = true ∧ c2.oneCell' = true ∧ c3.oneCell' = true ∧ c4.oneCell' = true := by
  have h1 := (kNd (kSt d)).one h
  obtain ⟨pc, sc, rfl, hp, hs⟩ := h
  obtain ⟨c0, c1, c2, c3, rfl⟩ := kPe_four hp
  have hl := (kSt d).len hs
  rw [kSt_size] at hl
  match sc, hl, hs with
  | [c4], _, hs => exact ⟨c0, c1, c2, c3, c4, rfl, hp, hs, h1 _ (by simp), h1 _ (by simp), h1 _ (by simp), h1 _ (by simp), h1 _ (by simp)⟩

set_option maxRecDepth 100000 in
set_option maxHeartbeats 4000000 in
set_option pp.maxSteps 1000000 in
set_option pp.deepTerms true in
theorem peSetEquals_c {w : World} {X Y : List Nat} {b1 o1 b2 o2 : Nat} {sv tv : Value} {us ts : List PEl} (h1 : w.cell? ⟨b1, o1, none⟩ = some sv) (h2 : w.cell? ⟨b2, o2, none⟩ = some tv) (hs : IsSl kPe 32 w X sv us) (ht : IsSl kPe 32 w Y tv ts)
    (R : Ending → World → Prop) (hR : Ends R w (.bool (listB eqE us ts))) : Calls Tryz.prog 122 #[.pointer (some ⟨b1, o1, none⟩), .pointer (some ⟨b2, o2, none⟩)] w R := by
  obtain ⟨o, c, b, off, rfl, l2, l3, l4, l5⟩ := id hs.ex
  obtain ⟨p, e, g, goff, rfl, m2, m3, m4, m5⟩ := id ht.ex
  have l4' := Lib.hid l4
  have l5' := Lib.hid l5
  have m4' := Lib.hid m4
  have m5' := Lib.hid m5
  have hR' := Lib.hid hR
  have hpI : (us.length : Int) ≤ 140737488351232 := by omega
  clear hR hs ht l4 l5 m4 m5 l3 m3 l2 m2
  by_cases hlen : us.length = ts.length
  · have hlenI : ((us.length : Int) != (ts.length : Int)) = false := by simp [hlen]
    have hlen' := Lib.hid hlen
    clear hlen
    go_enter Tryz.func122, Tryz.ntmps122
    go_wp2_with fail
    refine wp_region_script (List.range 11) [] (fun w' => w' = w.drew) [(.read, 0), (.read, 1), (.read, 2), (.read, 3), (.read, 4), (.read, 5), (.read, 6), (.read, 7), (.read, 8), (.read, 9), (.read, 10)] (by kernel_rfl) (by kernel_rfl) ?_
    iterate 11 (first | (apply scr_r; (· rfl); (· (first | rfl | (simp [Region.wanted, yielded, go_sem]; done) | (simp [Region.wanted, yielded, go_sem, *]; done))); (· (go_simp; try rfl)); (· (simp [go_sem]; try rfl))) | (apply scr_r0; (· rfl); (· (first | rfl | (simp [Region.wanted, yielded, go_sem]; done) | (simp [Region.wanted, yielded, go_sem, *]; done))); (· (simp [go_sem]; try rfl))))
    refine scr_end ?_
    simp only [Exit.then]
    have hEd : Ext w w.drew := (Ext.refl w).drew
    replace h1 := hEd.keep h1
    replace h2 := hEd.keep h2
    go_wp2_with fail
    go_loopw [5, 22] (fun _ i wr => ∃ k : Nat, k ≤ us.length ∧ i = .int .i64 k ∧ Ext w wr ∧ Ext w.drew wr ∧ Hid (∀ j (h : j < us.length) (h2 : j < ts.length), j < k → eqE us[j] ts[j] = true)) (fun _ i _ => us.length - (intOf i).toNat)
    case atStart => exact ⟨0, Nat.zero_le _, rfl, hEd, Ext.refl _, Lib.hid fun j _ _ hj => by omega⟩
    case round =>
      obtain ⟨k, hk, rfl, hEr, hEr2, hall⟩ := hrel
      rename World => wr
      replace h1 := hEr2.keep h1
      replace h2 := hEr2.keep h2
      by_cases hlt : k < us.length
      · have hlt2 : k < ts.length := by have := hlen'.out; omega
        obtain ⟨cs, hc, hcs⟩ := l5'.out k hlt
        obtain ⟨ds, hd, hds⟩ := m5'.out k hlt2
        obtain ⟨rfl, -⟩ := l4'.out (by omega)
        obtain ⟨rfl, -⟩ := m4'.out (by omega)
        have cone := kPe.one hcs
        have done := kPe.one hds
        obtain ⟨c0, c1, c2, c3, rfl⟩ := kPe_four hcs
        obtain ⟨d0, d1, d2, d3, rfl⟩ := kPe_four hds
        have x0 := hEr.keep (hc 0 (by decide))
        have x1 := hEr.keep (hc 1 (by decide))
        have x2 := hEr.keep (hc 2 (by decide))
        have x3 := hEr.keep (hc 3 (by decide))
        have y0 := hEr.keep (hd 0 (by decide))
        have y1 := hEr.keep (hd 1 (by decide))
        have y2 := hEr.keep (hd 2 (by decide))
        have y3 := hEr.keep (hd 3 (by decide))
        simp only [show kPe.size = 4 from rfl, Nat.add_zero] at x0 x1 x2 x3 y0 y1 y2 y3
        have hcs' := Lib.hid hcs
        have hds' := Lib.hid hds
        clear cone done
        have hi1 : (k : Int) < (us.length : Int) := by omega
        have hi2 : (k : Int) < (ts.length : Int) := by omega
        have hkm : (k : Int) + 1 ≤ 9223372036854775807 := by omega
        have hEr' := Lib.hid hEr
        have hErd := Lib.hid hEr2
        clear hc hd hcs hds hEr2 hEd
        go_wp2_with fail
        refine wp_region_script [0, 1, 2, 3, 4, 5, 6, 7, 8, 9, 10, 11, 12, 13, 15] [] (fun w' => Ext wr w') [(.pure, 0), (.pure, 1), (.pure, 2), (.read, 3), (.pure, 4), (.pure, 5), (.read, 6), (.pure, 7), (.pure, 8), (.pure, 9), (.read, 10), (.pure, 11), (.pure, 12), (.read, 13), (.one, 14), (.pure, 15)] (by kernel_rfl) (by kernel_rfl) ?_
        have hC : Ext wr wr.drew := (Ext.refl wr).drew
        iterate 3 (apply scr_pure'; (· rfl); (· rfl); (· (intro w'; go_simp; try rfl)); (· (simp [go_sem]; try rfl)))
        (apply scr_read'; (· rfl); (· rfl); (· first | exact hC | exact (Ext.refl _).drew); (· (intro w' hw'; have h1_ := hw'.keep h1; go_simp; try rfl)); (· (simp [go_sem]; try rfl)))
        iterate 2 (apply scr_pure'; (· rfl); (· rfl); (· (intro w'; go_simp; try rfl)); (· (simp [go_sem]; try rfl)))
        (apply scr_read'; (· rfl); (· rfl); (· first | exact hC | exact (Ext.refl _).drew); (· (intro w' hw'; have x0_ := hw'.keep x0; have x1_ := hw'.keep x1; have x2_ := hw'.keep x2; have x3_ := hw'.keep x3; go_simp; try rfl)); (· (simp [go_sem]; try rfl)))
        iterate 3 (apply scr_pure'; (· rfl); (· rfl); (· (intro w'; go_simp; try rfl)); (· (simp [go_sem]; try rfl)))
        (apply scr_read'; (· rfl); (· rfl); (· first | exact hC | exact (Ext.refl _).drew); (· (intro w' hw'; have h2_ := hw'.keep h2; go_simp; try rfl)); (· (simp [go_sem]; try rfl)))
        iterate 2 (apply scr_pure'; (· rfl); (· rfl); (· (intro w'; go_simp; try rfl)); (· (simp [go_sem]; try rfl)))
        (apply scr_read'; (· rfl); (· rfl); (· first | exact hC | exact (Ext.refl _).drew); (· (intro w' hw'; have y0_ := hw'.keep y0; have y1_ := hw'.keep y1; have y2_ := hw'.keep y2; have y3_ := hw'.keep y3; go_simp; try rfl)); (· (simp [go_sem]; try rfl)))
        refine scr_one rfl rfl (fun K hK => ?_)
        go_simp
        refine peEquals_c (cs := [c0, c1, c2, c3]) (ds := [d0, d1, d2, d3]) (kPe.mv hcs'.out ((hEr'.out.trans hC).mv X)) (kPe.mv hds'.out ((hEr'.out.trans hC).mv Y)) _ ?_
        obtain ⟨bb, hbb⟩ : ∃ bb, eqE us[k] ts[k] = bb := ⟨_, rfl⟩
        rw [hbb]
        intro w3 hE3
        refine hK _ _ (fun h => by simp at h) ?_
        have hbb' := Lib.hid hbb
        have hE3' := Lib.hid ((hEr'.out.trans hC).trans hE3)
        have hEd3 := Lib.hid ((hErd.out.trans hC).trans hE3)
        clear hK hbb hE3 hC x0 x1 x2 x3 y0 y1 y2 y3 hEr
        cases bb
        · (apply scr_pure'; (· rfl); (· rfl); (· (intro w'; go_simp; try rfl)); (· (simp [go_sem]; try rfl)))
          refine scr_end ?_
          simp only [Exit.then]
          go_wp2_with fail
          have hf : listB eqE us ts = false := by
            rw [← Bool.not_eq_true]
            intro h
            simp only [listB, Bool.and_eq_true, decide_eq_true_eq] at h
            have := (pairB_iff (f := eqE) h.1).1 h.2 k hlt hlt2
            rw [hbb'.out] at this
            cases this
          have := hR'.out
          rw [hf] at this
          exact this _ hE3'.out
        · (apply scr_pure'; (· rfl); (· rfl); (· (intro w'; go_simp; try rfl)); (· (simp [go_sem]; try rfl)))
          refine scr_end ?_
          simp only [Exit.then]
          go_wp2_with fail
          go_roundw
          case rel =>
            refine ⟨k + 1, by omega, by go_num, hE3'.out, hEd3.out, Lib.hid fun j h h2 hj => ?_⟩
            by_cases e : j = k
            · subst e; exact hbb'.out
            · exact hall.out j h h2 (by omega)
          case measure => simp [intOf]; omega
      · have hi1 : ¬ (k : Int) < (us.length : Int) := by omega
        have hf : listB eqE us ts = true := by
          simp only [listB, Bool.and_eq_true, decide_eq_true_eq]
          exact ⟨hlen'.out, (pairB_iff hlen'.out).2 fun j h h2 => hall.out j h h2 (by omega)⟩
        rw [hf] at hR'
        clear hf hall
        go_wp2_with fail
        exact hR'.out _ hEr
  · have hlenI : ((us.length : Int) != (ts.length : Int)) = true := by rw [bne_iff_ne]; omega
    have hf : listB eqE us ts = false := by simp [listB, hlen]
    rw [hf] at hR'
    clear hf
    go_enter Tryz.func122, Tryz.ntmps122
    go_wp2_with fail
    refine wp_region_script (List.range 11) [] (fun w' => w' = w.drew) [(.read, 0), (.read, 1), (.read, 2), (.read, 3), (.read, 4), (.read, 5), (.read, 6), (.read, 7), (.read, 8), (.read, 9), (.read, 10)] (by kernel_rfl) (by kernel_rfl) ?_
    iterate 11 (first | (apply scr_r; (· rfl); (· (first | rfl | (simp [Region.wanted, yielded, go_sem]; done) | (simp [Region.wanted, yielded, go_sem, *]; done))); (· (go_simp; try rfl)); (· (simp [go_sem]; try rfl))) | (apply scr_r0; (· rfl); (· (first | rfl | (simp [Region.wanted, yielded, go_sem]; done) | (simp [Region.wanted, yielded, go_sem, *]; done))); (· (simp [go_sem]; try rfl))))
    refine scr_end ?_
    simp only [Exit.then]
    go_wp2_with fail
    exact hR'.out _ (Ext.refl w).drew

/-- Set.Equals over two pointers to sets -/
def EqSC (d e : Nat) : Prop := ∀ {w : World} {X Y : List Nat} {sv tv : Value} {s t : St}, (kSt d).is w X [sv] s → (kSt e).is w Y [tv] t → ∀ R : Ending → World → Prop, Ends R w (.bool (eqBt d s t)) →
  Calls Tryz.prog 69 #[sv, tv] w R
set_option maxRecDepth 100000 in
set_option maxHeartbeats 4000000 in
set_option pp.maxSteps 1000000 in
set_option pp.deepTerms true in
theorem nodeEquals_c {d e0 : Nat} (ih : EqSC d e0) {w : World} {X Y : List Nat} {b1 o1 b2 o2 : Nat} {sv tv : Value} {us ts : List (PEl × St)} (h1 : w.cell? ⟨b1, o1, none⟩ = some sv) (h2 : w.cell? ⟨b2, o2, none⟩ = some tv) (hs : IsSl (kNd (kSt d)) 40 w X sv us) (ht : IsSl (kNd (kSt e0)) 40 w Y tv ts)
    (R : Ending → World → Prop) (hR : Ends R w (.bool (listB (fun p q => eqE p.1 q.1 && eqBt d p.2 q.2) us ts))) : Calls Tryz.prog 123 #[.pointer (some ⟨b1, o1, none⟩), .pointer (some ⟨b2, o2, none⟩)] w R := by
  obtain ⟨o, c, b, off, rfl, l2, l3, l4, l5⟩ := id hs.ex
  obtain ⟨p, e, g, goff, rfl, m2, m3, m4, m5⟩ := id ht.ex
  have l4' := Lib.hid l4
  have l5' := Lib.hid l5
  have m4' := Lib.hid m4
  have m5' := Lib.hid m5
  have hR' := Lib.hid hR
  have ih' : Hid (EqSC d e0) := Lib.hid ih
  have hpI : (us.length : Int) ≤ 140737488351232 := by omega
  clear hR hs ht l4 l5 m4 m5 l3 m3 l2 m2 ih
  by_cases hlen : us.length = ts.length
  · have hlenI : ((us.length : Int) != (ts.length : Int)) = false := by simp [hlen]
    have hlen' := Lib.hid hlen
    clear hlen
    go_enter Tryz.func123, Tryz.ntmps123
    go_wp2_with fail
    refine wp_region_script (List.range 11) [] (fun w' => w' = w.drew) [(.read, 0), (.read, 1), (.read, 2), (.read, 3), (.read, 4), (.read, 5), (.read, 6), (.read, 7), (.read, 8), (.read, 9), (.read, 10)] (by kernel_rfl) (by kernel_rfl) ?_
    iterate 11 (first | (apply scr_r; (· rfl); (· (first | rfl | (simp [Region.wanted, yielded, go_sem]; done) | (simp [Region.wanted, yielded, go_sem, *]; done))); (· (go_simp; try rfl)); (· (simp [go_sem]; try rfl))) | (apply scr_r0; (· rfl); (· (first | rfl | (simp [Region.wanted, yielded, go_sem]; done) | (simp [Region.wanted, yielded, go_sem, *]; done))); (· (simp [go_sem]; try rfl))))
    refine scr_end ?_
    simp only [Exit.then]
    have hEd : Ext w w.drew := (Ext.refl w).drew
    replace h1 := hEd.keep h1
    replace h2 := hEd.keep h2
    go_wp2_with fail
    go_loopw [5, 22] (fun _ i wr => ∃ k : Nat, k ≤ us.length ∧ i = .int .i64 k ∧ Ext w wr ∧ Ext w.drew wr ∧ Hid (∀ j (h : j < us.length) (h2 : j < ts.length), j < k → (fun p q => eqE p.1 q.1 && eqBt d p.2 q.2) us[j] ts[j] = true)) (fun _ i _ => us.length - (intOf i).toNat)
    case atStart => exact ⟨0, Nat.zero_le _, rfl, hEd, Ext.refl _, Lib.hid fun j _ _ hj => by omega⟩
    case round =>
      obtain ⟨k, hk, rfl, hEr, hEr2, hall⟩ := hrel
      rename World => wr
      replace h1 := hEr2.keep h1
      replace h2 := hEr2.keep h2
      by_cases hlt : k < us.length
      · have hlt2 : k < ts.length := by have := hlen'.out; omega
        obtain ⟨cs, hc, hcs⟩ := l5'.out k hlt
        obtain ⟨ds, hd, hds⟩ := m5'.out k hlt2
        obtain ⟨rfl, -⟩ := l4'.out (by omega)
        obtain ⟨rfl, -⟩ := m4'.out (by omega)
        rw [kNd_size] at hc hd
        obtain ⟨c0, c1, c2, c3, c4, rfl, hcp, hcst, -, -, -, -, -⟩ := node5 hcs
        obtain ⟨d0, d1, d2, d3, d4, rfl, hdp, hdst, -, -, -, -, -⟩ := node5 hds
        have cone := kPe.one hcp
        have done := kPe.one hdp
        have c4o := (kSt d).one hcst c4 (by simp)
        have d4o := (kSt e0).one hdst d4 (by simp)
        have x0 := hEr.keep (hc 0 (by decide))
        have x1 := hEr.keep (hc 1 (by decide))
        have x2 := hEr.keep (hc 2 (by decide))
        have x3 := hEr.keep (hc 3 (by decide))
        have x4 := hEr.keep (hc 4 (by decide))
        have y0 := hEr.keep (hd 0 (by decide))
        have y1 := hEr.keep (hd 1 (by decide))
        have y2 := hEr.keep (hd 2 (by decide))
        have y3 := hEr.keep (hd 3 (by decide))
        have y4 := hEr.keep (hd 4 (by decide))
        simp only [Nat.add_zero] at x0 y0
        have hcs' := Lib.hid hcp
        have hds' := Lib.hid hdp
        have hcst' := Lib.hid hcst
        have hdst' := Lib.hid hdst
        clear cone done hcp hdp hcst hdst
        have hi1 : (k : Int) < (us.length : Int) := by omega
        have hi2 : (k : Int) < (ts.length : Int) := by omega
        have hkm : (k : Int) + 1 ≤ 9223372036854775807 := by omega
        have hEr' := Lib.hid hEr
        have hErd := Lib.hid hEr2
        clear hc hd hcs hds hEr2 hEd
        go_wp2_with fail
        refine wp_region_script [0, 1, 2, 3, 4, 5, 6, 7, 8, 9, 10, 11, 12, 13, 14, 15, 17] [] (fun w' => Ext wr w') [(.pure, 0), (.pure, 1), (.pure, 2), (.read, 3), (.pure, 4), (.pure, 5), (.pure, 6), (.read, 7), (.pure, 8), (.pure, 9), (.pure, 10), (.read, 11), (.pure, 12), (.pure, 13), (.pure, 14), (.read, 15), (.one, 16), (.pure, 17)] (by kernel_rfl) (by kernel_rfl) ?_
        have hC : Ext wr wr.drew := (Ext.refl wr).drew
        iterate 3 (apply scr_pure'; (· rfl); (· rfl); (· (intro w'; go_simp; try rfl)); (· (simp [go_sem]; try rfl)))
        (apply scr_read'; (· rfl); (· rfl); (· first | exact hC | exact (Ext.refl _).drew); (· (intro w' hw'; have h1_ := hw'.keep h1; go_simp; try rfl)); (· (simp [go_sem]; try rfl)))
        iterate 3 (apply scr_pure'; (· rfl); (· rfl); (· (intro w'; go_simp; try rfl)); (· (simp [go_sem]; try rfl)))
        (apply scr_read'; (· rfl); (· rfl); (· first | exact hC | exact (Ext.refl _).drew); (· (intro w' hw'; have x0_ := hw'.keep x0; have x1_ := hw'.keep x1; have x2_ := hw'.keep x2; have x3_ := hw'.keep x3; go_simp; try rfl)); (· (simp [go_sem]; try rfl)))
        iterate 3 (apply scr_pure'; (· rfl); (· rfl); (· (intro w'; go_simp; try rfl)); (· (simp [go_sem]; try rfl)))
        (apply scr_read'; (· rfl); (· rfl); (· first | exact hC | exact (Ext.refl _).drew); (· (intro w' hw'; have h2_ := hw'.keep h2; go_simp; try rfl)); (· (simp [go_sem]; try rfl)))
        iterate 3 (apply scr_pure'; (· rfl); (· rfl); (· (intro w'; go_simp; try rfl)); (· (simp [go_sem]; try rfl)))
        (apply scr_read'; (· rfl); (· rfl); (· first | exact hC | exact (Ext.refl _).drew); (· (intro w' hw'; have y0_ := hw'.keep y0; have y1_ := hw'.keep y1; have y2_ := hw'.keep y2; have y3_ := hw'.keep y3; go_simp; try rfl)); (· (simp [go_sem]; try rfl)))
        refine scr_one rfl rfl (fun K hK => ?_)
        go_simp
        refine peEquals_c (cs := [c0, c1, c2, c3]) (ds := [d0, d1, d2, d3]) (kPe.mv hcs'.out ((hEr'.out.trans hC).mv X)) (kPe.mv hds'.out ((hEr'.out.trans hC).mv Y)) _ ?_
        obtain ⟨bb, hbb⟩ : ∃ bb, eqE us[k].1 ts[k].1 = bb := ⟨_, rfl⟩
        rw [hbb]
        intro w3 hE3
        refine hK _ _ (fun h => by simp at h) ?_
        have hbb' := Lib.hid hbb
        have hE3' := Lib.hid ((hEr'.out.trans hC).trans hE3)
        have hEd3 := Lib.hid ((hErd.out.trans hC).trans hE3)
        have hE3k := Lib.hid (hC.trans hE3)
        clear hK hbb hE3 hC x0 x1 x2 x3 y0 y1 y2 y3 hEr
        cases bb
        · (apply scr_pure'; (· rfl); (· rfl); (· (intro w'; go_simp; try rfl)); (· (simp [go_sem]; try rfl)))
          refine scr_end ?_
          simp only [Exit.then]
          go_wp2_with fail
          have hf : listB (fun p q => eqE p.1 q.1 && eqBt d p.2 q.2) us ts = false := by
            rw [← Bool.not_eq_true]
            intro h
            simp only [listB, Bool.and_eq_true, decide_eq_true_eq] at h
            have := (pairB_iff (f := (fun p q => eqE p.1 q.1 && eqBt d p.2 q.2)) h.1).1 h.2 k hlt hlt2
            rw [hbb'.out] at this
            cases this
          have := hR'.out
          rw [hf] at this
          exact this _ hE3'.out
        · (apply scr_pure'; (· rfl); (· rfl); (· (intro w'; go_simp; try rfl)); (· (simp [go_sem]; try rfl)))
          refine scr_end ?_
          simp only [Exit.then]
          replace h1 := hE3k.out.keep h1
          replace h2 := hE3k.out.keep h2
          replace x4 := hE3k.out.keep x4
          replace y4 := hE3k.out.keep y4
          go_wp2_with fail
          refine wp_region_script [0, 1, 2, 3, 4, 5, 6, 7, 8, 9, 10, 11, 12, 13, 14, 15, 17] [] (fun w' => Ext w3 w') [(.pure, 0), (.pure, 1), (.pure, 2), (.read, 3), (.pure, 4), (.pure, 5), (.pure, 6), (.read, 7), (.pure, 8), (.pure, 9), (.pure, 10), (.read, 11), (.pure, 12), (.pure, 13), (.pure, 14), (.read, 15), (.one, 16), (.pure, 17)] (by kernel_rfl) (by kernel_rfl) ?_
          have hC : Ext w3 w3.drew := (Ext.refl w3).drew
          iterate 3 (apply scr_pure'; (· rfl); (· rfl); (· (intro w'; go_simp; try rfl)); (· (simp [go_sem]; try rfl)))
          (apply scr_read'; (· rfl); (· rfl); (· first | exact hC | exact (Ext.refl _).drew); (· (intro w' hw'; have h1_ := hw'.keep h1; go_simp; try rfl)); (· (simp [go_sem]; try rfl)))
          iterate 3 (apply scr_pure'; (· rfl); (· rfl); (· (intro w'; go_simp; try rfl)); (· (simp [go_sem]; try rfl)))
          (apply scr_read'; (· rfl); (· rfl); (· first | exact hC | exact (Ext.refl _).drew); (· (intro w' hw'; have x4_ := hw'.keep x4; go_simp; try rfl)); (· (simp [go_sem]; try rfl)))
          iterate 3 (apply scr_pure'; (· rfl); (· rfl); (· (intro w'; go_simp; try rfl)); (· (simp [go_sem]; try rfl)))
          (apply scr_read'; (· rfl); (· rfl); (· first | exact hC | exact (Ext.refl _).drew); (· (intro w' hw'; have h2_ := hw'.keep h2; go_simp; try rfl)); (· (simp [go_sem]; try rfl)))
          iterate 3 (apply scr_pure'; (· rfl); (· rfl); (· (intro w'; go_simp; try rfl)); (· (simp [go_sem]; try rfl)))
          (apply scr_read'; (· rfl); (· rfl); (· first | exact hC | exact (Ext.refl _).drew); (· (intro w' hw'; have y4_ := hw'.keep y4; go_simp; try rfl)); (· (simp [go_sem]; try rfl)))
          refine scr_one rfl rfl (fun K hK => ?_)
          go_simp
          refine ih'.out ((kSt d).mv hcst'.out ((hE3'.out.trans hC).mv X)) ((kSt e0).mv hdst'.out ((hE3'.out.trans hC).mv Y)) _ ?_
          obtain ⟨b2, hb2⟩ : ∃ b2, eqBt d us[k].2 ts[k].2 = b2 := ⟨_, rfl⟩
          rw [hb2]
          intro w4 hE4
          refine hK _ _ (fun h => by simp at h) ?_
          have hb2' := Lib.hid hb2
          have hE5' := Lib.hid ((hE3'.out.trans hC).trans hE4)
          have hEd5 := Lib.hid ((hEd3.out.trans hC).trans hE4)
          clear hK hb2 hE4 hC x4 y4
          cases b2
          · (apply scr_pure'; (· rfl); (· rfl); (· (intro w'; go_simp; try rfl)); (· (simp [go_sem]; try rfl)))
            refine scr_end ?_
            simp only [Exit.then]
            go_wp2_with fail
            have hf : listB (fun p q => eqE p.1 q.1 && eqBt d p.2 q.2) us ts = false := by
              rw [← Bool.not_eq_true]
              intro h
              simp only [listB, Bool.and_eq_true, decide_eq_true_eq] at h
              have := (pairB_iff (f := (fun p q => eqE p.1 q.1 && eqBt d p.2 q.2)) h.1).1 h.2 k hlt hlt2
              rw [hbb'.out, hb2'.out] at this
              cases this
            have := hR'.out
            rw [hf] at this
            exact this _ hE5'.out
          · (apply scr_pure'; (· rfl); (· rfl); (· (intro w'; go_simp; try rfl)); (· (simp [go_sem]; try rfl)))
            refine scr_end ?_
            simp only [Exit.then]
            go_wp2_with fail
            go_roundw
            case rel =>
              refine ⟨k + 1, by omega, by go_num, hE5'.out, hEd5.out, Lib.hid fun j h h2 hj => ?_⟩
              by_cases e : j = k
              · subst e; rw [hbb'.out, hb2'.out]; rfl
              · exact hall.out j h h2 (by omega)
            case measure => simp [intOf]; omega
      · have hi1 : ¬ (k : Int) < (us.length : Int) := by omega
        have hf : listB (fun p q => eqE p.1 q.1 && eqBt d p.2 q.2) us ts = true := by
          simp only [listB, Bool.and_eq_true, decide_eq_true_eq]
          exact ⟨hlen'.out, (pairB_iff hlen'.out).2 fun j h h2 => hall.out j h h2 (by omega)⟩
        rw [hf] at hR'
        clear hf hall
        go_wp2_with fail
        exact hR'.out _ hEr
  · have hlenI : ((us.length : Int) != (ts.length : Int)) = true := by rw [bne_iff_ne]; omega
    have hf : listB (fun p q => eqE p.1 q.1 && eqBt d p.2 q.2) us ts = false := by simp [listB, hlen]
    rw [hf] at hR'
    clear hf
    go_enter Tryz.func123, Tryz.ntmps123
    go_wp2_with fail
    refine wp_region_script (List.range 11) [] (fun w' => w' = w.drew) [(.read, 0), (.read, 1), (.read, 2), (.read, 3), (.read, 4), (.read, 5), (.read, 6), (.read, 7), (.read, 8), (.read, 9), (.read, 10)] (by kernel_rfl) (by kernel_rfl) ?_
    iterate 11 (first | (apply scr_r; (· rfl); (· (first | rfl | (simp [Region.wanted, yielded, go_sem]; done) | (simp [Region.wanted, yielded, go_sem, *]; done))); (· (go_simp; try rfl)); (· (simp [go_sem]; try rfl))) | (apply scr_r0; (· rfl); (· (first | rfl | (simp [Region.wanted, yielded, go_sem]; done) | (simp [Region.wanted, yielded, go_sem, *]; done))); (· (simp [go_sem]; try rfl))))
    refine scr_end ?_
    simp only [Exit.then]
    go_wp2_with fail
    exact hR'.out _ (Ext.refl w).drew

set_option maxRecDepth 100000 in
set_option maxHeartbeats 4000000 in
set_option pp.maxSteps 1000000 in
set_option pp.deepTerms true in
theorem setEquals_step {d e : Nat} (ih : EqSC d e) : EqSC (d + 1) (e + 1) := by
  intro w X Y sv tv s t hs ht R hR
  obtain ⟨b, vm, vc, hsv, hbX, c0, c1, hms, hcs⟩ := hs
  obtain ⟨g, um, uc, htv, hgY, d0, d1, hmt, hct⟩ := ht
  cases hsv
  cases htv
  have hms' := Lib.hid hms
  have hcs' := Lib.hid hcs
  have hmt' := Lib.hid hmt
  have hct' := Lib.hid hct
  have hR' := Lib.hid hR
  have ih' : Hid (EqSC d e) := Lib.hid ih
  clear hms hcs hmt hct hR ih hbX hgY
  go_enter Tryz.func69, Tryz.ntmps69
  go_wp2_with fail
  refine wp_region_script [0, 1, 2, 3, 4, 5, 7, 8, 9, 10, 11, 12, 13, 15, 16] [] (fun w' => Ext w w') [(.pure, 0), (.pure, 1), (.pure, 2), (.pure, 3), (.pure, 4), (.pure, 5), (.one, 6), (.pure, 7), (.pure, 8), (.pure, 9), (.pure, 10), (.pure, 11), (.pure, 12), (.pure, 13), (.one, 14), (.pure, 15), (.pure, 16)] (by kernel_rfl) (by kernel_rfl) ?_
  have hC : Ext w w.drew := (Ext.refl w).drew
  iterate 6 (first | (apply scr_pG; (· rfl); (· (first | rfl | (simp [Region.wanted, yielded, go_sem]; done) | (simp [Region.wanted, yielded, go_sem, *]; done))); (· (intro w'; go_simp; try rfl)); (· (simp [go_sem]; try rfl))) | (apply scr_p0; (· rfl); (· (first | rfl | (simp [Region.wanted, yielded, go_sem]; done) | (simp [Region.wanted, yielded, go_sem, *]; done))); (· (simp [go_sem]; try rfl))))
  refine scr_oneG rfl (by simp [Region.wanted, yielded, go_sem]) (fun K hK => ?_)
  go_simp
  refine peSetEquals_c (hC.keep c0) (hC.keep d0) (hms'.out.mv (hC.mv X) (by decide)) (hmt'.out.mv (hC.mv Y) (by decide)) _ ?_
  obtain ⟨bb, hbb⟩ : ∃ bb, listB eqE (Tr.ms s) (Tr.ms t) = bb := ⟨_, rfl⟩
  rw [hbb]
  intro w3 hE3
  refine hK _ _ (fun h => by simp at h) ?_
  have hE3' := Lib.hid (hC.trans hE3)
  clear hK hE3 hC
  cases bb
  · have hf : eqBt (d + 1) s t = false := by simp [eqBt, hbb]
    rw [hf] at hR'
    clear hf hbb
    iterate 7 (first | (apply scr_pG; (· rfl); (· (first | rfl | (simp [Region.wanted, yielded, go_sem]; done) | (simp [Region.wanted, yielded, go_sem, *]; done))); (· (intro w'; go_simp; try rfl)); (· (simp [go_sem]; try rfl))) | (apply scr_p0; (· rfl); (· (first | rfl | (simp [Region.wanted, yielded, go_sem]; done) | (simp [Region.wanted, yielded, go_sem, *]; done))); (· (simp [go_sem]; try rfl))))
    refine scr_one0 rfl (by simp [Region.wanted, yielded, go_sem]) (fun h => by simp at h) (by simp [go_sem]; rfl) ?_
    iterate 2 (first | (apply scr_pG; (· rfl); (· (first | rfl | (simp [Region.wanted, yielded, go_sem]; done) | (simp [Region.wanted, yielded, go_sem, *]; done))); (· (intro w'; go_simp; try rfl)); (· (simp [go_sem]; try rfl))) | (apply scr_p0; (· rfl); (· (first | rfl | (simp [Region.wanted, yielded, go_sem]; done) | (simp [Region.wanted, yielded, go_sem, *]; done))); (· (simp [go_sem]; try rfl))))
    refine scr_end ?_
    simp only [Exit.then]
    go_wp2_with fail
    exact hR'.out _ hE3'.out
  · have hf : eqBt (d + 1) s t = listB (fun p q => eqE p.1 q.1 && eqBt d p.2 q.2) (Tr.cs s) (Tr.cs t) := by simp [eqBt, hbb]
    rw [hf] at hR'
    clear hf hbb
    iterate 7 (first | (apply scr_pG; (· rfl); (· (first | rfl | (simp [Region.wanted, yielded, go_sem]; done) | (simp [Region.wanted, yielded, go_sem, *]; done))); (· (intro w'; go_simp; try rfl)); (· (simp [go_sem]; try rfl))) | (apply scr_p0; (· rfl); (· (first | rfl | (simp [Region.wanted, yielded, go_sem]; done) | (simp [Region.wanted, yielded, go_sem, *]; done))); (· (simp [go_sem]; try rfl))))
    refine scr_oneG rfl (by simp [Region.wanted, yielded, go_sem]) (fun K hK => ?_)
    go_simp
    refine nodeEquals_c ih'.out (hE3'.out.keep c1) (hE3'.out.keep d1) (hcs'.out.mv (hE3'.out.mv X) (by rw [kNd_size]; decide)) (hct'.out.mv (hE3'.out.mv Y) (by rw [kNd_size]; decide)) _ ?_
    obtain ⟨b2, hb2⟩ : ∃ b2, listB (fun (p q : PEl × St) => eqE p.1 q.1 && eqBt d p.2 q.2) (Tr.cs s) (Tr.cs t) = b2 := ⟨_, rfl⟩
    rw [hb2] at hR' ⊢
    intro w4 hE4
    refine hK _ _ (fun h => by simp at h) ?_
    have hE4' := Lib.hid (hE3'.out.trans hE4)
    clear hK hE4 hb2
    cases b2
    all_goals
      iterate 2 (first | (apply scr_pG; (· rfl); (· (first | rfl | (simp [Region.wanted, yielded, go_sem]; done) | (simp [Region.wanted, yielded, go_sem, *]; done))); (· (intro w'; go_simp; try rfl)); (· (simp [go_sem]; try rfl))) | (apply scr_p0; (· rfl); (· (first | rfl | (simp [Region.wanted, yielded, go_sem]; done) | (simp [Region.wanted, yielded, go_sem, *]; done))); (· (simp [go_sem]; try rfl))))
      refine scr_end ?_
      simp only [Exit.then]
      go_wp2_with fail
      exact hR'.out _ hE4'.out
theorem setEquals_all : ∀ d e, EqSC d e
  | 0, _ => fun h => False.elim h
  | _ + 1, 0 => fun _ h => False.elim h
  | d + 1, e + 1 => setEquals_step (setEquals_all d e)
end Go.Proofs.YtihapgangilncaaGreat
