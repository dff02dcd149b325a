/- impl.fromTree: a tree taken apart. -/
import Derived.Test.YtihapgangilncaaGreatKFSort
import Derived.Test.YtihapgangilncaaGreatKFRow
import Derived.Test.YtihapgangilncaaGreatKFVal
namespace Go.Proofs.YtihapgangilncaaGreat
open Go.RowKit

def FromC (t : T) : Prop := ∀ (w : World) (X : List Nat) (x : Value), IsT w X x t → Old X w → ∀ R : Ending → World → Prop, (∀ w' cs, Ext w w' → IsV w' X cs t.back → R (.returned (.agg cs.toArray)) w') →
    Calls Tryz.prog 86 #[x] w R

set_option maxRecDepth 100000 in
set_option maxHeartbeats 2000000 in
set_option pp.maxSteps 1000000 in
set_option pp.deepTerms true in
theorem fromTree_list {l : List T} (ih : ∀ i (h : i < l.length), FromC (l[i])) : FromC (.list l) := by
  intro w X x hx hX R hR
  obtain ⟨v, rfl, hl⟩ := hx.inv_list
  obtain ⟨b, off, c, rfl, h2, h3, h4, h5⟩ := hl.ex
  have hR' := Lib.hid hR
  have hih := Lib.hid ih
  have hX' := Lib.hid hX
  clear hR ih hX hx hl
  go_enter Tryz.func86, Tryz.ntmps86
  go_wp2_with fail
  refine abs2 (G := Code.wp _ _ _ _) ?_
  intro w1 hE1 hb1 hb2 hs1
  go_loopw [43] (fun i wr => ∃ (k : Nat) (v : Value), k ≤ l.length ∧ i = .int .i64 k ∧ Ext w wr ∧ wr.heap[w.heap.size]? = w1.heap[w.heap.size]? ∧
      wr.heap[w.heap.size + 1]? = some (.cells #[.int .i64 5, .int .i64 0, .float .f64 0, .string ⟨#[]⟩, .slice none 0 0, v] 45 (0, 0)) ∧ (∀ g, v.ownBlock = some g → w.heap.size ≤ g) ∧
      Row kV 45 wr (w.heap.size :: (w.heap.size + 1) :: X) v ((T.backL l).take k))
    (fun i _ => l.length - (intOf i).toNat)
  case atStart => exact ⟨0, _, Nat.zero_le _, rfl, hE1, rfl, hb2, fun g hg => by simp [Value.ownBlock] at hg, Row.nil _ _ _ _⟩
  case round =>
    obtain ⟨k, v, hk, rfl, hE, hr1, hr2, hgv, hrow⟩ := hrel
    by_cases hlt : k < l.length
    · obtain ⟨x, q0, hx⟩ := h5 k hlt
      have hXX : Old (w.heap.size :: (w.heap.size + 1) :: X) wr := .cons (by have := hE1.size; have := (Array.getElem?_eq_some_iff.1 hr2).1; omega) (.cons ((Array.getElem?_eq_some_iff.1 hr2).1) (Old.le hX'.out hE.size))
      have hbk : b ∉ X := h4 (by omega)
      replace q0 := hE.keep q0
      have p5 : wr.cell? ⟨w.heap.size + 1, 5, none⟩ = some v := cells_of hr2 5
      have hlen : ((T.backL l).take k).length = k := by rw [List.length_take, T.backL_eq, List.length_map]; omega
      have hx' := Lib.hid hx
      have hlen' := Lib.hid hlen
      have hvo := hrow.one
      clear h4 h5 hx hlen hb1 hb2
      go_wp2_with fail
      refine wp_region_script [0, 1, 2, 6] [3, 4] (fun w' => Ext wr w') [(.pure, 0), (.read, 1), (.pure, 2), (.one, 3), (.one, 4), (.one, 5), (.pure, 6), (.one, 7)] (by kernel_rfl) (by kernel_rfl) ?_
      (apply scr_pure'; (· rfl); (· rfl); (· (intro w'; go_simp; try rfl)); (· (simp [go_sem]; try rfl)))
      (apply scr_read'; (· rfl); (· rfl); (· first | exact hC | exact (Ext.refl _).drew); (· (intro w' hw'; have p5_ := hw'.keep p5; go_simp; try rfl)); (· (simp [go_sem]; try rfl)))
      (apply scr_pure'; (· rfl); (· rfl); (· (intro w'; go_simp; try rfl)); (· (simp [go_sem]; try rfl)))
      refine scr_one rfl rfl (fun K hK => ?_)
      go_simp
      refine hih.out k hlt _ (vb v ++ (w.heap.size :: (w.heap.size + 1) :: X)) x (hx'.out.mv ((((hE.drew.mv X).more (n := w.heap.size + 1) (by omega)).more (Nat.le_refl _)).moreL fun z hz => hgv z (by simpa [vb] using hz))) ((hrow.ext (Ext.refl wr).drew).old (hXX.le (Ext.refl wr).drew.size)) _ ?_
      intro w3 cs hE3 hy
      obtain ⟨y, rfl⟩ := hy.shape
      have hy' := Lib.hid hy
      clear hy
      have hw3 := (Ext.refl wr).drew.trans hE3
      refine hK _ _ (fun _ => hw3) ?_
      clear hK
      simp only [Cells6.list]
      refine scr_one rfl rfl (fun K hK => ?_)
      go_simp
      refine hK _ _ (fun _ => hw3.push _) ?_
      clear hK
      refine scr_one rfl rfl (fun K hK => ?_)
      have hb3 : ((T.backL l).take k).length + 1 ≤ l.length := by rw [hlen'.out]; omega
      refine wp_rowApp (c := y.list.toArray) hrow hw3 (hXX.le hw3.size) hy'.out _ _ _ rfl Tryz.underlying42 Tryz.info45 rfl (by decide) (by go_simp) (by go_simp) (Nat.le_trans (Nat.mul_le_mul_right 88 hb3) (Nat.le_trans h3 (by decide))) (by rw [maxLen_eq]; omega) ?_
      intro v' w4 hrow4 hg4 hne4 hd4
      refine hK _ _ (fun h => by simp at h) ?_
      clear hK
      (apply scr_pure'; (· rfl); (· rfl); (· (intro w'; go_simp; try rfl)); (· (simp [go_sem]; try rfl)))
      have hb4 : w4.heap[w.heap.size + 1]? = _ := (hg4.block _ (by have := (Array.getElem?_eq_some_iff.1 hr2).1; have := hw3.size; omega) (hrow.notin (by simp))).trans ((hw3.below.block _ (Array.getElem?_eq_some_iff.1 hr2).1).trans hr2)
      have hb4r : w4.heap[w.heap.size]? = _ := (hg4.block _ (by have := (Array.getElem?_eq_some_iff.1 hr2).1; have := hw3.size; omega) (hrow.notin (by simp))).trans ((hw3.below.block _ (by have := (Array.getElem?_eq_some_iff.1 hr2).1; omega)).trans hr1)
      refine scr_one rfl rfl (fun K hK => ?_)
      refine wp_store1 _ _ _ rfl Tryz.info42 (p := ⟨w.heap.size + 1, 5, none⟩) (v := v') rfl rfl hrow4.one (by rw [cells_of hb4 5]; rfl) (frozen_of_row _ _ _ _ _ hb4) ?_
      refine hK _ _ (fun h => by simp at h) ?_
      clear hK
      obtain ⟨hh5, hg5, hs5⟩ := set_facts (off := 5) v' hb4
      generalize w4.setCell ⟨w.heap.size + 1, 5, none⟩ v' = w5 at hh5 hg5 hs5 ⊢
      refine scr_end ?_
      simp only [Exit.inBlock, Exit.then]
      go_wp2_with fail
      go_roundw
      case rel =>
        have hvn : ∀ g, v'.ownBlock = some g → w.heap.size ≤ g := fun g hg => by
          rcases hd4 g hg with h | h
          · exact hgv g h
          · have := hE.size; have := hw3.size; omega
        refine ⟨k + 1, v', by omega, by go_num, ((hE.trans hw3).grown hg4 hgv).grown hg5 (fun j hj => by simp at hj; omega), (hg5.block _ (by have := hg4.size; have := hw3.size; have := (Array.getElem?_eq_some_iff.1 hr2).1; omega) (by simp)).trans hb4r, hh5, hvn, ?_⟩
        have e : (T.backL l).take (k + 1) = (T.backL l).take k ++ [(l[k]).back] := by
          rw [List.take_succ_eq_append_getElem (by rw [T.backL_eq]; simpa using hlt)]
          simp [T.backL_eq]
        rw [e]
        exact hrow4.keep hg5 (by simp)
      case measure => simp [intOf]; omega
    · have ek : k = l.length := by omega
      have hvo := hrow.one
      have r2 : wr.heap[w.heap.size]? = _ := hr1.trans hb1
      have p0 : wr.cell? ⟨w.heap.size + 1, 0, none⟩ = some (.int .i64 5) := cells_of hr2 0
      have p1 : wr.cell? ⟨w.heap.size + 1, 1, none⟩ = some (.int .i64 0) := cells_of hr2 1
      have p2 : wr.cell? ⟨w.heap.size + 1, 2, none⟩ = some (.float .f64 0) := cells_of hr2 2
      have p3 : wr.cell? ⟨w.heap.size + 1, 3, none⟩ = some (.string ⟨#[]⟩) := cells_of hr2 3
      have p4 : wr.cell? ⟨w.heap.size + 1, 4, none⟩ = some (.slice none 0 0) := cells_of hr2 4
      have p5 : wr.cell? ⟨w.heap.size + 1, 5, none⟩ = some v := cells_of hr2 5
      have ek' := Lib.hid ek
      clear ek h5 h4
      go_wp2_with (refine wpL_storeRow (cells := #[Value.int .i64 5, .int .i64 0, .float .f64 0, .string ⟨#[]⟩, .slice none 0 0, v]) rfl _ _ _ rfl Tryz.size45 rfl rfl r2 rfl (by simpa [Value.oneCell'] using hvo) ?_; intro w3 hh3 hg3)
      go_simp
      have z0 : w3.cell? ⟨w.heap.size, 0, none⟩ = some (.int .i64 5) := cells_of hh3 0
      have z1 : w3.cell? ⟨w.heap.size, 1, none⟩ = some (.int .i64 0) := cells_of hh3 1
      have z2 : w3.cell? ⟨w.heap.size, 2, none⟩ = some (.float .f64 0) := cells_of hh3 2
      have z3 : w3.cell? ⟨w.heap.size, 3, none⟩ = some (.string ⟨#[]⟩) := cells_of hh3 3
      have z4 : w3.cell? ⟨w.heap.size, 4, none⟩ = some (.slice none 0 0) := cells_of hh3 4
      have z5 : w3.cell? ⟨w.heap.size, 5, none⟩ = some v := cells_of hh3 5
      refine bodyPost_ret (by simp [results, Tryz.results86, go_sem, z0, z1, z2, z3, z4, z5]; try rfl) rfl ?_
      rw [List.take_of_length_le (by rw [T.backL_eq, List.length_map]; have := ek'.out; omega)] at hrow
      refine hR'.out _ [_, _, _, _, _, _] (hE.grown hg3 (fun j hj => by simp at hj; omega)) ?_
      have e : T.back (.list l) = .mk 5 0 0 ⟨#[]⟩ [] (T.backL l) := by simp [T.back]
      rw [e]
      exact IsV.of (by decide) (by decide) (by decide) (by decide) (IsStrs.nil _ _) (((hrow.keep hg3 (by simp)).isVs (by rw [T.backL_eq, List.length_map]; exact h3)).mv ((Mv.refl _ _).less fun b hb => by simp [hb]))

theorem findEnt_lookK {α : Type} (q : ByteArray) (es : EntsOfT α) : ∀ n, (findEnt q es n).map (·.2) = lookK q es := by
  induction es with
  | nil => intro n; rfl
  | cons e es ih =>
    intro n
    simp only [findEnt, lookK]
    by_cases h : q = e.1
    · simp [h]
    · simp [h, ih]
theorem getEnt_lookK {α : Type} (q : ByteArray) (es : EntsOfT α) : getEnt q es = lookK q es := findEnt_lookK q es 0
theorem lookK_map {α β : Type} (f : α → β) (q : ByteArray) (es : EntsOfT α) : lookK q (es.map fun p => (p.1, f p.2)) = (lookK q es).map f := by
  induction es with
  | nil => rfl
  | cons e es ih => by_cases h : q = e.1 <;> simp [lookK, h, ih]
theorem lookK_keys {α : Type} (f : ByteArray → α) (q : ByteArray) (ks : List ByteArray) : lookK q (ks.map fun k => (k, f k)) = if q ∈ ks then some (f q) else none := by
  induction ks with
  | nil => rfl
  | cons k ks ih => by_cases h : q = k <;> simp [lookK, h, ih]
theorem zip_keys {α : Type} : ∀ {keys : List ByteArray} {l : List α}, keys.length = l.length → (keys.zip l).map (·.1) = keys
  | [], _, _ => by simp
  | k :: keys, [], h => by simp at h
  | k :: keys, a :: l, h => by simp only [List.zip_cons_cons, List.map_cons, zip_keys (keys := keys) (l := l) (by simpa using h)]

def lookB (ts : EntsOfT T) (q : ByteArray) : V := ((getEnt q ts).getD .null).back
theorem back_map {keys ks : List ByteArray} {l : List T} (hri : Rising ks) (hlen : keys.length = l.length) (hnd : keys.Nodup) (hmem : ∀ k, k ∈ ks ↔ k ∈ keys) :
    T.back (.map keys l) = .mk 6 0 0 ⟨#[]⟩ ks (ks.map (lookB (keys.zip l))) := by
  have e : insAll [] (keys.zip (T.backL l)) = ks.map fun k => (k, lookB (keys.zip l) k) := by
    refine rising_ents (insAll_rising _ (by simp [Rising])) (by simpa [Function.comp_def] using hri) (fun q => ?_)
    rw [lookK_insAll, putAll_self (by rw [zip_keys (by rw [T.backL_eq, List.length_map]; exact hlen)]; exact hnd), T.backL_eq, ← zip_map_right, lookK_map, lookK_keys]
    by_cases hq : q ∈ ks
    · rw [if_pos hq]
      cases hl : lookK q (keys.zip l) with
      | none =>
        rw [lookK_none, zip_keys hlen] at hl
        exact absurd ((hmem q).1 hq) hl
      | some t => simp [lookB, getEnt_lookK, hl]
    · rw [if_neg hq, lookK_none.2 (by rw [zip_keys hlen]; exact fun h => hq ((hmem q).2 h))]
      rfl
  simp only [T.back, e, List.map_map, Function.comp_def, List.map_id']

theorem lookK_mem {α : Type} {q : ByteArray} {es : EntsOfT α} {t : α} (h : lookK q es = some t) : (q, t) ∈ es := by
  induction es with
  | nil => simp [lookK] at h
  | cons e es ih =>
    by_cases hq : q = e.1
    · subst hq
      simp only [lookK, if_true, Option.some.injEq] at h
      subst h
      simp
    · simp only [lookK, if_neg hq] at h
      exact List.mem_cons_of_mem _ (ih h)
theorem rising_len {keys ks : List ByteArray} (hri : Rising ks) (hmem : ∀ k, k ∈ ks → k ∈ keys) : ks.length ≤ keys.length := by
  induction ks generalizing keys with
  | nil => simp
  | cons k ks ih =>
    have h1 := ih (keys := keys.erase k) hri.2 (fun q hq => by
      have hne : q ≠ k := fun e => by have := hri.1 q hq; rw [e, slt_irrefl'] at this; cases this
      exact (List.mem_erase_of_ne hne).2 (hmem q (by simp [hq])))
    have h2 := hmem k (by simp)
    rw [List.length_erase, if_pos h2] at h1
    have := List.length_pos_of_mem h2
    simp only [List.length_cons]
    omega

set_option maxRecDepth 100000 in
set_option maxHeartbeats 4000000 in
set_option pp.maxSteps 1000000 in
set_option pp.deepTerms true in
theorem fromTree_map {keys : List ByteArray} {l : List T} (ih : ∀ i (h : i < l.length), FromC (l[i])) : FromC (.map keys l) := by
  intro w X x hx hX R hR
  obtain ⟨r, rfl, hm, hlen⟩ := hx.inv_map
  have hnd := hm.nodup
  rw [zip_keys hlen] at hnd
  have hb88 : keys.length * 88 ≤ 140737488351232 := by have := hm.bound; rw [List.length_zip, ← hlen] at this; simpa using this
  have hRb : ∀ ks, Rising ks → (∀ k, k ∈ ks ↔ k ∈ keys) → T.back (.map keys l) = .mk 6 0 0 ⟨#[]⟩ ks (ks.map (lookB (keys.zip l))) := fun ks h1 h2 => back_map h1 hlen hnd h2
  obtain ⟨⟨es, him, hes⟩, hrX, hbd, hsm⟩ := hm
  have hek : es.map (·.1) = keys := by rw [hes.keys, zip_keys hlen]
  have hesl : es.length = keys.length := by rw [← hek, List.length_map]
  have hesz : ∀ p ∈ es, p.1.size ≤ 140737488351232 := fun p hp => by
    have h1 : p.1 ∈ keys := hek ▸ List.mem_map.2 ⟨p, hp, rfl⟩
    rw [← zip_keys hlen] at h1
    obtain ⟨q, hq, e⟩ := List.mem_map.1 h1
    rw [← e]
    exact hsm q hq
  have hkb : es.length * 16 ≤ 140737488351232 := by rw [hesl]; omega
  have hrw := him.lt
  have hR' := Lib.hid hR
  have hih := Lib.hid ih
  have hX' := Lib.hid hX
  have hRb' := Lib.hid hRb
  have hek' := Lib.hid hek
  have hnd' := Lib.hid hnd
  have hesl' := Lib.hid hesl
  have hesz' := Lib.hid hesz
  have hes' := Lib.hid hes
  have him' := Lib.hid him
  have hlen' := Lib.hid hlen
  clear hR ih hX hx hRb hek hnd hesl hesz hes him hbd hsm hlen
  go_enter Tryz.func86, Tryz.ntmps86
  go_wp2_with fail
  refine abs2 (G := fun wr => Calls _ _ _ wr _) ?_
  intro w1 hE1 hb1 hb2 hs1
  refine sortedKeys_c (X := w.heap.size :: (w.heap.size + 1) :: X) (him'.out.mv (hE1.mv X) hrX) (by rw [hek'.out]; exact hnd'.out) (.cons (by omega) (.cons (by omega) (Old.le hX'.out hE1.size))) hkb hesz'.out _ ?_
  intro w2 kv ks hE2 hks hri hmem
  rw [hek'.out] at hmem
  have hks' := Lib.hid hks
  have hri' := Lib.hid hri
  have hmem' := Lib.hid hmem
  have hb2' : w2.heap[w.heap.size + 1]? = _ := (hE2.below.block _ (by omega)).trans hb2
  have hb1' : w2.heap[w.heap.size]? = _ := (hE2.below.block _ (by omega)).trans hb1
  obtain ⟨ko, kc, kb, koff, rfl, k2, k3, k4, k5⟩ := id hks.ex
  clear hks hri hmem hb1 hb2
  dsimp only
  go_wp2_with (refine wpL_store1 rfl _ _ _ rfl Tryz.info41 (p := ⟨w.heap.size + 1, 4, none⟩) (v := .slice ko ks.length kc) rfl rfl rfl (by rw [cells_of hb2' 4]; rfl) (frozen_of_row _ _ _ _ _ hb2') ?_; obtain ⟨hh3, hg3, hs3⟩ := set_facts (off := 4) (.slice ko ks.length kc) hb2'; generalize w2.setCell ⟨w.heap.size + 1, 4, none⟩ (.slice ko ks.length kc) = w3 at hh3 hg3 hs3 ⊢; have p4 : w3.cell? ⟨w.heap.size + 1, 4, none⟩ = some (.slice ko ks.length kc) := cells_of hh3 4)
  have hE3 : Ext w w3 := (hE1.trans hE2).grown hg3 (fun j hj => by simp at hj; omega)
  have hr3 : w3.heap[w.heap.size]? = _ := (hg3.block _ (by have := hE2.size; omega) (by simp)).trans hb1'
  have hks3 : IsStrs w3 (w.heap.size :: (w.heap.size + 1) :: X) (.slice ko ks.length kc) ks := hks'.out.mv ((Mv.refl _ _).grown hg3 (fun j hj => by cases hj; simp))
  have hks3' := Lib.hid hks3
  clear hks3 p4
  go_loopw [66] (fun i wr => ∃ (k : Nat) (v : Value), k ≤ ks.length ∧ i = .int .i64 k ∧ Ext w wr ∧ wr.heap[w.heap.size]? = w3.heap[w.heap.size]? ∧
      wr.heap[w.heap.size + 1]? = some (.cells #[.int .i64 6, .int .i64 0, .float .f64 0, .string ⟨#[]⟩, .slice ko ks.length kc, v] 45 (0, 0)) ∧ (∀ g, v.ownBlock = some g → w.heap.size ≤ g) ∧
      Row kV 45 wr (w.heap.size :: (w.heap.size + 1) :: X) v ((ks.take k).map (lookB (keys.zip l))) ∧ Hid (IsStrs wr (vb v ++ (w.heap.size :: (w.heap.size + 1) :: X)) (.slice ko ks.length kc) ks))
    (fun i _ => ks.length - (intOf i).toNat)
  case atStart => exact ⟨0, _, Nat.zero_le _, rfl, hE3, rfl, hh3, fun g hg => by simp [Value.ownBlock] at hg, Row.nil _ _ _ _, hks3'⟩
  case round =>
    obtain ⟨k, v, hk, rfl, hE, hr1, hr2, hgv, hrow, hst⟩ := hrel
    by_cases hlt : k < ks.length
    · obtain ⟨_, _, sb, soff, e, s2, s3, s4, s5⟩ := hst.out.ex
      cases e
      obtain ⟨rfl, -⟩ := s4 (by omega)
      have q0 := (s5 k hlt).1
      have eq : ks.getD k ByteArray.empty = ks[k] := by simp [hlt]
      rw [eq] at q0
      have hkl := rising_len hri'.out (fun q hq => (hmem'.out q).1 hq)
      have hfind := hes'.out.find (ks[k])
      have hin : ks[k] ∈ (keys.zip l).map (·.1) := by rw [zip_keys hlen'.out]; exact (hmem'.out _).1 (List.getElem_mem hlt)
      obtain ⟨x, t, g1, g2, hx⟩ : ∃ x t, getEnt (ks[k]) es = some x ∧ getEnt (ks[k]) (keys.zip l) = some t ∧ IsT w X x t := by
        rcases hfind with ⟨_, h⟩ | h
        · rw [getEnt_lookK, lookK_none] at h; exact absurd hin h
        · exact h
      have htl : t ∈ l := by
        rw [getEnt_lookK] at g2
        exact (List.of_mem_zip (lookK_mem g2)).2
      obtain ⟨i, hi, hti⟩ := List.getElem_of_mem htl
      have hlb : lookB (keys.zip l) (ks[k]) = t.back := by simp [lookB, g2]
      have hlk : ∀ w', Ext wr w' → (Instr.lookup 214 (.map (some r)) (.string (ks[k])) false).run Tryz.prog w' = .ok x w' := fun w' hw' => by
        have := run_lookup_ents (P := Tryz.prog) Tryz.underlying214 Tryz.underlying9 (him'.out.mv ((hE.trans hw').mv X) hrX) (ks[k]) .nilIface (by simp [zeroValue, typeInfo]; kernel_rfl)
        rw [this, g1]
        rfl
      have hXX : Old (w.heap.size :: (w.heap.size + 1) :: X) wr := .cons (by have := hE.size; have := (Array.getElem?_eq_some_iff.1 hr2).1; omega) (.cons ((Array.getElem?_eq_some_iff.1 hr2).1) (Old.le hX'.out hE.size))
      have p5 : wr.cell? ⟨w.heap.size + 1, 5, none⟩ = some v := cells_of hr2 5
      have hlen1 : ((ks.take k).map (lookB (keys.zip l))).length = k := by rw [List.length_map, List.length_take]; omega
      have hx' := Lib.hid hx
      have hlenk := Lib.hid hlen1
      have hlb' := Lib.hid hlb
      have hti' := Lib.hid hti
      have hvo := hrow.one
      have hlk' := Lib.hid hlk
      clear s4 s5 hx hlen1 hlb hti g1 g2 hfind hlk eq k4 k5 hin
      go_wp2_with fail
      refine wp_region_script [0, 1, 2, 3, 4, 8] [5, 6] (fun w' => Ext wr w') [(.pure, 0), (.read, 1), (.pure, 2), (.pure, 3), (.read, 4), (.one, 5), (.one, 6), (.one, 7), (.pure, 8), (.one, 9)] (by kernel_rfl) (by kernel_rfl) ?_
      (apply scr_pure'; (· rfl); (· rfl); (· (intro w'; go_simp; try rfl)); (· (simp [go_sem]; try rfl)))
      (apply scr_read'; (· rfl); (· rfl); (· first | exact hC | exact (Ext.refl _).drew); (· (intro w' hw'; have p5_ := hw'.keep p5; go_simp; try rfl)); (· (simp [go_sem]; try rfl)))
      (apply scr_pure'; (· rfl); (· rfl); (· (intro w'; go_simp; try rfl)); (· (simp [go_sem]; try rfl)))
      (apply scr_pure'; (· rfl); (· rfl); (· (intro w'; go_simp; try rfl)); (· (simp [go_sem]; try rfl)))
      have hC : Ext wr wr.drew := (Ext.refl wr).drew
      (apply scr_read'; (· rfl); (· rfl); (· exact hC); (· (intro w' hw'; have hl_ := hlk'.out w' hw'; go_simp; try rfl)); (· (simp [go_sem]; try rfl)))
      refine scr_one rfl rfl (fun K hK => ?_)
      go_simp
      have ihx := hih.out i hi
      rw [hti'.out] at ihx
      refine ihx _ (vb v ++ (w.heap.size :: (w.heap.size + 1) :: X)) x (hx'.out.mv ((((hE.drew.mv X).more (n := w.heap.size + 1) (by omega)).more (Nat.le_refl _)).moreL fun z hz => hgv z (by simpa [vb] using hz))) ((hrow.ext (Ext.refl wr).drew).old (hXX.le (Ext.refl wr).drew.size)) _ ?_
      clear ihx
      intro w4 cs hE4 hy
      obtain ⟨y, rfl⟩ := hy.shape
      have hy' := Lib.hid hy
      clear hy
      have hw4 := (Ext.refl wr).drew.trans hE4
      refine hK _ _ (fun _ => hw4) ?_
      clear hK
      simp only [Cells6.list]
      refine scr_one rfl rfl (fun K hK => ?_)
      go_simp
      refine hK _ _ (fun _ => hw4.push _) ?_
      clear hK
      refine scr_one rfl rfl (fun K hK => ?_)
      have hb3 : ((ks.take k).map (lookB (keys.zip l))).length + 1 ≤ keys.length := by rw [hlenk.out]; omega
      refine wp_rowApp (c := y.list.toArray) hrow hw4 (hXX.le hw4.size) hy'.out _ _ _ rfl Tryz.underlying42 Tryz.info45 rfl (by decide) (by go_simp) (by go_simp) (Nat.le_trans (Nat.mul_le_mul_right 88 hb3) (Nat.le_trans hb88 (by decide))) (by rw [maxLen_eq]; omega) ?_
      intro v' w5 hrow5 hg5 hne5 hd5
      refine hK _ _ (fun h => by simp at h) ?_
      clear hK
      (apply scr_pure'; (· rfl); (· rfl); (· (intro w'; go_simp; try rfl)); (· (simp [go_sem]; try rfl)))
      have hb5 : w5.heap[w.heap.size + 1]? = _ := (hg5.block _ (by have := (Array.getElem?_eq_some_iff.1 hr2).1; have := hw4.size; omega) (hrow.notin (by simp))).trans ((hw4.below.block _ (Array.getElem?_eq_some_iff.1 hr2).1).trans hr2)
      have hb5r : w5.heap[w.heap.size]? = _ := (hg5.block _ (by have := (Array.getElem?_eq_some_iff.1 hr2).1; have := hw4.size; omega) (hrow.notin (by simp))).trans ((hw4.below.block _ (by have := (Array.getElem?_eq_some_iff.1 hr2).1; omega)).trans hr1)
      refine scr_one rfl rfl (fun K hK => ?_)
      refine wp_store1 _ _ _ rfl Tryz.info42 (p := ⟨w.heap.size + 1, 5, none⟩) (v := v') rfl rfl hrow5.one (by rw [cells_of hb5 5]; rfl) (frozen_of_row _ _ _ _ _ hb5) ?_
      refine hK _ _ (fun h => by simp at h) ?_
      clear hK
      obtain ⟨hh6, hg6, hs6⟩ := set_facts (off := 5) v' hb5
      generalize w5.setCell ⟨w.heap.size + 1, 5, none⟩ v' = w6 at hh6 hg6 hs6 ⊢
      refine scr_end ?_
      simp only [Exit.inBlock, Exit.then]
      go_wp2_with fail
      go_roundw
      case rel =>
        have hvn : ∀ g, v'.ownBlock = some g → w.heap.size ≤ g := fun g hg => by
          rcases hd5 g hg with h | h
          · exact hgv g h
          · have := hE.size; have := hw4.size; omega
        refine ⟨k + 1, v', by omega, by go_num, ((hE.trans hw4).grown hg5 hgv).grown hg6 (fun j hj => by simp at hj; omega), (hg6.block _ (by have := hg5.size; have := hw4.size; have := (Array.getElem?_eq_some_iff.1 hr2).1; omega) (by simp)).trans hb5r, hh6, hvn, ?_, ?_⟩
        · have e : (ks.take (k + 1)).map (lookB (keys.zip l)) = (ks.take k).map (lookB (keys.zip l)) ++ [t.back] := by
            rw [List.take_succ_eq_append_getElem hlt, List.map_append, List.map_singleton, hlb'.out]
          rw [e]
          exact hrow5.keep hg6 (by simp)
        · exact ((hst.out.mv (hw4.mv _)).mv (Mv.app hg5 hd5)).mv ((Mv.refl _ _).grown hg6 (fun j hj => by cases hj; simp))
      case measure => simp [intOf]; omega
    · have ek : k = ks.length := by omega
      have hvo := hrow.one
      have r2 : wr.heap[w.heap.size]? = _ := hr1.trans hr3
      have p0 : wr.cell? ⟨w.heap.size + 1, 0, none⟩ = some (.int .i64 6) := cells_of hr2 0
      have p1 : wr.cell? ⟨w.heap.size + 1, 1, none⟩ = some (.int .i64 0) := cells_of hr2 1
      have p2 : wr.cell? ⟨w.heap.size + 1, 2, none⟩ = some (.float .f64 0) := cells_of hr2 2
      have p3 : wr.cell? ⟨w.heap.size + 1, 3, none⟩ = some (.string ⟨#[]⟩) := cells_of hr2 3
      have p4 : wr.cell? ⟨w.heap.size + 1, 4, none⟩ = some (.slice ko ks.length kc) := cells_of hr2 4
      have p5 : wr.cell? ⟨w.heap.size + 1, 5, none⟩ = some v := cells_of hr2 5
      have ek' := Lib.hid ek
      clear ek k4 k5
      go_wp2_with (refine wpL_storeRow (cells := #[Value.int .i64 6, .int .i64 0, .float .f64 0, .string ⟨#[]⟩, .slice ko ks.length kc, v]) rfl _ _ _ rfl Tryz.size45 rfl rfl r2 rfl (by simpa [Value.oneCell'] using hvo) ?_; intro w4 hh4 hg4)
      go_simp
      have z0 : w4.cell? ⟨w.heap.size, 0, none⟩ = some (.int .i64 6) := cells_of hh4 0
      have z1 : w4.cell? ⟨w.heap.size, 1, none⟩ = some (.int .i64 0) := cells_of hh4 1
      have z2 : w4.cell? ⟨w.heap.size, 2, none⟩ = some (.float .f64 0) := cells_of hh4 2
      have z3 : w4.cell? ⟨w.heap.size, 3, none⟩ = some (.string ⟨#[]⟩) := cells_of hh4 3
      have z4 : w4.cell? ⟨w.heap.size, 4, none⟩ = some (.slice ko ks.length kc) := cells_of hh4 4
      have z5 : w4.cell? ⟨w.heap.size, 5, none⟩ = some v := cells_of hh4 5
      refine bodyPost_ret (by simp [results, Tryz.results86, go_sem, z0, z1, z2, z3, z4, z5]; try rfl) rfl ?_
      rw [List.take_of_length_le (by have := ek'.out; omega)] at hrow
      refine hR'.out _ [_, _, _, _, _, _] (hE.grown hg4 (fun j hj => by simp at hj; omega)) ?_
      rw [hRb'.out ks hri'.out hmem'.out]
      have hkl := rising_len hri'.out (fun q hq => (hmem'.out q).1 hq)
      have hmv4 : Mv wr (w.heap.size :: (w.heap.size + 1) :: X) w4 (w.heap.size :: (w.heap.size + 1) :: X) := (Mv.refl _ _).grown hg4 (fun j hj => by cases hj; simp)
      exact IsV.of (by decide) (by decide) (by decide) (by decide) ((hst.out.mv ((Mv.refl _ _).less fun b hb => List.mem_append_right _ hb)).mv hmv4 |>.mv ((Mv.refl _ _).less fun b hb => by simp [hb])) (((hrow.keep hg4 (by simp)).isVs (by rw [List.length_map]; omega)).mv ((Mv.refl _ _).less fun b hb => by simp [hb]))

theorem back_null : T.back .null = .mk 0 0 0 ⟨#[]⟩ [] [] := by simp [T.back]
theorem back_bool (b : Bool) : T.back (.bool b) = .mk 1 (if b then 1 else 0) 0 ⟨#[]⟩ [] [] := by simp [T.back]
theorem back_int (n : Int) : T.back (.int n) = .mk 2 n 0 ⟨#[]⟩ [] [] := by simp [T.back]
theorem back_float (f : Nat) : T.back (.float f) = .mk 3 0 f ⟨#[]⟩ [] [] := by simp [T.back]
theorem back_str (s : ByteArray) : T.back (.str s) = .mk 4 0 0 s [] [] := by simp [T.back]

set_option maxRecDepth 100000 in
set_option maxHeartbeats 2000000 in
theorem fromTree_c (t : T) : FromC t := by
  induction t using T.ind with
  | list l ih => exact fromTree_list ih
  | map keys l ih => exact fromTree_map ih
  | _ =>
    intro w X x hx hX R hR
    have hR' := Lib.hid hR
    clear hR hX
    cases hx
    go_enter Tryz.func86, Tryz.ntmps86
    go_wp2_with fail
    all_goals (
      refine bodyPost_ret (by simp [results, Tryz.results86, go_sem]; try rfl) rfl ?_
      refine hR'.out _ [_, _, _, _, _, _] (.alloc _ _) ?_
      simp_all only [back_null, back_bool, back_int, back_float, back_str]
      refine IsV.of (by decide) ?_ ?_ ?_ (IsStrs.nil _ _) (IsVs.nil _ _)
      all_goals first | decide | assumption)

end Go.Proofs.YtihapgangilncaaGreat
