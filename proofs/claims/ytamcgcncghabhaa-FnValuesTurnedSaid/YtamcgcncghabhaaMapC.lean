/- value.MapZipUsing in the order of keys, and value.MapCompareUsing. -/
import Derived.Test.YtamcgcncghabhaaZip
namespace Go.Proofs.Ytamcgcncghabhaa
open Go.RowKit
set_option linter.unusedSimpArgs false

set_option maxRecDepth 100000 in
theorem zipUsing_c {w : World} {X : List Nat} {r1 r2 : Nat} {al : Value} {P Q : EntsOfT T} {F : FuncId} {cap : Array Value} {Inv : List ByteArray → Nat → World → Prop} {Stop : List ByteArray → World → Prop} (h1 : IsTm w X r1 P) (h2 : IsTm w X r2 Q) (hX : Old X w) (hal : IsAl al)
    (hv : ∀ O, Rising O → (∀ k, k ∈ O ↔ k ∈ P.map (·.1) ∨ k ∈ Q.map (·.1)) → ZipV w X P Q O F cap (Inv O) (Stop O))
    (R : Ending → World → Prop) (hR : ∀ O w', Rising O → (∀ k, k ∈ O ↔ k ∈ P.map (·.1) ∨ k ∈ Q.map (·.1)) → Mut w X w' → Inv O O.length w' → R (.returned (.bool true)) w')
    (hS : ∀ O w', Rising O → (∀ k, k ∈ O ↔ k ∈ P.map (·.1) ∨ k ∈ Q.map (·.1)) → Mut w X w' → Stop O w' → R (.returned (.bool false)) w') :
    Calls Try.prog 155 #[.map (some r1), al, .iface 178 (.map (some r2)), .int .i64 1, .func (.func F) #[] cap] w R := by
  obtain ⟨ab, rfl⟩ := hal
  have h1' := Lib.hid h1
  have h2' := Lib.hid h2
  have hX' := Lib.hid hX
  have hv' := Lib.hid hv
  have hR' := Lib.hid hR
  have hS' := Lib.hid hS
  clear h1 h2 hX hv hR hS
  go_enter Try.func155, Try.ntmps155
  go_wp2_with fail
  go_enter Try.func157, Try.ntmps157
  go_wp2_with fail
  refine lexZip_c h1'.out h2'.out hX'.out ⟨ab, rfl⟩ hv'.out _ ?_ ?_
  · intro O w' a1 a2 a3 a4
    have hh := Lib.hid (hR'.out O w' a1 a2 a3 a4)
    clear a1 a2 a3 a4
    dsimp only
    go_wp2_with fail
    exact hh.out
  · intro O w' a1 a2 a3 a4
    have hh := Lib.hid (hS'.out O w' a1 a2 a3 a4)
    clear a1 a2 a3 a4
    dsimp only
    go_wp2_with fail
    exact hh.out

set_option maxRecDepth 100000 in
theorem mapZip_c {w : World} {X : List Nat} {r1 r2 : Nat} {al : Value} {P Q : EntsOfT T} {F : FuncId} {cap : Array Value} {Inv : List ByteArray → Nat → World → Prop} {Stop : List ByteArray → World → Prop} (h1 : IsTm w X r1 P) (h2 : IsTm w X r2 Q) (hX : Old X w) (hal : IsAl al)
    (hv : ∀ w1, Ext w w1 → ∀ O, Rising O → (∀ k, k ∈ O ↔ k ∈ P.map (·.1) ∨ k ∈ Q.map (·.1)) → ZipV w1 X P Q O F cap (Inv O) (Stop O))
    (R : Ending → World → Prop) (hR : ∀ O w', Rising O → (∀ k, k ∈ O ↔ k ∈ P.map (·.1) ∨ k ∈ Q.map (·.1)) → Mut w X w' → Inv O O.length w' → R (.returned (.bool true)) w')
    (hS : ∀ O w', Rising O → (∀ k, k ∈ O ↔ k ∈ P.map (·.1) ∨ k ∈ Q.map (·.1)) → Mut w X w' → Stop O w' → R (.returned (.bool false)) w') :
    Calls Try.prog 79 #[al, .iface 178 (.map (some r1)), .iface 178 (.map (some r2)), .int .i64 1, .func (.func F) #[] cap] w R := by
  obtain ⟨ab, rfl⟩ := hal
  have h1' := Lib.hid h1
  have h2' := Lib.hid h2
  have hX' := Lib.hid hX
  have hv' := Lib.hid hv
  have hR' := Lib.hid hR
  have hS' := Lib.hid hS
  clear h1 h2 hX hv hR hS
  go_enter Try.func79, Try.ntmps79
  go_wp2_with fail
  refine abs1 (G := fun wr => Calls _ _ _ wr _) ?_
  intro w1 hE1 hb1 hs1
  clear hb1 hs1
  refine zipUsing_c (h1'.out.mv (hE1.mv X)) (h2'.out.mv (hE1.mv X)) (hX'.out.le hE1.size) ⟨ab, rfl⟩ (hv'.out w1 hE1) _ ?_ ?_
  · intro O w' a1 a2 a3 a4
    have hh := Lib.hid (hR'.out O w' a1 a2 ((hE1.mut X).trans a3) a4)
    clear a1 a2 a3 a4
    dsimp only
    go_wp2_with fail
    exact hh.out
  · intro O w' a1 a2 a3 a4
    have hh := Lib.hid (hS'.out O w' a1 a2 ((hE1.mut X).trans a3) a4)
    clear a1 a2 a3 a4
    dsimp only
    go_wp2_with fail
    exact hh.out

/-- what the function that compares two maps finds at one key -/
def cmpO (j n1 n2 : Nat) (o p : Option T) : Int := if j = n1 then -1 else if j = n2 then 1 else match o, p with
  | none, _ => 1
  | some _, none => -1
  | some x, some y => cmpT x y

set_option maxRecDepth 100000 in
set_option maxHeartbeats 2000000 in
theorem cmpFn_c {w : World} {X : List Nat} {bi bl bc br ba j n1 n2 : Nat} {al va vb : Value} {k : ByteArray} {o p : Option T} {ρ : Int} (hρ : cmpO j n1 n2 o p = ρ) (hal : IsAl al) (hbi : w.heap[bi]? = some (.cells #[.int .i64 j] 3 (0, 0))) (hbc : w.heap[bc]? = some (.cells #[.int .i64 0] 3 (0, 0)))
    (cl : w.cell? ⟨bl, 0, none⟩ = some (.int .i64 n1)) (cr : w.cell? ⟨br, 0, none⟩ = some (.int .i64 n2)) (ca : w.cell? ⟨ba, 0, none⟩ = some al) (hic : bi ≠ bc) (hlc : bl ≠ bc) (hrc : br ≠ bc) (hj : (j : Int) + 1 ≤ 9223372036854775807)
    (ho : OptVal w X va o) (hp : OptVal w X vb p) (ih : ∀ y, p = some y → CmC y)
    (K : Ending → World → Prop) (hK : ∀ w2, Mut w [bc, bi] w2 → w2.heap[bi]? = some (.cells #[.int .i64 ((j + 1 : Nat) : Int)] 3 (0, 0)) → w2.heap[bc]? = some (.cells #[.int .i64 ρ] 3 (0, 0)) → K (.returned (.bool (decide (ρ = 0)))) w2) :
    Calls Try.prog 96 #[.string k, va, vb, .pointer (some ⟨bi, 0, none⟩), .pointer (some ⟨bl, 0, none⟩), .pointer (some ⟨bc, 0, none⟩), .pointer (some ⟨br, 0, none⟩), .pointer (some ⟨ba, 0, none⟩)] w K := by
  have ci : w.cell? ⟨bi, 0, none⟩ = some (.int .i64 j) := cells_of hbi 0
  have hbi' := Lib.hid hbi
  have hbc' := Lib.hid hbc
  have hK' := Lib.hid hK
  have ho' := Lib.hid ho
  have hp' := Lib.hid hp
  have ih' := Lib.hid ih
  have hρ' := Lib.hid hρ
  clear hbi hbc hK ho hp ih hρ
  by_cases e1 : j = n1
  · have hd : ((j : Int) == (n1 : Int)) = true := by simp [e1]
    have hρ2 : ρ = -1 := by rw [← hρ'.out]; simp [cmpO, e1]
    subst hρ2
    clear e1
    go_enter Try.func96, Try.ntmps96
    go_wp2_with (first
      | (refine wpL_storeC rfl 3 _ _ rfl Try.info3 (v := .int .i64 (-1)) (new := #[.int .i64 (-1)]) rfl rfl rfl hbc'.out (by simp) rfl ?_; intro w3 h3 g3; replace ci := grown_keep g3 ci hic; have hbi3 := Lib.hid ((g3.block bi (Array.getElem?_eq_some_iff.1 hbi'.out).1 (fun e => hic (by cases e; rfl))).trans hbi'.out); have h3' := Lib.hid h3; clear h3)
      | (refine wpL_storeC rfl 3 _ _ rfl Try.info3 (v := .int .i64 ((j : Int) + 1)) (new := #[.int .i64 ((j : Int) + 1)]) rfl rfl rfl hbi3.out (by simp) rfl ?_; intro w4 h4 g4; have cc4 : w4.cell? ⟨bc, 0, none⟩ = some (.int .i64 (-1)) := grown_keep g4 (cells_of h3'.out 0) (Ne.symm hic)))
    exact hK'.out w4 ((grown_mut g3 (by simp)).trans (grown_mut g4 (by simp))) h4 ((g4.block bc (Array.getElem?_eq_some_iff.1 h3'.out).1 (fun e => hic (by cases e; rfl))).trans h3'.out)
  have hd : ((j : Int) == (n1 : Int)) = false := by simp; omega
  by_cases e2 : j = n2
  · have hd2 : ((j : Int) == (n2 : Int)) = true := by simp [e2]
    have hρ2 : ρ = 1 := by rw [← hρ'.out]; simp only [cmpO]; rw [if_neg e1, if_pos e2]
    subst hρ2
    clear e1 e2
    go_enter Try.func96, Try.ntmps96
    go_wp2_with (first
      | (refine wpL_storeC rfl 3 _ _ rfl Try.info3 (v := .int .i64 (1)) (new := #[.int .i64 (1)]) rfl rfl rfl hbc'.out (by simp) rfl ?_; intro w3 h3 g3; replace ci := grown_keep g3 ci hic; have hbi3 := Lib.hid ((g3.block bi (Array.getElem?_eq_some_iff.1 hbi'.out).1 (fun e => hic (by cases e; rfl))).trans hbi'.out); have h3' := Lib.hid h3; clear h3)
      | (refine wpL_storeC rfl 3 _ _ rfl Try.info3 (v := .int .i64 ((j : Int) + 1)) (new := #[.int .i64 ((j : Int) + 1)]) rfl rfl rfl hbi3.out (by simp) rfl ?_; intro w4 h4 g4; have cc4 : w4.cell? ⟨bc, 0, none⟩ = some (.int .i64 (1)) := grown_keep g4 (cells_of h3'.out 0) (Ne.symm hic)))
    exact hK'.out w4 ((grown_mut g3 (by simp)).trans (grown_mut g4 (by simp))) h4 ((g4.block bc (Array.getElem?_eq_some_iff.1 h3'.out).1 (fun e => hic (by cases e; rfl))).trans h3'.out)
  have hd2 : ((j : Int) == (n2 : Int)) = false := by simp; omega
  cases o with
  | none =>
    have hva : va = .nilIface := ho'.out
    subst hva
    have hρ2 : ρ = 1 := by rw [← hρ'.out]; simp only [cmpO]; rw [if_neg e1, if_neg e2]
    subst hρ2
    clear e1 e2
    go_enter Try.func96, Try.ntmps96
    go_wp2_with (first
      | (refine wpL_storeC rfl 3 _ _ rfl Try.info3 (v := .int .i64 (1)) (new := #[.int .i64 (1)]) rfl rfl rfl hbc'.out (by simp) rfl ?_; intro w3 h3 g3; replace ci := grown_keep g3 ci hic; have hbi3 := Lib.hid ((g3.block bi (Array.getElem?_eq_some_iff.1 hbi'.out).1 (fun e => hic (by cases e; rfl))).trans hbi'.out); have h3' := Lib.hid h3; clear h3)
      | (refine wpL_storeC rfl 3 _ _ rfl Try.info3 (v := .int .i64 ((j : Int) + 1)) (new := #[.int .i64 ((j : Int) + 1)]) rfl rfl rfl hbi3.out (by simp) rfl ?_; intro w4 h4 g4; have cc4 : w4.cell? ⟨bc, 0, none⟩ = some (.int .i64 (1)) := grown_keep g4 (cells_of h3'.out 0) (Ne.symm hic)))
    exact hK'.out w4 ((grown_mut g3 (by simp)).trans (grown_mut g4 (by simp))) h4 ((g4.block bc (Array.getElem?_eq_some_iff.1 h3'.out).1 (fun e => hic (by cases e; rfl))).trans h3'.out)
  | some x =>
    obtain ⟨pa, xa, rfl, -⟩ := IsVal.ex ho'.out
    cases p with
    | none =>
      have hvb : vb = .nilIface := hp'.out
      subst hvb
      have hρ2 : ρ = -1 := by rw [← hρ'.out]; simp only [cmpO]; rw [if_neg e1, if_neg e2]
      subst hρ2
      clear e1 e2
      go_enter Try.func96, Try.ntmps96
      go_wp2_with (first
        | (refine wpL_storeC rfl 3 _ _ rfl Try.info3 (v := .int .i64 (-1)) (new := #[.int .i64 (-1)]) rfl rfl rfl hbc'.out (by simp) rfl ?_; intro w3 h3 g3; replace ci := grown_keep g3 ci hic; have hbi3 := Lib.hid ((g3.block bi (Array.getElem?_eq_some_iff.1 hbi'.out).1 (fun e => hic (by cases e; rfl))).trans hbi'.out); have h3' := Lib.hid h3; clear h3)
        | (refine wpL_storeC rfl 3 _ _ rfl Try.info3 (v := .int .i64 ((j : Int) + 1)) (new := #[.int .i64 ((j : Int) + 1)]) rfl rfl rfl hbi3.out (by simp) rfl ?_; intro w4 h4 g4; have cc4 : w4.cell? ⟨bc, 0, none⟩ = some (.int .i64 (-1)) := grown_keep g4 (cells_of h3'.out 0) (Ne.symm hic)))
      exact hK'.out w4 ((grown_mut g3 (by simp)).trans (grown_mut g4 (by simp))) h4 ((g4.block bc (Array.getElem?_eq_some_iff.1 h3'.out).1 (fun e => hic (by cases e; rfl))).trans h3'.out)
    | some y =>
      obtain ⟨pb, xb, rfl, -⟩ := IsVal.ex hp'.out
      have hρ2 : ρ = cmpT x y := by rw [← hρ'.out]; simp only [cmpO]; rw [if_neg e1, if_neg e2]
      subst hρ2
      clear e1 e2
      go_enter Try.func96, Try.ntmps96
      go_wp2_with fail
      refine (ih'.out y rfl) w X X x _ _ _ ho'.out hp'.out hal _ ?_
      intro w2 hE2
      replace ci := hE2.keep ci
      have hbi2 := Lib.hid ((hE2.below.block _ (Array.getElem?_eq_some_iff.1 hbi'.out).1).trans hbi'.out)
      have hbc2 := Lib.hid ((hE2.below.block _ (Array.getElem?_eq_some_iff.1 hbc'.out).1).trans hbc'.out)
      obtain ⟨v, hv⟩ : ∃ v, cmpT x y = v := ⟨_, rfl⟩
      rw [hv] at hK' ⊢
      clear hv hρ'
      dsimp only
      go_wp2_with (first
        | (refine wpL_storeC rfl 3 _ _ rfl Try.info3 (v := .int .i64 (v)) (new := #[.int .i64 (v)]) rfl rfl rfl hbc2.out (by simp) rfl ?_; intro w3 h3 g3; replace ci := grown_keep g3 ci hic; have hbi3 := Lib.hid ((g3.block bi (Array.getElem?_eq_some_iff.1 hbi2.out).1 (fun e => hic (by cases e; rfl))).trans hbi2.out); have h3' := Lib.hid h3; clear h3)
        | (refine wpL_storeC rfl 3 _ _ rfl Try.info3 (v := .int .i64 ((j : Int) + 1)) (new := #[.int .i64 ((j : Int) + 1)]) rfl rfl rfl hbi3.out (by simp) rfl ?_; intro w4 h4 g4; have cc4 : w4.cell? ⟨bc, 0, none⟩ = some (.int .i64 (v)) := grown_keep g4 (cells_of h3'.out 0) (Ne.symm hic)))
      exact hK'.out w4 ((hE2.mut _).trans ((grown_mut g3 (by simp)).trans (grown_mut g4 (by simp)))) h4 ((g4.block bc (Array.getElem?_eq_some_iff.1 h3'.out).1 (fun e => hic (by cases e; rfl))).trans h3'.out)

theorem sort_len {α : Type} {P : EntsOfT α} (h : (P.map (·.1)).Nodup) : (insAll [] P).length = P.length := by
  have hr : Rising ((insAll [] P).map (·.1)) := insAll_rising P trivial
  have hm : ∀ k, k ∈ (insAll [] P).map (·.1) ↔ k ∈ P.map (·.1) := fun k => by rw [sort_keys, putAll_self h]
  apply Nat.le_antisymm
  · simpa using nodup_le (G := P.map (·.1)) hr.nodup (fun k hk => (hm k).1 hk)
  · simpa using nodup_le (G := (insAll [] P).map (·.1)) h (fun k hk => (hm k).2 hk)
theorem sort_get {α : Type} {P : EntsOfT α} (h : (P.map (·.1)).Nodup) (k : ByteArray) : lookK k (insAll [] P) = getEnt k P := by
  rw [lookK_insAll, putAll_self h, getEnt_lookK]

set_option maxRecDepth 100000 in
theorem callFunc_cmp (args : Array Value) (w : World) : (callFunc 96 args).run Try.prog w = .ok (.enter 96 args) w := rfl

theorem cmp_visit {w : World} {bi bl bc br ba : Nat} {al : Value} {P Q : EntsOfT T} {O : List ByteArray} (hO : Rising O) (hm : ∀ k, k ∈ O ↔ k ∈ P.map (·.1) ∨ k ∈ Q.map (·.1)) (hP : (P.map (·.1)).Nodup) (hQ : (Q.map (·.1)).Nodup) (hb : P.length * 88 ≤ 140737488351232)
    (hal : IsAl al) (hbi : w.heap[bi]? = some (.cells #[.int .i64 0] 3 (0, 0))) (hbc : w.heap[bc]? = some (.cells #[.int .i64 0] 3 (0, 0)))
    (cl : w.cell? ⟨bl, 0, none⟩ = some (.int .i64 P.length)) (cr : w.cell? ⟨br, 0, none⟩ = some (.int .i64 Q.length)) (ca : w.cell? ⟨ba, 0, none⟩ = some al)
    (hic : bi ≠ bc) (hl : bl ∉ [bc, bi]) (hr : br ∉ [bc, bi]) (ha : ba ∉ [bc, bi]) (ih : ∀ i (h : i < Q.length), CmC (Q[i]).2) :
    ZipV w [bc, bi] P Q O 96 #[.pointer (some ⟨bi, 0, none⟩), .pointer (some ⟨bl, 0, none⟩), .pointer (some ⟨bc, 0, none⟩), .pointer (some ⟨br, 0, none⟩), .pointer (some ⟨ba, 0, none⟩)]
      (fun j w1 => w1.heap[bi]? = some (.cells #[.int .i64 j] 3 (0, 0)) ∧ w1.heap[bc]? = some (.cells #[.int .i64 0] 3 (0, 0)) ∧ ZInv cmpT O (insAll [] P) (insAll [] Q) j)
      (fun w1 => w1.heap[bc]? = some (.cells #[.int .i64 (cmpE cmpT (insAll [] P) (insAll [] Q))] 3 (0, 0))) where
  start := ⟨by simpa using hbi, hbc, ZInv.zero⟩
  keep := fun j B w1 w2 hs ⟨h1, h2, h3⟩ hM hB => by
    have e1 : bi < w.heap.size := (Array.getElem?_eq_some_iff.1 hbi).1
    have e2 : bc < w.heap.size := (Array.getElem?_eq_some_iff.1 hbc).1
    exact ⟨(hM.block bi (by omega) (fun h => by have := hB _ h; omega)).trans h1, (hM.block bc (by omega) (fun h => by have := hB _ h; omega)).trans h2, h3⟩
  step := fun j hj w1 va vb hM ⟨h1, h2, h3⟩ hva hvb K hK => by
    have z := zok_maps hO hm hP hQ
    have hmv := hM.mv (X := [bc, bi]) (fun _ h => h)
    have hjP : j ≤ P.length := by have := h3.lP; rw [sort_len hP] at this; exact this
    simp only [List.mem_cons, List.not_mem_nil, or_false, not_or] at hl hr ha
    refine cmpFn_c (o := getEnt O[j] P) (p := getEnt O[j] Q) (n1 := P.length) (n2 := Q.length) rfl hal h1 h2 (hmv.cell (by simp [hl]) cl).1 (hmv.cell (by simp [hr]) cr).1 (hmv.cell (by simp [ha]) ca).1 hic hl.1 hr.1 (by omega) hva hvb ?_ K ?_
    · intro y hy
      rw [getEnt_lookK] at hy
      obtain ⟨i, hi, e⟩ := List.getElem_of_mem (lookK_mem hy)
      have := ih i hi
      rw [e] at this
      exact this
    · intro w2 hM2 hbi2 hbc2
      refine hK w2 _ hM2 (fun hb => ?_) (fun hb => ?_)
      · have h0 : cmpO j P.length Q.length (getEnt O[j] P) (getEnt O[j] Q) = 0 := of_decide_eq_true hb
        rw [h0] at hbc2
        refine ⟨hbi2, hbc2, ?_⟩
        rcases h3.step z hj with ⟨e, -⟩ | ⟨e1, e, -⟩ | ⟨e1, e2, hh⟩
        · rw [sort_len hP] at e; simp [cmpO, e] at h0
        · rw [sort_len hP] at e1; rw [sort_len hQ] at e
          simp only [cmpO] at h0; rw [if_neg (by omega), if_pos e] at h0; cases h0
        · rw [sort_len hP] at e1; rw [sort_len hQ] at e2
          simp only [cmpO] at h0; rw [if_neg (by omega), if_neg (by omega)] at h0
          rw [sort_get hP, sort_get hQ] at hh
          rcases hh with ⟨g1, -⟩ | ⟨g1, g2, -⟩ | ⟨x, y, g1, g2, -, g3⟩
          · rw [g1] at h0; cases h0
          · cases hg : getEnt O[j] P with
            | none => exact absurd hg g1
            | some x => rw [hg, g2] at h0; cases h0
          · rw [g1, g2] at h0; exact g3 h0
      · have h0 : ¬ cmpO j P.length Q.length (getEnt O[j] P) (getEnt O[j] Q) = 0 := of_decide_eq_false hb
        have : cmpE cmpT (insAll [] P) (insAll [] Q) = cmpO j P.length Q.length (getEnt O[j] P) (getEnt O[j] Q) := by
          rcases h3.step z hj with ⟨e, g⟩ | ⟨e1, e, g⟩ | ⟨e1, e2, hh⟩
          · rw [g]; rw [sort_len hP] at e; simp [cmpO, e]
          · rw [g]; rw [sort_len hP] at e1; rw [sort_len hQ] at e
            simp only [cmpO]; rw [if_neg (by omega), if_pos e]
          · rw [sort_len hP] at e1; rw [sort_len hQ] at e2
            simp only [cmpO] at h0 ⊢; rw [if_neg (by omega), if_neg (by omega)] at h0 ⊢
            rw [sort_get hP, sort_get hQ] at hh
            rcases hh with ⟨g1, g⟩ | ⟨g1, g2, g⟩ | ⟨x, y, g1, g2, g3, -⟩
            · rw [g, g1]
            · cases hg : getEnt O[j] P with
              | none => exact absurd hg g1
              | some x => rw [g, g2]
            · rw [g1, g2] at h0 ⊢; exact g3 h0
        rw [this]
        exact hbc2
  enter := callFunc_cmp

set_option maxRecDepth 100000 in
set_option maxHeartbeats 4000000 in
set_option pp.maxSteps 1000000 in
set_option pp.deepTerms true in
theorem mapCompare_c {w : World} {r1 r2 : Nat} {al : Value} {P Q : EntsOfT T} (ih : ∀ i (h : i < Q.length), CmC (Q[i]).2) (hal : IsAl al) (h1 : IsTm w [] r1 P) (h2 : IsTm w [] r2 Q)
    (R : Ending → World → Prop) (hR : Ends R w (.int .i64 (cmpE cmpT (insAll [] P) (insAll [] Q)))) :
    Calls Try.prog 85 #[al, .iface 178 (.map (some r1)), .iface 178 (.map (some r2))] w R := by
  have hmf : ∀ (fn : Fn) (first cap : Array Value) (w : World), (Instr.makeFunc fn first cap).run Try.prog w = .ok (.func fn first cap) w := fun _ _ _ _ => rfl
  obtain ⟨ab, rfl⟩ := hal
  obtain ⟨us1, hu1, hl1⟩ := h1.len
  obtain ⟨us2, hu2, hl2⟩ := h2.len
  obtain ⟨n1, hn1⟩ : ∃ n, us1.length = n := ⟨_, rfl⟩
  obtain ⟨n2, hn2⟩ : ∃ n, us2.length = n := ⟨_, rfl⟩
  have e1 : P.length = n1 := by rw [← hl1, hn1]
  have e2 : Q.length = n2 := by rw [← hl2, hn2]
  have h1' := Lib.hid h1
  have h2' := Lib.hid h2
  have ih' := Lib.hid ih
  have hR' := Lib.hid hR
  have hn1' := Lib.hid hn1
  have hn2' := Lib.hid hn2
  have hu1' := Lib.hid hu1
  have hu2' := Lib.hid hu2
  have e1' := Lib.hid e1
  have e2' := Lib.hid e2
  clear h1 h2 ih hR hn1 hn2 hu1 hu2 hl1 hl2 e1 e2
  go_enter Try.func85, Try.ntmps85
  go_wp2_with (first
    | (refine wpL_init1 rfl 3 _ _ rfl Try.info3 (v := .int .i64 0) (c' := #[.int .i64 0]) rfl (by simp) rfl rfl (by simp) rfl ?_; refine abs2 (G := fun wr => wpList _ _ _ _ _ wr) ?_; intro w1 hE1 hb1 hb2 hs1))
  have hs1' := Lib.hid hs1
  clear hs1
  refine abs2 (G := fun wr => Calls _ _ _ wr _) ?_
  intro w2 hE2 hb3 hb4 hs2
  have hs2' := Lib.hid hs2
  clear hs2
  have hE12 := hE1.trans hE2
  replace hb1 := (hE2.below.block _ (Array.getElem?_eq_some_iff.1 hb1).1).trans hb1
  replace hb2 := (hE2.below.block _ (Array.getElem?_eq_some_iff.1 hb2).1).trans hb2
  have z1 : w1.heap.size = w.heap.size + 2 := hs1'.out
  rw [z1] at hb3 hb4
  obtain ⟨ba, eba⟩ : ∃ b, w.heap.size = b := ⟨_, rfl⟩
  obtain ⟨bc, ebc⟩ : ∃ b, ba + 1 = b := ⟨_, rfl⟩
  obtain ⟨bl, ebl⟩ : ∃ b, ba + 2 = b := ⟨_, rfl⟩
  obtain ⟨br, ebr⟩ : ∃ b, bl + 1 = b := ⟨_, rfl⟩
  rw [eba, ebc] at hb2
  rw [eba] at hb1
  rw [eba, ebl] at hb3
  rw [eba, ebl, ebr] at hb4
  rw [eba, ebc, ebl, ebr]
  have hn : ba ≠ bc ∧ ba ≠ bl ∧ ba ≠ br ∧ bc ≠ bl ∧ bc ≠ br ∧ bl ≠ br := by omega
  have hge : w.heap.size ≤ ba ∧ w.heap.size ≤ bc ∧ w.heap.size ≤ bl ∧ w.heap.size ≤ br := by omega
  have hn' := Lib.hid hn
  have hge' := Lib.hid hge
  clear z1 hn hge eba ebc ebl ebr hs1' hs2' hE1 hE2
  refine mLength_c (hu1'.out.ext hE12) _ ?_
  rw [hn1'.out]
  dsimp only
  go_wp2_with (first
    | (refine wpL_storeC rfl 3 _ _ rfl Try.info3 (v := .int .i64 n1) (new := #[.int .i64 n1]) rfl rfl rfl hb3 (by simp) rfl ?_; intro w3 h3 g3))
  have hE3 : Ext w w3 := hE12.grown g3 (fun k hk => by cases hk; exact hge'.out.2.2.1)
  replace hb1 := (g3.block ba (Array.getElem?_eq_some_iff.1 hb1).1 (fun e => hn'.out.2.1 (by cases e; rfl))).trans hb1
  replace hb2 := (g3.block bc (Array.getElem?_eq_some_iff.1 hb2).1 (fun e => hn'.out.2.2.2.1 (by cases e; rfl))).trans hb2
  replace hb4 := (g3.block br (Array.getElem?_eq_some_iff.1 hb4).1 (fun e => hn'.out.2.2.2.2.2 (by cases e; rfl))).trans hb4
  clear hb3 g3 hE12
  refine mLength_c (hu2'.out.ext hE3) _ ?_
  rw [hn2'.out]
  dsimp only
  go_upto_region 7 with (first
    | (refine wpL_storeC rfl 3 _ _ rfl Try.info3 (v := .int .i64 n2) (new := #[.int .i64 n2]) rfl rfl rfl hb4 (by simp) rfl ?_; intro w4 h4 g4))
  have hE4 : Ext w w4 := hE3.grown g4 (fun k hk => by cases hk; exact hge'.out.2.2.2)
  replace hb1 := (g4.block ba (Array.getElem?_eq_some_iff.1 hb1).1 (fun e => hn'.out.2.2.1 (by cases e; rfl))).trans hb1
  replace hb2 := (g4.block bc (Array.getElem?_eq_some_iff.1 hb2).1 (fun e => hn'.out.2.2.2.2.1 (by cases e; rfl))).trans hb2
  replace h3 := (g4.block bl (Array.getElem?_eq_some_iff.1 h3).1 (fun e => hn'.out.2.2.2.2.2 (by cases e; rfl))).trans h3
  clear hb4 g4 hE3
  have cl : w4.cell? ⟨bl, 0, none⟩ = some (.int .i64 n1) := cells_of h3 0
  have cr : w4.cell? ⟨br, 0, none⟩ = some (.int .i64 n2) := cells_of h4 0
  have ca : w4.cell? ⟨ba, 0, none⟩ = some (.iface 98 (.pointer (some ⟨ab, 0, none⟩))) := cells_of hb1 0
  have hlt' := Lib.hid (show bl < w4.heap.size ∧ br < w4.heap.size ∧ ba < w4.heap.size from ⟨(Array.getElem?_eq_some_iff.1 h3).1, (Array.getElem?_eq_some_iff.1 h4).1, (Array.getElem?_eq_some_iff.1 hb1).1⟩)
  clear hb1 h3 h4
  have hz1 : ((n1 : Int) == 0) = decide (n1 = 0) := by rw [Bool.eq_iff_iff]; simp
  have hz2 : ((n2 : Int) == 0) = decide (n2 = 0) := by rw [Bool.eq_iff_iff]; simp
  simp only [go_sem]
  go_cut [24] from 19 (fun b wc => b = .bool (decide (n1 = 0 ∧ n2 = 0)) ∧ w4 = wc)
  case first =>
    by_cases hn0 : n1 = 0
    · go_wp2_with fail
      go_meet
      case rel => exact ⟨by simp [hn0], rfl⟩
    · go_wp2_with fail
      go_meet
      case rel => exact ⟨by simp [hn0], rfl⟩
  obtain ⟨rfl, ew⟩ := hcut
  subst ew
  clear hz1 hz2
  by_cases hz : n1 = 0 ∧ n2 = 0
  · have hP : P = [] := List.eq_nil_of_length_eq_zero (e1'.out.trans hz.1)
    have hQ : Q = [] := List.eq_nil_of_length_eq_zero (e2'.out.trans hz.2)
    have hc : cmpE cmpT (insAll [] P) (insAll [] Q) = 0 := by rw [hP, hQ]; rfl
    have hc' := Lib.hid hc
    clear hc hP hQ
    go_wp2_with fail
    exact hR'.out.int hc'.out _ hE4
  · go_wp2_with (first
      | (refine wpL_init1 rfl 3 _ _ rfl Try.info3 (v := .int .i64 0) (c' := #[.int .i64 0]) rfl (by simp) rfl rfl (by simp) rfl ?_; refine abs1 (G := fun wr => wpList _ _ _ _ _ wr) ?_; intro w5 hE5 hb5 hs5; replace ca := hE5.keep ca))
    have hb25 := (hE5.below.block _ (Array.getElem?_eq_some_iff.1 hb2).1).trans hb2
    replace cl := hE5.keep cl
    replace cr := hE5.keep cr
    rw [← e1'.out] at cl
    rw [← e2'.out] at cr
    have hE45 := hE4.trans hE5
    have hs4 := hE4.size
    have hbc4 : bc < w4.heap.size := (Array.getElem?_eq_some_iff.1 hb2).1
    have hbl4 : bl < w4.heap.size ∧ br < w4.heap.size ∧ ba < w4.heap.size := hlt'.out
    have hmv : Mv w [] w5 [bc, w4.heap.size] := by
      have := (hE45.mv []).moreL (Z := [bc, w4.heap.size]) (by have := hge'.out; simp; omega)
      simpa using this
    have hold : Old [bc, w4.heap.size] w5 := Old.cons (by omega) (Old.cons (by omega) (Old.nil _))
    have hE45' := Lib.hid hE45
    have hmv' := Lib.hid hmv
    have hold' := Lib.hid hold
    have hb25' := Lib.hid hb25
    have hb5' := Lib.hid hb5
    have hbc4' := Lib.hid hbc4
    have hbl4' := Lib.hid hbl4
    have hs4' := Lib.hid hs4
    have hz' := Lib.hid hz
    clear hb2 hE5 hs5 hE4 hE45 hmv hold hb25 hb5 hbc4 hbl4 hs4 hz hlt'
    refine mapZip_c (X := [bc, w4.heap.size]) (P := P) (Q := Q) (h1'.out.mv hmv'.out) (h2'.out.mv hmv'.out) hold'.out ⟨ab, rfl⟩
      (fun w6 hE6 O hO hm => cmp_visit hO hm h1'.out.nodup h2'.out.nodup h1'.out.bound ⟨ab, rfl⟩ ((hE6.below.block _ (Array.getElem?_eq_some_iff.1 hb5'.out).1).trans hb5'.out) ((hE6.below.block _ (Array.getElem?_eq_some_iff.1 hb25'.out).1).trans hb25'.out)
        (hE6.keep cl) (hE6.keep cr) (hE6.keep ca) (by have := hbc4'.out; omega) (by have := hn'.out; have := hbl4'.out; simp; omega) (by have := hn'.out; have := hbl4'.out; simp; omega) (by have := hn'.out; have := hbl4'.out; simp; omega) ih'.out) _ ?_ ?_
    · intro O w' a1 a2 a3 ⟨a4, a5, a6⟩
      have hc := Lib.hid (a6.last (zok_maps a1 a2 h1'.out.nodup h2'.out.nodup) (Nat.le_refl _))
      have hE := hE45'.out.mutated a3 (by have := hge'.out; have := hs4'.out; simp; omega)
      have cc : w'.cell? ⟨bc, 0, none⟩ = some (.int .i64 0) := cells_of a5 0
      clear a1 a2 a3 a4 a5 a6
      dsimp only
      go_wp2_with fail
      exact hR'.out.int hc.out _ hE
    · intro O w' a1 a2 a3 a4
      have hE := hE45'.out.mutated a3 (by have := hge'.out; have := hs4'.out; simp; omega)
      obtain ⟨v, hv⟩ : ∃ v, cmpE cmpT (insAll [] P) (insAll [] Q) = v := ⟨_, rfl⟩
      rw [hv] at a4
      have cc : w'.cell? ⟨bc, 0, none⟩ = some (.int .i64 v) := cells_of a4 0
      have hv' := Lib.hid hv
      clear a1 a2 a3 a4 hv
      dsimp only
      go_wp2_with fail
      exact hR'.out.int hv'.out _ hE
end Go.Proofs.Ytamcgcncghabhaa
