/- Schemas: their types as data; impl.toSchema, schema's FindNamedType. -/
import Derived.Test.YtmihdlbcjiaibaaDeduceC
namespace Go.Proofs.Ytmihdlbcjiaibaa
open Go.RowKit

/-- impl.TypeDef, schema.TypeDef -/
structure TdOf (α : Type) where
  (name : ByteArray) (atom : α)
def kTd {α : Type} (k : Kind α) : Kind (TdOf α) where
  size := k.size + 1
  is := fun w X cs t => ∃ ac, cs = .string t.name :: ac ∧ k.is w X ac t.atom ∧ t.name.size ≤ 140737488351232
  mv := fun ⟨ac, h1, h2, h3⟩ m => ⟨ac, h1, k.mv h2 m, h3⟩
  len := fun ⟨ac, h1, h2, _⟩ => by have := k.len h2; rw [h1]; simp [this]
  one := fun ⟨ac, h1, h2, _⟩ u hu => by
    rw [h1] at hu
    simp only [List.mem_cons] at hu
    rcases hu with rfl | hu
    · rfl
    · exact k.one h2 u hu
theorem kTd_4 (d : Nat) : (kTd (kA d)).size = 4 := by simp [kTd, kA_size]
theorem ksTd_4 (d : Nat) : (kTd (ksA d)).size = 4 := by simp [kTd, ksA_size]
def toTd (f : A → SA) (t : TdOf A) : TdOf SA := ⟨t.name, f t.atom⟩

theorem Try.size60 : (Try.prog.info? 60).map (·.size) = some 4 := by kernel_rfl
theorem Try.size118 : (Try.prog.info? 118).map (·.size) = some 4 := by kernel_rfl

theorem Try.info153 : (Try.prog.info? 153).map (fun i => (i.zero, i.size, i.bytes)) = some (some (.slice none 0 0), 1, 24) := by kernel_rfl
theorem Try.info118 : (Try.prog.info? 118).map (fun i => (i.zero, i.size, i.bytes)) = some (some (.agg #[.string ⟨#[]⟩, .pointer none, .pointer none, .pointer none]), 4, 40) := by kernel_rfl

/-- the last type of a name -/
def lastTd {α : Type} (name : ByteArray) : List (TdOf α) → Option (TdOf α)
  | [] => none
  | t :: us => match lastTd name us with | some u => some u | none => if t.name = name then some t else none
theorem lastTd_none {α : Type} {name : ByteArray} : ∀ {us : List (TdOf α)}, (∀ j (h : j < us.length), us[j].name ≠ name) → lastTd name us = none
  | [], _ => rfl
  | t :: us, h => by
    have h0 : t.name ≠ name := h 0 (by simp)
    have h1 := lastTd_none (us := us) fun j hj => h (j + 1) (by simpa using hj)
    simp [lastTd, h1, h0]
theorem lastTd_at {α : Type} {name : ByteArray} : ∀ {us : List (TdOf α)} {i : Nat} (hi : i < us.length), us[i].name = name → (∀ j (h : j < us.length), i < j → us[j].name ≠ name) → lastTd name us = some us[i]
  | t :: us, 0, _, h0, h => by
    have h1 := lastTd_none (name := name) (us := us) fun j hj => h (j + 1) (by simpa using hj) (by omega)
    have h2 : t.name = name := h0
    simp [lastTd, h1, h2]
  | t :: us, i + 1, hi, h0, h => by
    have h1 := lastTd_at (us := us) (i := i) (by simpa using hi) h0 fun j hj hij => h (j + 1) (by simpa using hj) (by omega)
    simp [lastTd, h1]
theorem lastTd_map {name : ByteArray} (f : A → SA) : ∀ us : List (TdOf A), lastTd name (us.map (toTd f)) = (lastTd name us).map (toTd f)
  | [] => rfl
  | t :: us => by
    simp only [List.map_cons, lastTd, lastTd_map f us]
    cases lastTd name us with
    | some u => rfl
    | none =>
      by_cases h : t.name = name <;> simp [toTd, h]
theorem lastTd_any {α : Type} {name : ByteArray} : ∀ us : List (TdOf α), (lastTd name us).isSome = us.any fun t => decide (t.name = name)
  | [] => rfl
  | t :: us => by
    rw [List.any_cons, ← lastTd_any us, lastTd]
    cases lastTd name us with
    | some u => simp
    | none => by_cases h : t.name = name <;> simp [h]

set_option maxRecDepth 100000 in
set_option maxHeartbeats 8000000 in
set_option pp.maxSteps 1000000 in
set_option pp.deepTerms true in
theorem findNamed_c {d : Nat} {w : World} {X : List Nat} {B : Nat} {v : Value} {us : List (TdOf SA)} {name : ByteArray} (hB : w.heap[B]? = some (.cells #[v] 155 (0, 0))) (hs : IsSl (kTd (ksA d)) 80 w X v us) (hX : Old X w) (R : Ending → World → Prop)
    (hR1 : ∀ w' c1 c2 c3 u, lastTd name us = some u → Ext w w' → (ksA d).is w' X [c1, c2, c3] u.atom → R (.returned (.tuple #[.agg #[.string u.name, c1, c2, c3], .bool true])) w')
    (hR0 : lastTd name us = none → Ends R w (.tuple #[.agg #[.string ⟨#[]⟩, .pointer none, .pointer none, .pointer none], .bool false])) :
    Calls Try.prog 60 #[.pointer (some ⟨B, 0, none⟩), .string name] w R := by
  obtain ⟨ko, kc, db, doff, rfl, k1, k2, k3, k4⟩ := id hs.ex
  rw [ksTd_4] at k4
  have hk3 := Lib.hid k3
  have hk4 := Lib.hid k4
  have hR1' := Lib.hid hR1
  have hR0' := Lib.hid hR0
  have hX' := Lib.hid hX
  have hBc : w.cell? ⟨B, 0, none⟩ = some (.slice ko us.length kc) := cells_of hB 0
  clear hR1 hR0 hX hs k1 k3 k4 hB
  go_enter Try.func60, Try.ntmps60
  have hBl : B < w.heap.size := by
    by_cases hlt : B < w.heap.size
    · exact hlt
    · simp [World.cell?, Array.getElem?_eq_none (Nat.le_of_not_lt hlt)] at hBc
  have hn1 : -9223372036854775808 ≤ (us.length : Int) - 1 := by omega
  have hn2 : (us.length : Int) - 1 ≤ 9223372036854775807 := by omega
  go_wp2_with fail
  refine abs1 (G := Code.wp _ _ _ _) ?_
  intro w1 hE1 hb1 hs1
  have hb1' := Lib.hid hb1
  have hl1 : w.heap.size < w1.heap.size := by omega
  have hB1 := hE1.keep hBc
  clear hb1 hs1 hBc
  go_loopw [6] (fun i wr => ∃ k : Nat, k ≤ us.length ∧ i = .int .i64 ((k : Int) - 1) ∧ Ext w1 wr ∧ Hid (∀ j (h : j < us.length), k ≤ j → us[j].name ≠ name)) (fun i _ => ((intOf i) + 1).toNat)
  case atStart => exact ⟨us.length, Nat.le_refl _, rfl, Ext.refl _, fun j h hj => by omega⟩
  case round =>
    obtain ⟨k, hk, rfl, hbr, hall⟩ := hrel
    have hb2 := hbr.keep hB1
    cases k with
    | zero =>
      have hno := lastTd_none (name := name) (us := us) fun j h => hall.out j h (Nat.zero_le _)
      have hz : (decide ((((0 : Nat) : Int) - 1) ≥ 0)) = false := by simp
      have hR2 := Lib.hid (hR0'.out hno)
      have hzz := (hbr.below.block _ hl1).trans hb1'.out
      have hEz := hE1.trans hbr
      rename World => wr
      clear hno hall
      go_wp2_with (refine wpL_storeRow (cells := #[.string ⟨#[]⟩, .pointer none, .pointer none, .pointer none]) rfl 118 _ _ rfl Try.size118 rfl rfl hzz rfl (by simp [str_one]; rfl) ?_; intro w6 h6 g6)
      go_simp
      have z0 : w6.cell? ⟨w.heap.size, 0, none⟩ = some (.string ⟨#[]⟩) := cells_of h6 0
      have z1 : w6.cell? ⟨w.heap.size, 1, none⟩ = some (.pointer none) := cells_of h6 1
      have z2 : w6.cell? ⟨w.heap.size, 2, none⟩ = some (.pointer none) := cells_of h6 2
      have z3 : w6.cell? ⟨w.heap.size, 3, none⟩ = some (.pointer none) := cells_of h6 3
      refine bodyPost_ret (by simp [results, Try.results60, go_sem, z0, z1, z2, z3]; try rfl) rfl ?_
      exact hR2.out w6 (hEz.grown g6 (fun k hk => by cases hk; omega))
    | succ k =>
      have hlt : k < us.length := by omega
      obtain ⟨cs', hc, hcs⟩ := hk4.out k hlt
      obtain ⟨rfl, hdX⟩ := hk3.out (by omega)
      obtain ⟨ac, rfl, hat, hnm⟩ := hcs
      obtain ⟨t1, t2, t3, rfl, n1, n2, n3⟩ := ksA_three hat
      have hEz := hE1.trans hbr
      have m0 := hEz.keep (hc 0 (by omega))
      have m1 := hEz.keep (hc 1 (by omega))
      have m2 := hEz.keep (hc 2 (by omega))
      have m3 := hEz.keep (hc 3 (by omega))
      simp only [Nat.add_zero] at m0
      have hat' := Lib.hid hat
      have ek : (((k + 1 : Nat) : Int) - 1) = (k : Int) := by omega
      rw [ek]
      have hi0 : (0 : Int) ≤ (k : Int) := by omega
      have hi1 : (k : Int) < (us.length : Int) := by omega
      have hkm : (k : Int) - 1 ≤ 9223372036854775807 := by omega
      have hkn : -9223372036854775808 ≤ (k : Int) - 1 := by omega
      have hzz := (hbr.below.block _ hl1).trans hb1'.out
      clear hc hat hnm ek
      by_cases hn : us[k].name = name
      · have hat1 := Lib.hid (lastTd_at hlt hn fun j h hj => hall.out j h (by omega))
        have hn' := Lib.hid hn
        rw [hn] at m0
        clear hn hall
        go_wp2_with (refine wpL_storeRow (cells := #[.string name, t1, t2, t3]) rfl 118 _ _ rfl Try.size118 rfl rfl hzz rfl (by simp [n1, n2, n3, str_one]) ?_; intro w6 h6 g6)
        go_simp
        have z0 : w6.cell? ⟨w.heap.size, 0, none⟩ = some (.string name) := cells_of h6 0
        have z1 : w6.cell? ⟨w.heap.size, 1, none⟩ = some t1 := cells_of h6 1
        have z2 : w6.cell? ⟨w.heap.size, 2, none⟩ = some t2 := cells_of h6 2
        have z3 : w6.cell? ⟨w.heap.size, 3, none⟩ = some t3 := cells_of h6 3
        refine bodyPost_ret (by simp [results, Try.results60, go_sem, z0, z1, z2, z3]; try rfl) rfl ?_
        have hE6 := hEz.grown g6 (fun k hk => by cases hk; omega)
        have := hR1'.out w6 t1 t2 t3 us[k] hat1.out hE6 ((ksA d).mv hat'.out (hE6.mv _))
        rw [hn'.out] at this
        exact this
      · have hb := bytes_beq hn
        have hn' := Lib.hid hn
        clear hn
        go_wp2_with fail
        go_roundw
        case rel =>
          refine ⟨k, by omega, by go_num, hbr, fun j h hj => ?_⟩
          by_cases e : j = k
          · subst e; exact hn'.out
          · exact hall.out j h (by omega)
        case measure => simp [intOf]

set_option maxRecDepth 100000 in
set_option maxHeartbeats 8000000 in
set_option pp.maxSteps 1000000 in
set_option pp.deepTerms true in
theorem toSchema_c {d : Nat} {w : World} {X : List Nat} {vs : Value} {ts : List (TdOf A)} (hs : IsSl (kTd (kA d)) 80 w X vs ts) (hX : Old X w) (R : Ending → World → Prop)
    (hR : ∀ w' B v, Ext w w' → w.heap.size ≤ B → w'.heap[B]? = some (.cells #[v] 155 (0, 0)) → IsSl (kTd (ksA d)) 80 w' (B :: X) v (ts.map (toTd (toA d))) → R (.returned (.pointer (some ⟨B, 0, none⟩))) w') :
    Calls Try.prog 56 #[.agg #[vs]] w R := by
  obtain ⟨ko, kc, db, doff, rfl, k1, k2, k3, k4⟩ := id hs.ex
  rw [kTd_4] at k4
  have hk3 := Lib.hid k3
  have hk4 := Lib.hid k4
  have hR' := Lib.hid hR
  have hX' := Lib.hid hX
  clear hR hX hs k1 k3 k4
  go_enter Try.func56, Try.ntmps56
  go_wp2_with fail
  refine abs2 (G := Code.wp _ _ _ _) ?_
  intro w1 hE1 hb1 hb2 hs1
  have c0 : w1.cell? ⟨w.heap.size, 0, none⟩ = some (.slice ko ts.length kc) := cells_of hb1 0
  have hlf : ∀ n, ((ts.take n).map (toTd (toA d))).length ≤ ts.length := fun n => by rw [List.length_map, List.length_take]; omega
  have hlf' := Lib.hid hlf
  have hb2' := Lib.hid hb2
  have hsz1 : w.heap.size + 2 ≤ w1.heap.size := by omega
  clear hlf hb1 hb2 hs1
  obtain ⟨B, hBB⟩ : ∃ B, w.heap.size + 1 = B := ⟨_, rfl⟩
  rw [hBB] at hb2' ⊢
  have hB1 : w.heap.size ≤ B := by omega
  have hB3 : w.heap.size < B := by omega
  have hB2 : B < w1.heap.size := by omega
  clear hBB
  go_loopw [11] (fun i wr => ∃ (k : Nat) (v : Value), k ≤ ts.length ∧ i = .int .i64 k ∧ Ext w wr ∧ w1.heap.size ≤ wr.heap.size ∧ wr.heap[B]? = some (.cells #[v] 155 (0, 0)) ∧ (∀ g, v.ownBlock = some g → w.heap.size ≤ g) ∧
        Row (kTd (ksA d)) 118 wr (B :: X) v ((ts.take k).map (toTd (toA d))))
      (fun i _ => ts.length - (intOf i).toNat)
  case atStart => exact ⟨0, _, Nat.zero_le _, rfl, hE1, Nat.le_refl _, hb2'.out, fun g hg => by simp [Value.ownBlock] at hg, Row.nil _ _ _ _⟩
  case round =>
    obtain ⟨k, v, hk, rfl, hEr, hsz, hB, hgv, hrow⟩ := hrel
    by_cases hlt : k < ts.length
    · obtain ⟨cs', hc, hcs⟩ := hk4.out k hlt
      obtain ⟨rfl, hdX⟩ := hk3.out (by omega)
      obtain ⟨ac, rfl, hat, hnm⟩ := hcs
      obtain ⟨t1, t2, t3, rfl, n1, n2, n3⟩ := kA_three hat
      have m0 := hEr.keep (hc 0 (by omega))
      have m1 := hEr.keep (hc 1 (by omega))
      have m2 := hEr.keep (hc 2 (by omega))
      have m3 := hEr.keep (hc 3 (by omega))
      simp only [Nat.add_zero] at m0
      have hat' := Lib.hid hat
      have hnm' := Lib.hid hnm
      have hv0 : wr.cell? ⟨B, 0, none⟩ = some v := cells_of hB 0
      have hB' := Lib.hid hB
      have hi1 : (k : Int) < (ts.length : Int) := by omega
      have hkm : (k : Int) + 1 ≤ 9223372036854775807 := by omega
      clear hc hat hB hnm c0
      go_wp2_with (refine wpL_storeRow (cells := #[.string (ts[k]).name, t1, t2, t3]) rfl 60 _ _ rfl Try.size60 rfl rfl (alloc_new _ _ rfl) rfl (by simp [n1, n2, n3, str_one]) ?_; intro w5 h5 g5)
      clear m0 m1 m2 m3
      have hE5 : Ext wr w5 := ((Ext.refl wr).push _).grown g5 (fun k hk => by cases hk; exact Nat.le_refl _)
      have hBr := (Array.getElem?_eq_some_iff.1 hB'.out).1
      have hB5 : w5.heap[B]? = _ := (hE5.below.block _ hBr).trans hB'.out
      have hv5 : w5.cell? ⟨B, 0, none⟩ = some v := cells_of hB5 0
      have hrow5 := hrow.ext hE5
      have s0 : w5.cell? ⟨wr.heap.size, 0, none⟩ = some (.string (ts[k]).name) := cells_of h5 0
      have s1 : w5.cell? ⟨wr.heap.size, 1, none⟩ = some t1 := cells_of h5 1
      have s2 : w5.cell? ⟨wr.heap.size, 2, none⟩ = some t2 := cells_of h5 2
      have s3 : w5.cell? ⟨wr.heap.size, 3, none⟩ = some t3 := cells_of h5 3
      refine wp_region_script [0, 1, 2, 3, 4, 5, 6, 7, 8, 10, 13, 14] [9, 11] (fun w' => Ext w5 w') [(.pure, 0), (.pure, 1), (.pure, 2), (.pure, 3), (.read, 4), (.pure, 5), (.read, 6), (.pure, 7), (.read, 8), (.one, 9), (.pure, 10), (.one, 11), (.one, 12), (.pure, 13), (.pure, 14), (.one, 15)] (by kernel_rfl) (by kernel_rfl) ?_
      iterate 4 (apply scr_pure'; (· rfl); (· rfl); (· (intro w'; go_simp; try rfl)); (· (simp [go_sem]; try rfl)))
      (apply scr_read'; (· rfl); (· rfl); (· first | exact hC | exact (Ext.refl _).drew); (· (intro w' hw'; have hv5_ := hw'.keep hv5; go_simp; try rfl)); (· (simp [go_sem]; try rfl)))
      (apply scr_pure'; (· rfl); (· rfl); (· (intro w'; go_simp; try rfl)); (· (simp [go_sem]; try rfl)))
      (apply scr_read'; (· rfl); (· rfl); (· first | exact hC | exact (Ext.refl _).drew); (· (intro w' hw'; have s0_ := hw'.keep s0; go_simp; try rfl)); (· (simp [go_sem]; try rfl)))
      (apply scr_pure'; (· rfl); (· rfl); (· (intro w'; go_simp; try rfl)); (· (simp [go_sem]; try rfl)))
      (apply scr_read'; (· rfl); (· rfl); (· first | exact hC | exact (Ext.refl _).drew); (· (intro w' hw'; have s1_ := hw'.keep s1; have s2_ := hw'.keep s2; have s3_ := hw'.keep s3; go_simp; try rfl)); (· (simp [go_sem]; try rfl)))
      refine scr_one rfl rfl (fun K hK => ?_)
      go_simp
      have hXX : Old (B :: X) w5.drew := .cons (by have := hE5.size; simp; omega) (hX'.out.le (hEr.trans hE5).drew.size)
      refine toAtom_c d _ (vb v ++ (B :: X)) [t1, t2, t3] (ts[k]).atom ((kA d).mv hat'.out ((((hEr.trans hE5).drew.mv X).more (n := B) (by omega)).moreL fun z hz => hgv z (by simpa [vb] using hz))) ((hrow5.ext (Ext.refl w5).drew).old hXX) _ ?_
      intro w6 cs6 hE6 hy6
      obtain ⟨j1, j2, j3, rfl, u1, u2, u3⟩ := ksA_three hy6
      have hy6' : Hid ((kTd (ksA d)).is w6 (vb v ++ (B :: X)) [.string (ts[k]).name, j1, j2, j3] (toTd (toA d) (ts[k]))) := Lib.hid ⟨_, rfl, hy6, hnm'.out⟩
      clear hy6
      have hw6 := (Ext.refl w5).drew.trans hE6
      refine hK _ _ (fun _ => hw6) ?_
      clear hK
      (apply scr_pure'; (· rfl); (· rfl); (· (intro w'; go_simp; try rfl)); (· (simp [go_sem]; try rfl)))
      refine scr_one rfl rfl (fun K hK => ?_)
      go_simp
      refine hK _ _ (fun _ => hw6.push _) ?_
      clear hK
      refine scr_one rfl rfl (fun K hK => ?_)
      have e4 := ksTd_4 d
      have hl1 : ((ts.take k).map (toTd (toA d))).length = k := by rw [List.length_map, List.length_take]; omega
      have hb3 : ((ts.take k).map (toTd (toA d))).length + 1 ≤ ts.length := by rw [hl1]; omega
      have hE6' := hE5.trans hw6
      refine wp_rowApp (c := #[.string (ts[k]).name, j1, j2, j3]) hrow5 hw6 (hXX.le hE6.size) hy6'.out _ _ _ rfl Try.underlying153 (by rw [e4]; exact Try.info118) (by rw [e4]; rfl) (by rw [e4]; decide) (by go_simp) (by go_simp) (Nat.le_trans (Nat.mul_le_mul_right 40 hb3) (by omega)) (by rw [maxLen_eq]; omega) ?_
      intro v' w7 hrow7 hg7 hne7 hd7
      refine hK _ _ (fun h => by simp at h) ?_
      clear hK
      (apply scr_pure'; (· rfl); (· rfl); (· (intro w'; go_simp; try rfl)); (· (simp [go_sem]; try rfl)))
      (apply scr_pure'; (· rfl); (· rfl); (· (intro w'; go_simp; try rfl)); (· (simp [go_sem]; try rfl)))
      have hBl5 := (Array.getElem?_eq_some_iff.1 hB5).1
      have h7 : w7.heap[B]? = _ := (hg7.block _ (by have := hw6.size; omega) (hrow5.notin (by simp))).trans ((hw6.below.block _ hBl5).trans hB5)
      refine scr_one rfl rfl (fun K hK => ?_)
      refine wp_store1 _ _ _ rfl Try.info153 (p := ⟨B, 0, none⟩) (v := v') rfl rfl hrow7.one (by rw [cells_of h7 0]; rfl) (frozen_of_row _ _ _ _ _ h7) ?_
      refine hK _ _ (fun h => by simp at h) ?_
      clear hK
      obtain ⟨h8, g8, hs8⟩ := set_facts (off := 0) v' h7
      generalize w7.setCell ⟨B, 0, none⟩ v' = w8 at h8 g8 hs8 ⊢
      refine scr_end ?_
      simp only [Exit.inBlock, Exit.then]
      go_wp2_with fail
      go_roundw
      case rel =>
        have hvn : ∀ g, v'.ownBlock = some g → w.heap.size ≤ g := fun g hg => by
          rcases hd7 g hg with h | h
          · exact hgv g h
          · have := hEr.size; have := hE6'.size; omega
        refine ⟨k + 1, v', by omega, by go_num, ((hEr.trans hE6').grown hg7 hgv).grown g8 (fun j hj => by cases hj; omega), by have := hE6'.size; have := hg7.size; have := g8.size; omega, h8, hvn, ?_⟩
        have e : (ts.take (k + 1)).map (toTd (toA d)) = (ts.take k).map (toTd (toA d)) ++ [toTd (toA d) (ts[k])] := by
          rw [List.take_succ_eq_append_getElem hlt, List.map_append, List.map_singleton]
        rw [e]
        exact hrow7.keep g8 (by simp)
      case measure => simp [intOf]; omega
    · have ek : k = ts.length := by omega
      have v0 : wr.cell? ⟨B, 0, none⟩ = some v := cells_of hB 0
      have ek' := Lib.hid ek
      clear ek
      go_wp2_with fail
      rw [List.take_of_length_le (by have := ek'.out; omega)] at hrow
      refine hR'.out wr B v hEr hB1 hB ?_
      exact hrow.isSl (by show ((ts.map _).length) * 80 ≤ _; rw [List.length_map]; exact k2)

end Go.Proofs.Ytmihdlbcjiaibaa
