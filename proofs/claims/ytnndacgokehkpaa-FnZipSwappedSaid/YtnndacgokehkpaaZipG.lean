/- value.MapZip in the keys' order, with a function that may write what it made before (a row that it appends to). -/
import Derived.Test.YtnndacgokehkpaaCmpZ
namespace Go.Proofs.Ytnndacgokehkpaa
open Go.RowKit
set_option linter.unusedSimpArgs false

/-- the blocks of X and all that are newer than w0 -/
def newer (w0 wr : World) (X : List Nat) : List Nat := X ++ (List.range wr.heap.size).filter (fun b => decide (w0.heap.size ≤ b))
theorem mem_newer {w0 wr : World} {X : List Nat} {b : Nat} : b ∈ newer w0 wr X ↔ b ∈ X ∨ w0.heap.size ≤ b ∧ b < wr.heap.size := by
  simp only [newer, List.mem_append, List.mem_filter, List.mem_range, decide_eq_true_eq, and_comm]
theorem newer_mv {w0 wr : World} {X : List Nat} (h : Mut w0 X wr) : Mv w0 X wr (newer w0 wr X) :=
  ⟨h.size, fun k hk hx => ⟨h.block k hk hx, fun hb => by rcases mem_newer.1 hb with h | h; exact hx h; omega⟩⟩
theorem newer_old {w0 wr : World} {X : List Nat} (hX : Old X w0) (h : w0.heap.size ≤ wr.heap.size) : Old (newer w0 wr X) wr := fun b hb => by
  rcases mem_newer.1 hb with h1 | h1
  · have := hX b h1; omega
  · exact h1.2

/-- what is asked of the function that is called along the sorted keys O of two maps; w is the world where the going over begins; the function never stops -/
structure ZipW (w : World) (X : List Nat) (P Q : EntsOfT T) (O : List ByteArray) (F : FuncId) (cap : Array Value) (Inv : Nat → World → Prop) : Prop where
  start : Inv 0 w
  step : ∀ j (hj : j < O.length) wr w1 va vb, Mut w X wr → Inv j wr → Ext wr w1 → OptVal w1 (newer w wr X) va (getEnt O[j] P) → OptVal w1 (newer w wr X) vb (getEnt O[j] Q) → ∀ K : Ending → World → Prop,
    (∀ w2 b, Mut w X w2 → (b = true → Inv (j + 1) w2) → (b = false → False) → K (.returned (.bool b)) w2) → Calls Try.prog F (#[.string O[j], va, vb] ++ cap) w1 K
  enter : ∀ (args : Array Value) (w : World), (callFunc F args).run Try.prog w = .ok (.enter F args) w

set_option maxRecDepth 100000 in
set_option maxHeartbeats 16000000 in
set_option pp.maxSteps 1000000 in
set_option pp.deepTerms true in
theorem lexZipW_c {w : World} {X : List Nat} {r1 r2 : Nat} {al : Value} {P Q : EntsOfT T} {F : FuncId} {cap : Array Value} {Inv : List ByteArray → World → Nat → World → Prop} (h1 : IsTm w X r1 P) (h2 : IsTm w X r2 Q) (hX : Old X w) (hal : IsAl al)
    (hv : ∀ O, Rising O → (∀ k, k ∈ O ↔ k ∈ P.map (·.1) ∨ k ∈ Q.map (·.1)) → ∀ w0, Ext w w0 → ZipW w0 X P Q O F cap (Inv O w0))
    (R : Ending → World → Prop) (hR : ∀ O w0 w', Rising O → (∀ k, k ∈ O ↔ k ∈ P.map (·.1) ∨ k ∈ Q.map (·.1)) → Ext w w0 → Mut w0 X w' → Inv O w0 O.length w' → R (.returned (.bool true)) w') :
    Calls Try.prog 110 #[al, .iface 183 (.map (some r1)), .iface 183 (.map (some r2)), .func (.func F) #[] cap] w R := by
  have hmf : ∀ (fn : Fn) (first cap : Array Value) (w : World), (Instr.makeFunc fn first cap).run Try.prog w = .ok (.func fn first cap) w := fun _ _ _ _ => rfl
  obtain ⟨ab, rfl⟩ := hal
  obtain ⟨us1, hu1, hl1⟩ := h1.len
  obtain ⟨us2, hu2, hl2⟩ := h2.len
  obtain ⟨n1, hn1⟩ : ∃ n, us1.length = n := ⟨_, rfl⟩
  obtain ⟨n2, hn2⟩ : ∃ n, us2.length = n := ⟨_, rfl⟩
  have hbd1 := h1.bound
  have hbd2 := h2.bound
  have e1 : P.length = n1 := by rw [← hl1, hn1]
  have e2 : Q.length = n2 := by rw [← hl2, hn2]
  have b1 : n1 * 88 ≤ 140737488351232 := by rw [← e1]; exact hbd1
  have b2 : n2 * 88 ≤ 140737488351232 := by rw [← e2]; exact hbd2
  have hv' := Lib.hid hv
  have h1' := Lib.hid h1
  have h2' := Lib.hid h2
  have hX' := Lib.hid hX
  have hR' := Lib.hid hR
  have hn1' := Lib.hid hn1
  have hn2' := Lib.hid hn2
  have hu1' := Lib.hid hu1
  have hu2' := Lib.hid hu2
  have e1' := Lib.hid e1
  have e2' := Lib.hid e2
  have b1' := Lib.hid b1
  have b2' := Lib.hid b2
  clear hv h1 h2 hX hR hn1 hn2 hu1 hu2 hl1 hl2 e1 e2 hbd1 hbd2 b1 b2
  by_cases hz : n1 = 0 ∧ n2 = 0
  · obtain ⟨rfl, rfl⟩ := hz
    have hP : P = [] := List.eq_nil_of_length_eq_zero e1'.out
    have hQ : Q = [] := List.eq_nil_of_length_eq_zero e2'.out
    have hP' := Lib.hid hP
    have hQ' := Lib.hid hQ
    clear hP hQ
    go_enter Try.func110, Try.ntmps110
    go_wp2_with fail
    refine abs1 (G := fun wr => Calls _ _ _ wr _) ?_
    intro w1 hE1 hb1 hs1
    have hs1' := Lib.hid hs1
    clear hs1
    refine mLength_c (hu1'.out.ext hE1) _ ?_
    rw [hn1'.out]
    dsimp only
    go_wp2_with fail
    refine mLength_c (hu2'.out.ext hE1) _ ?_
    rw [hn2'.out]
    dsimp only
    go_wp2_with fail
    have hm : ∀ k, k ∈ ([] : List ByteArray) ↔ k ∈ P.map (·.1) ∨ k ∈ Q.map (·.1) := by rw [hP'.out, hQ'.out]; simp
    have hz := hv'.out [] trivial hm w1 hE1
    exact hR'.out [] w1 w1 trivial hm hE1 ((Ext.refl _).mut X) hz.start
  · have hA1 : 16 * n1 ≤ 281474976710656 := by have := b1'.out; omega
    have hA2 : n1 ≤ maxLen := by have := b1'.out; rw [maxLen_eq]; omega
    have hB1 : 16 * n2 ≤ 281474976710656 := by have := b2'.out; omega
    have hB2 : n2 ≤ maxLen := by have := b2'.out; rw [maxLen_eq]; omega
    have hz1 : ((n1 : Int) == 0) = decide (n1 = 0) := by rw [Bool.eq_iff_iff]; simp
    have hz2 : ((n2 : Int) == 0) = decide (n2 = 0) := by rw [Bool.eq_iff_iff]; simp
    go_enter Try.func110, Try.ntmps110
    go_wp2_with fail
    refine abs1 (G := fun wr => Calls _ _ _ wr _) ?_
    intro w1 hE1 hb1 hs1
    have c5 := cells_of hb1 0
    simp only [List.getElem?_toArray, List.getElem?_cons_zero] at c5
    clear hb1
    have hs1' := Lib.hid hs1
    clear hs1
    refine mLength_c (hu1'.out.ext hE1) _ ?_
    rw [hn1'.out]
    dsimp only
    go_wp2_with fail
    refine mLength_c (hu2'.out.ext hE1) _ ?_
    rw [hn2'.out]
    dsimp only
    go_upto_if 31 with (fail)
    go_cut [11] from 32 (fun c wc => (∃ cN : Nat, c = .int .i64 cN ∧ 16 * cN ≤ 281474976710656 ∧ cN ≤ maxLen) ∧ w1 = wc)
    case first =>
      by_cases hlt : n1 < n2
      · go_wp2_with fail
        go_meet
        case rel => exact ⟨⟨n2, rfl, hB1, hB2⟩, rfl⟩
      · go_wp2_with fail
        go_meet
        case rel => exact ⟨⟨n1, rfl, hA1, hA2⟩, rfl⟩
    obtain ⟨⟨c, rfl, hc1, hc2⟩, ew⟩ := hcut
    subst ew
    go_upto_region 10 with (fail)
    go_cut [38] from 33 (fun b wc => b = .bool false ∧ w1 = wc)
    case first =>
      by_cases hn0 : n1 = 0
      · have hn3 : n2 ≠ 0 := fun h => hz ⟨hn0, h⟩
        go_wp2_with fail
        go_meet
        case rel => exact ⟨by simp [hn3], rfl⟩
      · go_wp2_with fail
        go_meet
        case rel => exact ⟨by simp, rfl⟩
    obtain ⟨rfl, ew⟩ := hcut
    subst ew
    go_wp2_with (first
      | (refine wpL_make rfl 23 _ _ rfl 9 Try.underlying23 Try.info9 c rfl rfl hc1 hc2 ?_; intro w2 hown hE2; replace c5 := hE2.keep c5)
      | (refine wpL_init1 rfl 23 _ _ rfl Try.info23 rfl (by simp) rfl hown.one (by decide) rfl ?_; refine abs1 (G := fun wr => wpList _ _ _ _ _ wr) ?_; intro w3 hE3 hb3 hs3; replace c5 := hE3.keep c5))
    have hl1 : w1.heap.size < w2.heap.size := hown.lt rfl
    have hl0 : w.heap.size < w1.heap.size := by have := hs1'.out; omega
    have hE13 : Ext w w3 := (hE1.trans hE2).trans hE3
    have hk0 : KRow w3 w3 [] w2.heap.size w1.heap.size [] := ⟨_, _, hb3, hown.ext hE3, by simp, by omega, .inl rfl⟩
    have hk0' := Lib.hid hk0
    have hs3' := Lib.hid hs3
    have hl1' := Lib.hid hl1
    have hl0' := Lib.hid hl0
    clear hk0 hb3 hown hs3 hl1 hl0 hA1 hA2 hB1 hB2 hz1 hz2 hs1' hc1 hc2
    refine iterate_c (X := [w2.heap.size, w1.heap.size]) (h1'.out.mv (((hE13.mv X).moreL (Z := [w2.heap.size, w1.heap.size]) (by have := hl0'.out; have := hl1'.out; simp; omega)).less (by simp))) (Old.cons (by have := hs3'.out; omega) (Old.cons (by have := hs3'.out; have := hl1'.out; omega) (Old.nil _))) ⟨ab, rfl⟩
      (keys_visit1 h1'.out.nodup h1'.out.bound hk0'.out (by have := hs3'.out; omega)) _ ?_ ?_
    rotate_left
    · intro w4 B hM4 hf
      exact hf.elim
    intro w4 B don hM4 hinv hall
    obtain ⟨ks1, hk1, hy1⟩ := hinv
    have hall1 := hy1.all hall (fun _ => .inl rfl)
    have hcn1 := hy1.count
    have hnd1 := hy1.nodup
    have hE14 : Ext w w4 := hE13.mutated hM4 (by have := hl0'.out; have := hl1'.out; simp; omega)
    replace c5 := ((hM4.mv (X := [w2.heap.size, w1.heap.size]) (fun _ h => h)).cell (by have := hl0'.out; have := hl1'.out; simp; omega) c5).1
    obtain ⟨g1, p1, p2, p3, hk2⟩ := hk1.rebase (w0' := w4) (B' := []) (Ext.refl w4) (Nat.le_refl _) (by simp)
    have p4 : w.heap.size < g1 := by
      have := hs3'.out; have := hl0'.out; have := hl1'.out
      rcases p3 with h | h <;> omega
    have hsz4 : w2.heap.size < w4.heap.size := by have := hM4.size; have := hs3'.out; omega
    have hall1' := Lib.hid hall1
    have hcn1' := Lib.hid hcn1
    have hnd1' := Lib.hid hnd1
    have hk2' := Lib.hid hk2
    have p1' := Lib.hid p1
    have p2' := Lib.hid p2
    have p4' := Lib.hid p4
    have hsz4' := Lib.hid hsz4
    clear hall1 hcn1 hnd1 hk2 p1 p2 p3 p4 hk1 hy1 hall hM4 hsz4 hE13 hE1 hE2 hE3
    dsimp only
    go_wp2_with fail
    refine iterate_c (X := [w2.heap.size, g1]) (h2'.out.mv (((hE14.mv X).moreL (Z := [w2.heap.size, g1]) (by have := hl0'.out; have := hl1'.out; have := p4'.out; simp; omega)).less (by simp))) (Old.cons hsz4'.out (Old.cons p1'.out (Old.nil _))) ⟨ab, rfl⟩
      (keys_visit2 (X := X) (P := P) h2'.out.nodup h2'.out.bound hk2'.out hsz4'.out (h1'.out.mv (by simpa using (hE14.mv X).moreL (Z := [w2.heap.size, g1]) (by have := hl0'.out; have := hl1'.out; have := p4'.out; simp; omega))) c5 (by have := hl0'.out; have := hl1'.out; omega) (by have := p4'.out; omega) hnd1'.out (by simpa using hall1'.out) (by simpa using hcn1'.out)) _ ?_ ?_
    rotate_left
    · intro w5 B2 hM5 hf
      exact hf.elim
    intro w5 B2 don2 hM5 hinv hall
    obtain ⟨ks2, hk3, hy2⟩ := hinv
    have hall2 := hy2.all hall (fun k => by
      cases hh : (getEnt k P).isSome
      · exact .inl rfl
      · refine .inr ((hall1'.out k).2 (.inr ?_))
        rw [getEnt_lookK] at hh
        exact Classical.byContradiction fun hne => by rw [lookK_none.2 hne] at hh; cases hh)
    have hE15 : Ext w w5 := hE14.mutated hM5 (by have := hl0'.out; have := hl1'.out; have := p4'.out; simp; omega)
    replace c5 := ((hM5.mv (X := [w2.heap.size, g1]) (fun _ h => h)).cell (by have := hl0'.out; have := hl1'.out; have := p4'.out; simp; omega) c5).1
    have hbd : ks2.length ≤ 3198579280710 := bdn h1'.out.bound h2'.out.bound (by have := hy2.count; have := hcn1'.out; simp at this; omega)
    have hO : ∀ k, k ∈ ks2 ↔ k ∈ P.map (·.1) ∨ k ∈ Q.map (·.1) := fun k => by rw [hall2 k, hall1'.out k]; simp
    obtain ⟨g, cap', d1, d2, d3, d4, d5⟩ := hk3.ex
    have hg5 : w.heap.size < g := by
      have := p4'.out; have := hsz4'.out; have := hl0'.out; have := hl1'.out
      rcases d5 with h | h <;> omega
    have hst : Sorting w w5 w.heap.size g ks2.length cap' w2.heap.size (.iface 183 (.map (some r1))) ks2 1 ks2 :=
      ⟨hE15, c5, d1, d2, hy2.nodup, fun _ => Iff.rfl, rfl, rising_one⟩
    obtain ⟨n, hn⟩ : ∃ n, ks2.length = n := ⟨_, rfl⟩
    rw [hn] at hst hbd
    have hbo5 : w.heap.size < w2.heap.size := by have := hl0'.out; have := hl1'.out; omega
    have c0 : w5.cell? ⟨w2.heap.size, 0, none⟩ = some (.slice (some ⟨g, 0, none⟩) n cap') := cells_of hst.hbo 0
    obtain ⟨bo, ebo⟩ : ∃ b, w2.heap.size = b := ⟨_, rfl⟩
    obtain ⟨b5, eb5⟩ : ∃ b, w.heap.size = b := ⟨_, rfl⟩
    rw [ebo] at hst hbo5 c0 d4
    rw [eb5] at hst hbo5 hg5 c5
    have hst' := Lib.hid hst
    have hO' := Lib.hid hO
    have hg5' := Lib.hid hg5
    have hbo5' := Lib.hid hbo5
    have d4' := Lib.hid d4
    have eb5' := Lib.hid eb5
    clear hst hO hg5 hbo5 d4 eb5 hn d1 d2 d3 d5 hk3 hy2 hall hall2 hM5 hall1' hcn1' hnd1' hk2' p1' p2' p4' hsz4' hE14 hE15 hl0' hl1' hs3' hk0'
    dsimp only
    rw [ebo, eb5'.out]
    clear ebo
    go_wp2_with fail
    go_loopw [13, 14] (fun iv _ wr => ∃ (q : Nat) (L : List ByteArray), iv = .int .i64 q ∧ 1 ≤ q ∧ q ≤ 3198579280711 ∧ Hid (Sorting w wr b5 g n cap' bo (.iface 183 (.map (some r1))) ks2 q L)) (fun iv _ _ => 3198579280712 - (intOf iv).toNat)
    case atStart => exact ⟨1, ks2, rfl, Nat.le_refl _, by decide, hst'⟩
    case round =>
      obtain ⟨q, L, rfl, hq1, hqb, hS1⟩ := hrel
      have c0 := cells_of hS1.out.hbo 0
      simp only [List.getElem?_toArray, List.getElem?_cons_zero] at c0
      by_cases hq : q < n
      · have hqi : (q : Int) < (n : Int) := by omega
        have hlen := hS1.out.len
        have hqL : q < L.length := by omega
        have hL : L = L.take q ++ L[q] :: L.drop (q + 1) := by rw [← List.drop_eq_getElem_cons hqL, List.take_append_drop]
        obtain ⟨ks, hks⟩ : ∃ ks, L.take q = ks := ⟨_, rfl⟩
        obtain ⟨e, he⟩ : ∃ e, L[q] = e := ⟨_, rfl⟩
        obtain ⟨rest, hrest⟩ : ∃ r, L.drop (q + 1) = r := ⟨_, rfl⟩
        rw [hks, he, hrest] at hL
        have hkl : ks.length = q := by rw [← hks]; simp; omega
        have hri := hS1.out.rising
        rw [hks] at hri
        have hri' := Lib.hid hri
        have hnd' := Lib.hid (hL ▸ hS1.out.nodup)
        have hS2 := hS1.out
        rw [hL] at hS2
        have hmem' := Lib.hid (fun k => (hS2.m k))
        have hS2' : Hid (Sorting w wr b5 g n cap' bo (.iface 183 (.map (some r1))) ks2 0 (mvd ks e rest ks.length)) := Lib.hid (by rw [mvd_top]; exact ⟨hS2.ext, hS2.hb5, hS2.hbo, hS2.own, hS2.nodup, hS2.m, hS2.len, trivial⟩)
        have hln : ks.length + 1 + rest.length = n := by have := hS2.len; simp at this; omega
        have hkl' := Lib.hid hkl
        have hln' := Lib.hid hln
        clear hL hks he hrest hqL hri hS2 hS1 hlen hkl hln
        go_wp2_with fail
        go_loopw [14] (fun iv wr2 => ∃ j : Nat, j ≤ ks.length ∧ iv = .int .i64 j ∧ Hid (Sorting w wr2 b5 g n cap' bo (.iface 183 (.map (some r1))) ks2 0 (mvd ks e rest j)) ∧ Hid (∀ x ∈ ks.drop j, slt e x = true)) (fun iv _ => (intOf iv).toNat)
        case atStart => exact ⟨ks.length, Nat.le_refl _, by rw [hkl'.out], hS2', Lib.hid (by simp)⟩
        case round =>
          clear c0 hS2'
          obtain ⟨j, hj, rfl, hS3, hgt⟩ := hrel
          have c0 := cells_of hS3.out.hbo 0
          simp only [List.getElem?_toArray, List.getElem?_cons_zero] at c0
          have hfin : (j = 0 ∨ ∃ m, ∃ h : m < ks.length, j = m + 1 ∧ slt e (ks[m]) = false) → ∀ w2, Ext wr w2 → Hid (Sorting w w2 b5 g n cap' bo (.iface 183 (.map (some r1))) ks2 (q + 1) (mvd ks e rest j)) := fun hlo w2 hE => by
            obtain ⟨m1, m2, m3⟩ := mvd_done hnd'.out hri'.out hgt.out hlo
            have h := hS3.out.ext2 hE
            rw [hkl'.out] at m2
            exact Lib.hid ⟨h.ext, h.hb5, h.hbo, h.own, m1, h.m, h.len, m2⟩
          have hfin' := Lib.hid hfin
          clear hfin
          rcases j with _ | m
          · have hd : decide ((0 : Int) < ((0 : Nat) : Int)) = false := by simp
            go_wp2_with fail
            go_quiet (fail)
            go_wp2_with fail
            have hF := hfin'.out (.inl (by simp)) _ ((Ext.refl wr).drewN nq)
            go_roundw
            case rel => exact ⟨q + 1, _, by simp, by omega, by omega, hF⟩
            case measure => simp [intOf]; omega
          · have hd : decide ((0 : Int) < ((m + 1 : Nat) : Int)) = true := by simp
            have hkm : m < ks.length := hj
            have q1 : wr.cell? ⟨g, m + 1, none⟩ = some (.string e) := hS3.out.at (mvd_at hj)
            have q2 : wr.cell? ⟨g, m, none⟩ = some (.string (ks[m])) := hS3.out.at (mvd_below hkm)
            have hcap : m + 1 < n := by have := hln'.out; omega
            go_wp2_with fail
            go_quiet (fail)
            go_wp2_with fail
            · have hE6 : Ext wr ((wr.drewN nq).drew) := ((Ext.refl wr).drewN nq).drew
              refine wp_region_script [0, 1, 2, 3, 4, 5, 6, 7, 8, 9, 10, 11, 12, 14, 16] [13, 15] (fun w' => w'.cell? ⟨bo, 0, none⟩ = some (.slice (some ⟨g, 0, none⟩) n cap') ∧ w'.cell? ⟨g, m, none⟩ = some (.string (ks[m]))) [(.read, 0), (.pure, 1), (.read, 2), (.pure, 3), (.pure, 4), (.read, 5), (.pure, 6), (.pure, 7), (.pure, 8), (.read, 9), (.read, 10), (.pure, 11), (.pure, 12), (.one, 13), (.pure, 14), (.one, 15), (.pure, 16), (.one, 17)] (by kernel_rfl) (by kernel_rfl) ?_
              have hC : (wr.drewN nq).drew.cell? ⟨bo, 0, none⟩ = some (.slice (some ⟨g, 0, none⟩) n cap') ∧ (wr.drewN nq).drew.cell? ⟨g, m, none⟩ = some (.string (ks[m])) := ⟨hE6.keep c0, hE6.keep q2⟩
              have hwm : IntKind.i64.wrap (m : Int) = m := IntWalk.i64_in _ (by omega)
              have hm0 : (0 : Int) ≤ (m : Int) := by omega
              have hmd : (m : Int) < (n : Int) := by omega
              have hm1 : (0 : Int) ≤ (m : Int) + 1 := by omega
              have hm2 : (m : Int) + 1 < (n : Int) := by omega
              have q1d := hE6.keep q1
              generalize (wr.drewN nq).drew = wd at hE6 hC q1d ⊢
              (apply scr_read'; (· rfl); (· rfl); (· exact hC); (· (intro w' hw'; obtain ⟨y0, y2⟩ := hw'; go_simp; try rfl)); (· (simp [go_sem]; try rfl)))
              (apply scr_pure'; (· rfl); (· rfl); (· (intro w'; go_simp; try rfl)); (· (simp [go_sem]; try rfl)))
              (apply scr_read'; (· rfl); (· rfl); (· exact hC); (· (intro w' hw'; obtain ⟨y0, y2⟩ := hw'; go_simp; try rfl)); (· (simp [go_sem]; try rfl)))
              (apply scr_pure'; (· rfl); (· rfl); (· (intro w'; go_simp; try rfl)); (· (simp [go_sem]; try rfl)))
              (apply scr_pure'; (· rfl); (· rfl); (· (intro w'; go_simp; try rfl)); (· (simp [go_sem]; try rfl)))
              (apply scr_read'; (· rfl); (· rfl); (· exact hC); (· (intro w' hw'; obtain ⟨y0, y2⟩ := hw'; go_simp; try rfl)); (· (simp [go_sem]; try rfl)))
              (apply scr_pure'; (· rfl); (· rfl); (· (intro w'; go_simp; try rfl)); (· (simp [go_sem]; try rfl)))
              (apply scr_pure'; (· rfl); (· rfl); (· (intro w'; go_simp; try rfl)); (· (simp [go_sem]; try rfl)))
              (apply scr_pure'; (· rfl); (· rfl); (· (intro w'; go_simp; try rfl)); (· (simp [go_sem]; try rfl)))
              (apply scr_read'; (· rfl); (· rfl); (· exact hC); (· (intro w' hw'; obtain ⟨y0, y2⟩ := hw'; go_simp; try rfl)); (· (simp [go_sem]; try rfl)))
              (apply scr_read'; (· rfl); (· rfl); (· exact hC); (· (intro w' hw'; obtain ⟨y0, y2⟩ := hw'; go_simp; try rfl)); (· (simp [go_sem]; try rfl)))
              (apply scr_pure'; (· rfl); (· rfl); (· (intro w'; go_simp; try rfl)); (· (simp [go_sem]; try rfl)))
              (apply scr_pure'; (· rfl); (· rfl); (· (intro w'; go_simp; try rfl)); (· (simp [go_sem]; try rfl)))
              refine scr_one rfl rfl (fun K hK => ?_)
              go_simp
              refine hK _ _ (fun _ => hC) ?_
              clear hK
              (apply scr_pure'; (· rfl); (· rfl); (· (intro w'; go_simp; try rfl)); (· (simp [go_sem]; try rfl)))
              have hS6 := hS3.out.ext2 hE6
              refine scr_one rfl rfl (fun K hK => ?_)
              refine wp_store1 _ _ _ rfl Try.info9 (p := ⟨g, m + 1, none⟩) (v := .string (ks[m])) rfl rfl rfl (by rw [hE6.keep q1]; rfl) (hS6.own.frozenAt _) ?_
              obtain ⟨ho7, hg7⟩ := hS6.own.stored (m + 1) (.string (ks[m]))
              have hc8 : (World.setCell wd ⟨g, m + 1, none⟩ (.string (ks[m]))).cell? ⟨g, m, none⟩ = some (.string (ks[m])) := by
                have q2' := hE6.keep q2
                exact (World.cell?_setCell_other _ ⟨g, m + 1, none⟩ ⟨g, m, none⟩ _ (by simp)).trans q2'
              refine hK _ _ (fun _ => ⟨grown_keep hg7 hC.1 (fun h => d4'.out h.symm), hc8⟩) ?_
              clear hK
              (apply scr_pure'; (· rfl); (· rfl); (· (intro w'; go_simp; try rfl)); (· (simp [go_sem]; try rfl)))
              refine scr_one rfl rfl (fun K hK => ?_)
              refine wp_store1 _ _ _ rfl Try.info9 (p := ⟨g, m, none⟩) (v := .string e) rfl rfl rfl (by rw [hc8]; rfl) (ho7.frozenAt _) ?_
              obtain ⟨ho8, hg8⟩ := ho7.stored m (.string e)
              refine hK _ _ (fun h => by simp at h) ?_
              clear hK
              simp only [scr, Exit.inBlock, Exit.then]
              generalize (World.setCell wd ⟨g, m + 1, none⟩ (.string (ks[m]))).setCell ⟨g, m, none⟩ (.string e) = w8 at ho8 hg8 ⊢
              go_wp2_with fail
              go_roundw
              case rel =>
                rw [mvd_swap ks e rest m hkm] at ho8
                have hp1 := mvd_perm ks e rest (m + 1)
                have hp2 := mvd_perm ks e rest m
                refine ⟨m, by omega, rfl, Lib.hid (hS6.store (grownBy_trans2 hg7 hg8) (Nat.le_of_lt (by have := hg5'.out; have := eb5'.out; omega)) (by have := hg5'.out; omega) (fun h => d4'.out h.symm) ho8 (fun k => (hp2.trans hp1.symm).mem_iff) ((hp2.trans hp1.symm).nodup_iff.2 hS6.nodup) (hp2.trans hp1.symm).length_eq trivial), Lib.hid fun x hx => ?_⟩
                rw [List.drop_eq_getElem_cons hkm] at hx
                rcases List.mem_cons.1 hx with rfl | hx
                · assumption
                · exact hgt.out x hx
              case measure => simp [intOf]
            all_goals (
              have hs : slt e (ks[m]) = false := by assumption
              have hF := hfin'.out (.inr ⟨m, hkm, rfl, hs⟩) _ ((Ext.refl wr).drewN nq)
              go_roundw
              case rel => exact ⟨q + 1, _, by simp, by omega, by omega, hF⟩
              case measure => simp [intOf]; omega)
      · have hS2 := hS1.out
        have hri := hS2.rising
        have hLn := hS2.len
        rw [List.take_of_length_le (by omega)] at hri
        have hmO : ∀ k, k ∈ L ↔ k ∈ P.map (·.1) ∨ k ∈ Q.map (·.1) := fun k => (hS2.m k).trans (hO'.out k)
        have hz := hv'.out L hri hmO wr hS2.ext
        have hI0 := Lib.hid hz.start
        have hM0 : Mut wr X wr := (Ext.refl _).mut X
        have ho0 := hS2.own
        have c5 := hS2.hb5
        have ho0' := Lib.hid ho0
        have c50' := Lib.hid c5
        have hE0' := Lib.hid hS2.ext
        have h1' := Lib.hid (h1'.out.mv (hS2.ext.mv X))
        have h2' := Lib.hid (h2'.out.mv (hS2.ext.mv X))
        have hgX : g ∉ X := fun h => by have := hX'.out g h; have := hg5'.out; have := eb5'.out; omega
        have hbX : b5 ∉ X := fun h => by have := hX'.out b5 h; have := eb5'.out; omega
        have hX' := Lib.hid (hX'.out.le hS2.ext.size)
        have hz' := Lib.hid hz
        have hri' := Lib.hid hri
        have hmO' := Lib.hid hmO
        have hLn' := Lib.hid hLn
        have hgX' := Lib.hid hgX
        have hbX' := Lib.hid hbX
        have hqi : ¬ (q : Int) < (n : Int) := by omega
        clear hS2 hS1 hz hri hmO hLn hgX hbX
        go_wp2_with fail
        go_loopw [94] (fun iv wr2 => ∃ k : Nat, k ≤ n ∧ iv = .int .i64 k ∧ Mut wr X wr2 ∧ wr2.cell? ⟨b5, 0, none⟩ = some (.iface 183 (.map (some r1))) ∧ Own wr2 9 1 (.slice (some ⟨g, 0, none⟩) n cap') n (L.map Value.string) ∧ Hid (Inv L wr k wr2)) (fun iv _ => n - (intOf iv).toNat)
        case atStart => exact ⟨0, Nat.zero_le _, rfl, hM0, c5, ho0, hI0⟩
        case round =>
          clear c5 hM0 ho0 hI0 c0 hqi
          obtain ⟨k, hk, rfl, hM, c5, ho, hI⟩ := hrel
          have hM' := Lib.hid hM
          have ho' := Lib.hid ho
          clear hM ho
          by_cases hkn : k < n
          · have hki : (k : Int) < (n : Int) := by omega
            have hkL : k < L.length := by rw [hLn'.out]; exact hkn
            have q0 : wr.cell? ⟨g, k, none⟩ = some (.string (L[k])) := by
              have := ho'.out.cell k (by simpa using hkL)
              rw [Nat.zero_add] at this
              rw [this]; simp
            go_wp2_with fail
            refine getUsing_c (h1'.out.mv (newer_mv hM'.out)) (newer_old hX'.out hM'.out.size) ⟨ab, rfl⟩ _ ?_
            intro wa va hEa hva
            have hva' := Lib.hid hva
            replace c5 := hEa.keep c5
            clear hva
            dsimp only
            go_wp2_with fail
            refine getUsing_c ((h2'.out.mv (newer_mv hM'.out)).mv (hEa.mv _)) ((newer_old hX'.out hM'.out.size).le hEa.size) ⟨ab, rfl⟩ _ ?_
            intro wb vb hEb hvb
            have hEab := Lib.hid (hEa.trans hEb)
            have hvb' := Lib.hid hvb
            replace hva' := Lib.hid (hva'.out.mv (hEb.mv _))
            replace c5 := hEb.keep c5
            clear hvb q0
            dsimp only
            go_wp2_with fail
            rw [hz'.out.enter, Oper.upon_enter]
            refine hz'.out.step k hkL _ wb va vb hM'.out hI.out hEab.out hva'.out hvb'.out _ ?_
            intro wc b hMc hin hsto
            have hMw := Lib.hid hMc
            have hoc := Lib.hid (Own.keep ho0'.out (w' := wc) (fun j hj => by cases hj; exact hMc.block g (ho0'.out.lt rfl) hgX'.out))
            replace c5 := ((hMc.mv (X := X) (fun _ h => h)).cell hbX'.out c50'.out).1
            have hin' := Lib.hid hin
            have hsto' := Lib.hid hsto
            have hsh1 := hva'.out.shape
            have hsh2 := hvb'.out.shape
            clear hin hsto hMc hEab hva' hvb'
            dsimp only
            cases b
            · have hs := Lib.hid (hsto'.out rfl)
              rcases hsh1 with rfl | ⟨pa, rfl⟩ <;> rcases hsh2 with rfl | ⟨pb, rfl⟩ <;> (
                go_wp2_with fail
                try (refine free_c _ ?_; dsimp only; go_wp2_with fail)
                try (refine free_c _ ?_; dsimp only; go_wp2_with fail)
                exact hs.out.elim)
            · have hi := Lib.hid (hin'.out rfl)
              rcases hsh1 with rfl | ⟨pa, rfl⟩ <;> rcases hsh2 with rfl | ⟨pb, rfl⟩ <;> (
                go_wp2_with fail
                try (refine free_c _ ?_; dsimp only; go_wp2_with fail)
                try (refine free_c _ ?_; dsimp only; go_wp2_with fail)
                go_roundw
                case rel => exact ⟨k + 1, hkn, by simp, hMw.out, c5, hoc.out, hi⟩
                case measure => simp [intOf]; omega)
          · have hki : ¬ (k : Int) < (n : Int) := by omega
            have hkn' : k = L.length := by rw [hLn'.out]; omega
            have hkn2 := Lib.hid hkn'
            clear hkn'
            go_wp2_with fail
            exact hR'.out L _ wr hri'.out hmO'.out hE0'.out hM'.out (hkn2.out ▸ hI.out)
end Go.Proofs.Ytnndacgokehkpaa

namespace Go.Proofs.Ytnndacgokehkpaa
open Go.RowKit
set_option linter.unusedSimpArgs false

set_option maxRecDepth 100000 in
theorem zipUsingW_c {w : World} {X : List Nat} {r1 r2 : Nat} {al : Value} {P Q : EntsOfT T} {F : FuncId} {cap : Array Value} {Inv : List ByteArray → World → Nat → World → Prop} (h1 : IsTm w X r1 P) (h2 : IsTm w X r2 Q) (hX : Old X w) (hal : IsAl al)
    (hv : ∀ O, Rising O → (∀ k, k ∈ O ↔ k ∈ P.map (·.1) ∨ k ∈ Q.map (·.1)) → ∀ w0, Ext w w0 → ZipW w0 X P Q O F cap (Inv O w0))
    (R : Ending → World → Prop) (hR : ∀ O w0 w', Rising O → (∀ k, k ∈ O ↔ k ∈ P.map (·.1) ∨ k ∈ Q.map (·.1)) → Ext w w0 → Mut w0 X w' → Inv O w0 O.length w' → R (.returned (.bool true)) w') :
    Calls Try.prog 107 #[.map (some r1), al, .iface 183 (.map (some r2)), .int .i64 1, .func (.func F) #[] cap] w R := by
  obtain ⟨ab, rfl⟩ := hal
  have h1' := Lib.hid h1
  have h2' := Lib.hid h2
  have hX' := Lib.hid hX
  have hv' := Lib.hid hv
  have hR' := Lib.hid hR
  clear h1 h2 hX hv hR 
  go_enter Try.func107, Try.ntmps107
  go_wp2_with fail
  go_enter Try.func108, Try.ntmps108
  go_wp2_with fail
  refine lexZipW_c h1'.out h2'.out hX'.out ⟨ab, rfl⟩ hv'.out _ ?_
  · intro O w0 w' a1 a2 a0 a3 a4
    have hh := Lib.hid (hR'.out O w0 w' a1 a2 a0 a3 a4)
    clear a1 a2 a0 a3 a4
    dsimp only
    go_wp2_with fail
    exact hh.out

set_option maxRecDepth 100000 in
theorem mapZipW_c {w : World} {X : List Nat} {r1 r2 : Nat} {al : Value} {P Q : EntsOfT T} {F : FuncId} {cap : Array Value} {Inv : List ByteArray → World → Nat → World → Prop} (h1 : IsTm w X r1 P) (h2 : IsTm w X r2 Q) (hX : Old X w) (hal : IsAl al)
    (hv : ∀ O, Rising O → (∀ k, k ∈ O ↔ k ∈ P.map (·.1) ∨ k ∈ Q.map (·.1)) → ∀ w0, Ext w w0 → ZipW w0 X P Q O F cap (Inv O w0))
    (R : Ending → World → Prop) (hR : ∀ O w0 w', Rising O → (∀ k, k ∈ O ↔ k ∈ P.map (·.1) ∨ k ∈ Q.map (·.1)) → Ext w w0 → Mut w0 X w' → Inv O w0 O.length w' → R (.returned (.bool true)) w') :
    Calls Try.prog 35 #[al, .iface 183 (.map (some r1)), .iface 183 (.map (some r2)), .int .i64 1, .func (.func F) #[] cap] w R := by
  obtain ⟨ab, rfl⟩ := hal
  have h1' := Lib.hid h1
  have h2' := Lib.hid h2
  have hX' := Lib.hid hX
  have hv' := Lib.hid hv
  have hR' := Lib.hid hR
  clear h1 h2 hX hv hR 
  go_enter Try.func35, Try.ntmps35
  go_wp2_with fail
  refine abs1 (G := fun wr => Calls _ _ _ wr _) ?_
  intro w1 hE1 hb1 hs1
  clear hb1 hs1
  refine zipUsingW_c (h1'.out.mv (hE1.mv X)) (h2'.out.mv (hE1.mv X)) (hX'.out.le hE1.size) ⟨ab, rfl⟩ (fun O a b w0 hE0 => hv'.out O a b w0 (hE1.trans hE0)) _ ?_
  · intro O w0 w' a1 a2 a0 a3 a4
    have hh := Lib.hid (hR'.out O w0 w' a1 a2 (hE1.trans a0) a3 a4)
    clear a1 a2 a0 a3 a4
    dsimp only
    go_wp2_with fail
    exact hh.out

end Go.Proofs.Ytnndacgokehkpaa
