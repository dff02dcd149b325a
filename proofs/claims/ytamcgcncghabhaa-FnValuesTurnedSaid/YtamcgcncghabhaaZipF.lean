/- The small functions that a walk along two maps calls: Has, GetUsing, Free, and the two that put keys into a row that they share with the walk. -/
import Derived.Test.YtamcgcncghabhaaZipL
import Derived.Test.YtamcgcncghabhaaCmpM
namespace Go.Proofs.Ytamcgcncghabhaa
open Go.RowKit
set_option linter.unusedSimpArgs false

theorem free_c {w : World} {p x : Value} (R : Ending → World → Prop) (hR : R (.returned (.tuple #[])) w) : Calls Try.prog 117 #[p, x] w R := by
  have hR' := Lib.hid hR
  clear hR
  go_enter Try.func117, Try.ntmps117
  go_wp2_with fail
  exact bodyPost_end (by simp [results, Try.results117, go_sem]) rfl hR'.out

set_option maxRecDepth 100000 in
theorem mHas_c {w : World} {X : List Nat} {r : Nat} {ts : EntsOfT T} {k : ByteArray} (h : IsTm w X r ts) (R : Ending → World → Prop) (hR : R (.returned (.bool (getEnt k ts).isSome)) w) :
    Calls Try.prog 149 #[.map (some r), .string k] w R := by
  obtain ⟨⟨us, hm1, hm2⟩, -, -, -⟩ := id h
  have hlw := run_lookup_ents_ok (P := Try.prog) (w := w) Try.underlying178 Try.underlying9 hm1 k .nilIface (zero_any w)
  rcases hm2.find k with ⟨g1, g2⟩ | ⟨x, u, g1, g2, g3⟩
  all_goals
    rw [g1] at hlw
    rw [g2] at hR
    have hR' := Lib.hid hR
    clear hR g1 g2 hm2 h hm1
    go_enter Try.func149, Try.ntmps149
    go_wp2_with fail
    exact hR'.out

set_option maxRecDepth 100000 in
theorem getUsing_c {w : World} {X : List Nat} {r : Nat} {ts : EntsOfT T} {k : ByteArray} {al : Value} (h : IsTm w X r ts) (hX : Old X w) (hal : IsAl al) (R : Ending → World → Prop)
    (hR : ∀ w' v, Ext w w' → OptVal w' X v (getEnt k ts) → R (.returned (.tuple #[v, .bool (getEnt k ts).isSome])) w') :
    Calls Try.prog 148 #[.map (some r), al, .string k] w R := by
  obtain ⟨ab, rfl⟩ := hal
  obtain ⟨⟨us, hm1, hm2⟩, -, -, -⟩ := id h
  have hlw := run_lookup_ents_ok (P := Try.prog) (w := w) Try.underlying178 Try.underlying9 hm1 k .nilIface (zero_any w)
  have hX' := Lib.hid hX
  rcases hm2.find k with ⟨g1, g2⟩ | ⟨x, u, g1, g2, g3⟩
  · rw [g1] at hlw
    rw [g2] at hR
    have hR' := Lib.hid hR
    clear hR g1 g2 hm2 h hm1 hX
    go_enter Try.func148, Try.ntmps148
    go_wp2_with fail
    exact hR'.out w _ (Ext.refl _) rfl
  · rw [g1] at hlw
    rw [g2] at hR
    have hone := g3.one
    have hR' := Lib.hid hR
    have g3' := Lib.hid g3
    clear hR g1 g2 hm2 h hm1 hX g3
    go_enter Try.func148, Try.ntmps148
    go_wp2_with fail
    refine allocValue_c _ ?_
    intro w1 hE1 hb1
    dsimp only
    go_wp2_with fail
    refine reuse_c hb1 hone _ ?_
    intro w2 hb2 hg2
    have hE2 : Ext w w2 := hE1.grown hg2 (fun k hk => by cases hk; exact Nat.le_refl _)
    dsimp only
    go_wp2_with fail
    exact hR'.out w2 _ hE2 ⟨_, _, rfl, hb2, fun hx => Nat.lt_irrefl _ (hX'.out _ hx), g3'.out.mv (hE2.mv X)⟩

/-- a row of keys in the variable at bo; its elements lie in block g0 or in a block that is newer than w0 -/
structure KRow (w0 w : World) (B : List Nat) (bo g0 : Nat) (ks : List ByteArray) : Prop where
  ex : ∃ g cap, w.heap[bo]? = some (.cells #[.slice (some ⟨g, 0, none⟩) ks.length cap] 23 (0, 0)) ∧ Own w 9 1 (.slice (some ⟨g, 0, none⟩) ks.length cap) ks.length (ks.map Value.string) ∧ g ∉ B ∧ g ≠ bo ∧ (g = g0 ∨ w0.heap.size ≤ g)

theorem KRow.keep {w0 w w' : World} {B : List Nat} {bo g0 : Nat} {ks : List ByteArray} (h : KRow w0 w B bo g0 ks) (hm : Mut w B w') (hbo : bo ∉ B) : KRow w0 w' B bo g0 ks := by
  obtain ⟨g, cap, h1, h2, h3, h4, h5⟩ := h.ex
  exact ⟨g, cap, (hm.block _ (Array.getElem?_eq_some_iff.1 h1).1 hbo).trans h1, h2.keep (fun g' hg => by cases hg; exact hm.block g (h2.lt rfl) h3), h3, h4, h5⟩
theorem KRow.rebase {w0 w0' w w' : World} {B B' : List Nat} {bo g0 : Nat} {ks : List ByteArray} (h : KRow w0 w B bo g0 ks) (hE : Ext w w') (hs : w.heap.size ≤ w0'.heap.size) (hB : ∀ b ∈ B', w0'.heap.size ≤ b) : ∃ g, g < w0'.heap.size ∧ g ≠ bo ∧ (g = g0 ∨ w0.heap.size ≤ g) ∧ KRow w0' w' B' bo g ks := by
  obtain ⟨g, cap, h1, h2, h3, h4, h5⟩ := h.ex
  have hlt : g < _ := h2.lt rfl
  refine ⟨g, by omega, h4, h5, g, cap, (hE.below.block _ (Array.getElem?_eq_some_iff.1 h1).1).trans h1, h2.ext hE, fun hb => ?_, h4, .inl rfl⟩
  have := hB g hb
  omega

set_option maxRecDepth 100000 in
set_option maxHeartbeats 1000000 in
theorem putFn1_c {w0 w : World} {B : List Nat} {bo g0 : Nat} {ks : List ByteArray} {k : ByteArray} {val : Value} (hk : KRow w0 w B bo g0 ks) (hB : Old B w) (hbB : bo ∉ B) (hM : Mut w0 [bo, g0] w) (hbytes : (ks.length + 1) * 16 ≤ 140737488355328)
    (K : Ending → World → Prop) (hK : ∀ w2, Mut w0 [bo, g0] w2 → w.heap.size ≤ w2.heap.size → (∀ b ∈ B, w2.heap[b]? = w.heap[b]?) → KRow w0 w2 B bo g0 (ks ++ [k]) → K (.returned (.bool true)) w2) :
    Calls Try.prog 162 #[.string k, val, .pointer (some ⟨bo, 0, none⟩)] w K := by
  obtain ⟨g, cap, h1, h2, h3, h4, h5⟩ := hk.ex
  have c0 : w.cell? ⟨bo, 0, none⟩ = some (.slice (some ⟨g, 0, none⟩) ks.length cap) := cells_of h1 0
  have hone1 : ∀ u ∈ (#[Value.string k] : Array Value).toList, u.oneCell' = true := by simp [Value.oneCell']
  have hb4 : ks.length + 1 ≤ maxLen := by rw [maxLen_eq]; omega
  have hK' := Lib.hid hK
  have h1' := Lib.hid h1
  have h5' := Lib.hid h5
  have hB' := Lib.hid hB
  have h3' := Lib.hid h3
  have hM' := Lib.hid hM
  clear hK h1 hk h5 hB h3 hM
  go_enter Try.func162, Try.ntmps162
  go_wp2_with (first
    | refine wpL_lit1 (v := .string k) rfl 23 _ rfl 9 Try.underlying23 Try.info9 rfl rfl rfl ?_
    | (at_builtin; refine wpL_app1 rfl _ _ 23 rfl 9 Try.underlying23 Try.info9 rfl (by decide) h2 rfl rfl rfl hone1 hbytes hb4 ?_; intro v' w4 ho4 hg4 hne4 hd4; obtain ⟨g', cap', rfl, hkc'⟩ := ho4.shape hne4; have hbo4 := Lib.hid ((hg4.block bo (Array.getElem?_eq_some_iff.1 h1'.out).1 (fun e => h4 (by cases e; rfl))).trans h1'.out))
    | (refine wpL_storeC rfl 23 _ _ rfl Try.info23 (v := .slice (some ⟨g', 0, none⟩) (ks.length + 1) cap') (new := #[.slice (some ⟨g', 0, none⟩) (ks.length + 1) cap']) rfl rfl rfl hbo4.out (by simp) rfl ?_; intro w5 hb5 hg5))
  have hsz : g < _ := h2.lt rfl
  have hne : g' ≠ bo := by
    rcases hd4 g' rfl with h | h
    · cases h; exact h4
    · have := (Array.getElem?_eq_some_iff.1 h1'.out).1; omega
  have hgB : g' ∉ B := by
    rcases hd4 g' rfl with h | h
    · cases h; exact h3'.out
    · intro hb; have := hB'.out _ hb; omega
  refine hK'.out w5 ⟨?_, ?_, ?_, ?_, ?_⟩ ?_ ?_ ⟨g', cap', ?_, ?_, hgB, hne, ?_⟩
  · exact hg5.os.trans (hg4.os.trans hM'.out.os)
  · exact hg5.tape.trans (hg4.tape.trans hM'.out.tape)
  · exact hg5.output.trans (hg4.output.trans hM'.out.output)
  · exact Nat.le_trans hM'.out.size (Nat.le_trans hg4.size hg5.size)
  · intro i hi hx
    simp only [List.mem_cons, List.not_mem_nil, or_false, not_or] at hx
    have hi1 := Nat.lt_of_lt_of_le hi hM'.out.size
    rw [hg5.block i (Nat.lt_of_lt_of_le hi1 hg4.size) (fun e => hx.1 (by cases e; rfl)), hg4.block i hi1 (fun e => by have e2 : i = g := Option.some.inj e; rcases h5'.out with h | h; exact hx.2 (e2.trans h); omega)]
    exact hM'.out.block i hi (by simp [hx])
  · exact Nat.le_trans hg4.size hg5.size
  · intro b hb
    have hlt := hB'.out b hb
    rw [hg5.block b (Nat.lt_of_lt_of_le hlt hg4.size) (fun e => hbB (by cases e; exact hb)), hg4.block b hlt (fun e => h3'.out (by cases e; exact hb))]
  · simpa using hb5
  · have := Own.keep ho4 (w' := w5) (fun j hj => hg5.block j (ho4.lt hj) (fun e => by cases e; cases hj; exact hne rfl))
    simpa using this
  · rcases hd4 g' rfl with h | h
    · cases h; exact h5'.out
    · exact .inr (Nat.le_trans hM'.out.size h)

set_option maxRecDepth 100000 in
set_option maxHeartbeats 1000000 in
theorem putFn2_c {w0 w : World} {B X : List Nat} {bo g0 b5 r1 : Nat} {P : EntsOfT T} {ks : List ByteArray} {k : ByteArray} {val : Value} (hk : KRow w0 w B bo g0 ks) (hB : Old B w) (hbB : bo ∉ B) (hM : Mut w0 [bo, g0] w) (hbytes : (ks.length + 1) * 16 ≤ 140737488355328)
    (hP : IsTm w X r1 P) (c5 : w.cell? ⟨b5, 0, none⟩ = some (.iface 178 (.map (some r1))))
    (K : Ending → World → Prop) (hK : ∀ w2 ks2, Mut w0 [bo, g0] w2 → w.heap.size ≤ w2.heap.size → (∀ b ∈ B, w2.heap[b]? = w.heap[b]?) → KRow w0 w2 B bo g0 ks2 → ((getEnt k P).isSome = true ∧ ks2 = ks ∨ (getEnt k P).isSome = false ∧ ks2 = ks ++ [k]) → K (.returned (.bool true)) w2) :
    Calls Try.prog 163 #[.string k, val, .pointer (some ⟨b5, 0, none⟩), .pointer (some ⟨bo, 0, none⟩)] w K := by
  obtain ⟨g, cap, h1, h2, h3, h4, h5⟩ := hk.ex
  have c0 : w.cell? ⟨bo, 0, none⟩ = some (.slice (some ⟨g, 0, none⟩) ks.length cap) := cells_of h1 0
  have hone1 : ∀ u ∈ (#[Value.string k] : Array Value).toList, u.oneCell' = true := by simp [Value.oneCell']
  have hb4 : ks.length + 1 ≤ maxLen := by rw [maxLen_eq]; omega
  have hK' := Lib.hid hK
  have h1' := Lib.hid h1
  have h5' := Lib.hid h5
  have hB' := Lib.hid hB
  have h3' := Lib.hid h3
  have hM' := Lib.hid hM
  have hk' := Lib.hid hk
  have hP' := Lib.hid hP
  clear hK h1 hk h5 hB h3 hM hP
  cases hs : (getEnt k P).isSome
  · have hs' := Lib.hid hs
    clear hs
    go_enter Try.func163, Try.ntmps163
    go_wp2_with fail
    refine mHas_c hP'.out _ ?_
    rw [hs'.out]
    dsimp only
    go_wp2_with (first
    | refine wpL_lit1 (v := .string k) rfl 23 _ rfl 9 Try.underlying23 Try.info9 rfl rfl rfl ?_
    | (at_builtin; refine wpL_app1 rfl _ _ 23 rfl 9 Try.underlying23 Try.info9 rfl (by decide) h2 rfl rfl rfl hone1 hbytes hb4 ?_; intro v' w4 ho4 hg4 hne4 hd4; obtain ⟨g', cap', rfl, hkc'⟩ := ho4.shape hne4; have hbo4 := Lib.hid ((hg4.block bo (Array.getElem?_eq_some_iff.1 h1'.out).1 (fun e => h4 (by cases e; rfl))).trans h1'.out))
    | (refine wpL_storeC rfl 23 _ _ rfl Try.info23 (v := .slice (some ⟨g', 0, none⟩) (ks.length + 1) cap') (new := #[.slice (some ⟨g', 0, none⟩) (ks.length + 1) cap']) rfl rfl rfl hbo4.out (by simp) rfl ?_; intro w5 hb5 hg5))
    have hsz : g < _ := h2.lt rfl
    have hne : g' ≠ bo := by
      rcases hd4 g' rfl with h | h
      · cases h; exact h4
      · have := (Array.getElem?_eq_some_iff.1 h1'.out).1; omega
    have hgB : g' ∉ B := by
      rcases hd4 g' rfl with h | h
      · cases h; exact h3'.out
      · intro hb; have := hB'.out _ hb; omega
    refine hK'.out w5 (ks ++ [k]) ⟨?_, ?_, ?_, ?_, ?_⟩ ?_ ?_ ⟨g', cap', ?_, ?_, hgB, hne, ?_⟩ (.inr ⟨hs'.out, rfl⟩)
    · exact hg5.os.trans (hg4.os.trans hM'.out.os)
    · exact hg5.tape.trans (hg4.tape.trans hM'.out.tape)
    · exact hg5.output.trans (hg4.output.trans hM'.out.output)
    · exact Nat.le_trans hM'.out.size (Nat.le_trans hg4.size hg5.size)
    · intro i hi hx
      simp only [List.mem_cons, List.not_mem_nil, or_false, not_or] at hx
      have hi1 := Nat.lt_of_lt_of_le hi hM'.out.size
      rw [hg5.block i (Nat.lt_of_lt_of_le hi1 hg4.size) (fun e => hx.1 (by cases e; rfl)), hg4.block i hi1 (fun e => by have e2 : i = g := Option.some.inj e; rcases h5'.out with h | h; exact hx.2 (e2.trans h); omega)]
      exact hM'.out.block i hi (by simp [hx])
    · exact Nat.le_trans hg4.size hg5.size
    · intro b hb
      have hlt := hB'.out b hb
      rw [hg5.block b (Nat.lt_of_lt_of_le hlt hg4.size) (fun e => hbB (by cases e; exact hb)), hg4.block b hlt (fun e => h3'.out (by cases e; exact hb))]
    · simpa using hb5
    · have := Own.keep ho4 (w' := w5) (fun j hj => hg5.block j (ho4.lt hj) (fun e => by cases e; cases hj; exact hne rfl))
      simpa using this
    · rcases hd4 g' rfl with h | h
      · cases h; exact h5'.out
      · exact .inr (Nat.le_trans hM'.out.size h)
  · have hs' := Lib.hid hs
    clear hs
    go_enter Try.func163, Try.ntmps163
    go_wp2_with fail
    refine mHas_c hP'.out _ ?_
    rw [hs'.out]
    dsimp only
    go_wp2_with fail
    exact hK'.out w ks hM'.out (Nat.le_refl _) (fun _ _ => rfl) hk'.out (.inl ⟨hs'.out, rfl⟩)

set_option maxRecDepth 100000 in
theorem callFunc_zip1 (args : Array Value) (w : World) : (callFunc 162 args).run Try.prog w = .ok (.enter 162 args) w := rfl
set_option maxRecDepth 100000 in
theorem callFunc_zip2 (args : Array Value) (w : World) : (callFunc 163 args).run Try.prog w = .ok (.enter 163 args) w := rfl

theorem bd2 {a b c : Nat} (h1 : a * 88 ≤ 140737488351232) (h2 : b * 88 ≤ 140737488351232) (h3 : c ≤ a + b) : (c + 1) * 16 ≤ 140737488355328 := by omega

theorem keys_visit1 {w : World} {bo g0 : Nat} {ts : EntsOfT T} (hnd : (ts.map (·.1)).Nodup) (hb : ts.length * 88 ≤ 140737488351232) (hk : KRow w w [] bo g0 []) (hbo : bo < w.heap.size) :
    Visit w [bo, g0] ts 162 #[.pointer (some ⟨bo, 0, none⟩)] (fun B don w1 => ∃ ks, KRow w w1 B bo g0 ks ∧ Keys [] ts (fun _ => true) don ks) (fun _ _ => False) where
  start := fun B w1 hE hB => by
    obtain ⟨g, cap, h1, h2, h3, h4, h5⟩ := hk.ex
    have hlt : g < _ := h2.lt rfl
    exact ⟨[], ⟨g, cap, (hE.below.block _ hbo).trans h1, h2.ext hE, fun h => by have := hB g h; omega, h4, h5⟩, Keys.zero List.nodup_nil⟩
  keep := fun B don w1 w2 hB ⟨ks, h1, h2⟩ hM => ⟨ks, h1.keep hM (fun h => by have := hB _ h; omega), h2⟩
  step := fun B don i hi w1 val hni hB hoB hM ⟨ks, h1, h2⟩ hval K hK => by
    have h3 := h2.put hnd hi hni (by simp) rfl
    have hc := h2.count
    refine putFn1_c h1 hoB (fun h => by have := hB _ h; omega) hM (bd2 (b := 0) hb (by omega) (by simp at hc; omega)) K fun w2 hM2 hs2 hB2 hk2 => ?_
    exact hK w2 true hM2 hs2 hB2 (fun _ => ⟨_, hk2, h3⟩) (fun h => by cases h)
  enter := callFunc_zip1

theorem keys_visit2 {w : World} {X : List Nat} {bo g0 b5 r1 : Nat} {P ts : EntsOfT T} {ks0 : List ByteArray} (hnd : (ts.map (·.1)).Nodup) (hb : ts.length * 88 ≤ 140737488351232) (hk : KRow w w [] bo g0 ks0) (hbo : bo < w.heap.size)
    (hP : IsTm w (bo :: g0 :: X) r1 P) (c5 : w.cell? ⟨b5, 0, none⟩ = some (.iface 178 (.map (some r1)))) (h5a : b5 ≠ bo) (h5b : b5 ≠ g0) (hks : ks0.Nodup) (hm : ∀ k, k ∈ ks0 ↔ k ∈ P.map (·.1)) (hl : ks0.length ≤ P.length) :
    Visit w [bo, g0] ts 163 #[.pointer (some ⟨b5, 0, none⟩), .pointer (some ⟨bo, 0, none⟩)] (fun B don w1 => ∃ ks, KRow w w1 B bo g0 ks ∧ Keys ks0 ts (fun k => !(getEnt k P).isSome) don ks) (fun _ _ => False) where
  start := fun B w1 hE hB => by
    obtain ⟨g, cap, h1, h2, h3, h4, h5⟩ := hk.ex
    have hlt : g < _ := h2.lt rfl
    exact ⟨ks0, ⟨g, cap, (hE.below.block _ hbo).trans h1, h2.ext hE, fun h => by have := hB g h; omega, h4, h5⟩, Keys.zero hks⟩
  keep := fun B don w1 w2 hB ⟨ks, h1, h2⟩ hM => ⟨ks, h1.keep hM (fun h => by have := hB _ h; omega), h2⟩
  step := fun B don i hi w1 val hni hB hoB hM ⟨ks, h1, h2⟩ hval K hK => by
    have hc := h2.count
    have hmv : Mv w (bo :: g0 :: X) w1 (bo :: g0 :: X) := hM.mv (by simp)
    have hc5 := (Mv.cell (hM.mv (X := [bo, g0]) (fun _ h => h)) (by simp [h5a, h5b]) c5).1
    refine putFn2_c (X := bo :: g0 :: X) h1 hoB (fun h => by have := hB _ h; omega) hM (bd2 hP.bound hb (by omega)) (hP.mv hmv) hc5 K fun w2 ks2 hM2 hs2 hB2 hk2 hks2 => ?_
    refine hK w2 true hM2 hs2 hB2 (fun _ => ?_) (fun h => by cases h)
    rcases hks2 with ⟨e1, rfl⟩ | ⟨e1, rfl⟩
    · exact ⟨_, hk2, h2.skip hi (by simp [e1])⟩
    · refine ⟨_, hk2, h2.put hnd hi hni ?_ (by simp [e1])⟩
      rw [hm]
      rw [getEnt_lookK] at e1
      exact lookK_none.1 (by simpa using e1)
  enter := callFunc_zip2
end Go.Proofs.Ytamcgcncghabhaa
