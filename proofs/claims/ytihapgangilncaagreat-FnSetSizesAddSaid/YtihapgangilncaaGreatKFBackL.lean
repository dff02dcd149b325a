/- PathElementSet.Iterate with any function value; impl.fromElemSet. Sets of paths as they lie in memory: to read, and to put paths into. What fromElem yields, compared and put in order (plain). -/
import Derived.Test.YtihapgangilncaaGreatKFFromE
import Derived.Test.YtihapgangilncaaGreatKFRowS
import Derived.Test.YtihapgangilncaaGreatKFSetL
namespace Go.Proofs.YtihapgangilncaaGreat
open Go.RowKit
set_option linter.unusedSimpArgs false

theorem Mut.thenNew {a b c : World} {B C : List Nat} (h : Mut a B b) (m : Mut b C c) (hC : ∀ k ∈ C, k ∈ B ∨ a.heap.size ≤ k) : Mut a B c :=
  ⟨m.os.trans h.os, m.tape.trans h.tape, m.output.trans h.output, Nat.le_trans h.size m.size, fun k hk hx => (m.block k (Nat.lt_of_lt_of_le hk h.size) (fun hc => (hC k hc).elim hx (fun h2 => by omega))).trans (h.block k hk hx)⟩

/-- going over the members of a set of path elements with a function value: B are the blocks, known at w, that it may write -/
structure PeVisit (w : World) (X B : List Nat) (us : List PEl) (F : FuncId) (cap : Array Value) (Inv : Nat → World → Prop) : Prop where
  start : Inv 0 w
  keep : ∀ k w1 w2, Inv k w1 → Ext w1 w2 → Inv k w2
  step : ∀ k (hk : k < us.length) w1 cs, Inv k w1 → Mut w B w1 → kPe.is w X cs us[k] → ∀ K : Ending → World → Prop,
    (∀ w2, Mut w B w2 → Inv (k + 1) w2 → K (.returned (.tuple #[])) w2) → Calls Tryz.prog F (#[.agg cs.toArray] ++ cap) w1 K
  enter : ∀ (args : Array Value) (w : World), (callFunc F args).run Tryz.prog w = .ok (.enter F args) w

set_option maxRecDepth 100000 in
set_option maxHeartbeats 4000000 in
set_option pp.maxSteps 1000000 in
set_option pp.deepTerms true in
theorem peIterate_c {w : World} {X B : List Nat} {bs off : Nat} {sv : Value} {us : List PEl} {F : FuncId} {cap : Array Value} {Inv : Nat → World → Prop} (hb : w.cell? ⟨bs, off, none⟩ = some sv) (hs : IsSl kPe 32 w X sv us) (hB : ∀ b ∈ B, b ∈ X) (hv : PeVisit w X B us F cap Inv)
    (R : Ending → World → Prop) (hR : ∀ w', Mut w B w' → Inv us.length w' → R (.returned (.tuple #[])) w') :
    Calls Tryz.prog 103 #[.pointer (some ⟨bs, off, none⟩), .func (.func F) #[] cap] w R := by
  obtain ⟨o, c, b, off2, rfl, l2, l3, l4, l5⟩ := id hs.ex
  have l4' := Lib.hid l4
  have l5' := Lib.hid l5
  have hB' := Lib.hid hB
  have hv' := Lib.hid hv
  have hR' := Lib.hid hR
  have hnl : (us.length : Int) ≤ 140737488351232 := by omega
  clear hR hs l4 l5 l2 l3 hB hv
  go_enter Tryz.func103, Tryz.ntmps103
  go_wp2_with fail
  have hst : Hid (Inv 0 w) := Lib.hid hv'.out.start
  go_loopw [5, 11] (fun _ i wr => ∃ k : Nat, k ≤ us.length ∧ i = .int .i64 k ∧ Hid (Mut w B wr) ∧ Hid (Inv k wr)) (fun _ i _ => us.length - (intOf i).toNat)
  case atStart => exact ⟨0, Nat.zero_le _, rfl, Lib.hid ((Ext.refl w).mut B), hst⟩
  case round =>
    obtain ⟨k, hk, rfl, hM, hinv⟩ := hrel
    rename World => wr
    clear hst
    by_cases hlt : k < us.length
    · obtain ⟨cs, hc, hcs⟩ := l5'.out k hlt
      obtain ⟨rfl, hbX⟩ := l4'.out (by omega)
      have hone := kPe.one hcs
      obtain ⟨c0, c1, c2, c3, rfl⟩ := kPe_four hcs
      have hmv := hM.out.mv (X := X) hB'.out
      have q0 := (hmv.cell hbX (hc 0 (by decide))).1
      have q1 := (hmv.cell hbX (hc 1 (by decide))).1
      have q2 := (hmv.cell hbX (hc 2 (by decide))).1
      have q3 := (hmv.cell hbX (hc 3 (by decide))).1
      simp only [show kPe.size = 4 from rfl, Nat.add_zero] at q0 q1 q2 q3
      have hi1 : (k : Int) < (us.length : Int) := by omega
      have hkm : (k : Int) + 1 ≤ 9223372036854775807 := by omega
      have hcs' := Lib.hid hcs
      have hone' := Lib.hid hone
      clear hc hcs hone hmv
      go_wp2_with (first | (refine wpL_storeRow (cells := #[c0, c1, c2, c3]) (b := wr.heap.size) rfl 89 _ _ rfl Tryz.size89 rfl rfl (alloc_new wr _ rfl) rfl (by simpa using hone'.out) ?_; intro w5 h5 g5; have hEx : Ext wr w5 := ((Ext.refl wr).push _).grown g5 (fun k hk => by cases hk; exact Nat.le_refl _); have s0 : w5.cell? ⟨wr.heap.size, 0, none⟩ = some (c0) := cells_of h5 0; have s1 : w5.cell? ⟨wr.heap.size, 1, none⟩ = some (c1) := cells_of h5 1; have s2 : w5.cell? ⟨wr.heap.size, 2, none⟩ = some (c2) := cells_of h5 2; have s3 : w5.cell? ⟨wr.heap.size, 3, none⟩ = some (c3) := cells_of h5 3; clear q0 q1 q2 q3 h5 g5))
      rw [hv'.out.enter, Oper.upon_enter]
      have hM5 := hM.out.thenNew (hEx.mut []) (by simp)
      refine hv'.out.step k hlt w5 _ (hv'.out.keep _ _ _ hinv.out hEx) hM5 hcs'.out _ ?_
      intro w6 hM6 hinv6
      have hM6' := Lib.hid hM6
      have hinv6' := Lib.hid hinv6
      clear hM6 hinv6 s0 s1 s2 s3
      dsimp only
      go_wp2_with fail
      go_roundw
      case rel => exact ⟨k + 1, by omega, by go_num, hM6', hinv6'⟩
      case measure => simp [intOf]; omega
    · have ek : k = us.length := by omega
      subst ek
      have hi1 : ¬ (us.length : Int) < (us.length : Int) := by omega
      go_wp2_with fail
      exact bodyPost_end (by simp [results, Tryz.results103, go_sem]) rfl (hR'.out wr hM.out hinv.out)

theorem Tryz.info47 : (Tryz.prog.info? 47).map (fun i => (i.zero, i.size, i.bytes)) = some (some (.agg #[.int .i64 0, .string ⟨#[]⟩, .slice none 0 0, .slice none 0 0, .int .i64 0, .int .i64 0, .float .f64 0, .string ⟨#[]⟩, .slice none 0 0, .slice none 0 0, .int .i64 0]), 11, 168) := by kernel_rfl
theorem Tryz.info22 : (Tryz.prog.info? 22).map (fun i => (i.zero, i.size, i.bytes)) = some (some (.slice none 0 0), 1, 24) := by kernel_rfl

end Go.Proofs.YtihapgangilncaaGreat
namespace Go.Proofs.YtihapgangilncaaGreat
open Go.RowKit
set_option linter.unusedSimpArgs false

theorem Tryz.info183 : (Tryz.prog.info? 183).map (fun i => (i.zero, i.size, i.bytes)) = some (some (.agg #[.pointer none, .pointer none, .pointer none, .pointer none, .pointer none]), 5, 40) := by kernel_rfl
theorem Tryz.size183 : (Tryz.prog.info? 183).map (·.size) = some 5 := by kernel_rfl
abbrev St := Tr Unit PEl
/-- fieldpath.setNode, its set as k says -/
def kNd {σ : Type} (k : Kind σ) : Kind (PEl × σ) where
  size := 4 + k.size
  is := fun w X cs n => ∃ pc sc, cs = pc ++ sc ∧ kPe.is w X pc n.1 ∧ k.is w X sc n.2
  mv := fun ⟨pc, sc, h1, h2, h3⟩ m => ⟨pc, sc, h1, kPe.mv h2 m, k.mv h3 m⟩
  len := fun ⟨pc, sc, h1, h2, h3⟩ => by have e1 := kPe.len h2; have e2 := k.len h3; rw [h1, List.length_append, e1, e2]; rfl
  one := fun ⟨pc, sc, h1, h2, h3⟩ u hu => by
    rw [h1] at hu
    rcases List.mem_append.1 hu with hu | hu
    · exact kPe.one h2 u hu
    · exact k.one h3 u hu
/-- a set of no levels: there is none -/
def kSt0 : Kind St where
  size := 1
  is := fun _ _ _ _ => False
  mv := fun h _ => h
  len := fun h => h.elim
  one := fun h => h.elim
/-- a pointer to a set, whose nodes' sets are as k says -/
def kSp (k : Kind St) : Kind St where
  size := 1
  is := fun w X cs s => ∃ b vm vc, cs = [.pointer (some ⟨b, 0, none⟩)] ∧ b ∉ X ∧ w.cell? ⟨b, 0, none⟩ = some vm ∧ w.cell? ⟨b, 1, none⟩ = some vc ∧ IsSl kPe 32 w X vm s.ms ∧ IsSl (kNd k) 40 w X vc s.cs
  mv := fun ⟨b, vm, vc, h1, h2, h3, h4, h5, h6⟩ m => ⟨b, vm, vc, h1, (m.cell h2 h3).2, (m.cell h2 h3).1, (m.cell h2 h4).1, h5.mv m (by simp [kPe]), h6.mv m (by simp [kNd]; omega)⟩
  len := fun ⟨b, vm, vc, h1, _⟩ => by rw [h1]; rfl
  one := fun ⟨b, vm, vc, h1, _⟩ u hu => by
    rw [h1] at hu
    rw [List.mem_singleton.1 hu]
    rfl
/-- a pointer to a set of at most so many levels -/
def kSt : Nat → Kind St
  | 0 => kSt0
  | d + 1 => kSp (kSt d)
theorem kSt_size (d : Nat) : (kSt d).size = 1 := by cases d <;> rfl
theorem kNd_size (d : Nat) : (kNd (kSt d)).size = 5 := by simp [kNd, kSt_size]
theorem kNd_le {k k' : Kind St} (h : k.le k') : (kNd k).le (kNd k') := ⟨by simp [kNd, h.1], fun ⟨pc, sc, h1, h2, h3⟩ => ⟨pc, sc, h1, h2, h.2 h3⟩⟩
theorem kSp_le {k k' : Kind St} (h : k.le k') : (kSp k).le (kSp k') := ⟨rfl, fun ⟨b, vm, vc, h1, h2, h3, h4, h5, h6⟩ => ⟨b, vm, vc, h1, h2, h3, h4, h5, h6.le (kNd_le h)⟩⟩
theorem kSt_step (d : Nat) : (kSt d).le (kSt (d + 1)) := by
  induction d with
  | zero => exact ⟨rfl, fun h => h.elim⟩
  | succ d ih => exact kSp_le ih
theorem kSt_le {d e : Nat} (h : d ≤ e) : (kSt d).le (kSt e) := by
  induction e with
  | zero =>
    have : d = 0 := by omega
    subst this
    exact Kind.le_refl _
  | succ e ih =>
    by_cases hd : d = e + 1
    · subst hd; exact Kind.le_refl _
    · exact Kind.le_trans (ih (by omega)) (kSt_step e)

/-- a set node as a path element and the block of its set -/
def kBk : Kind (PEl × Nat) where
  size := 5
  is := fun w X cs n => ∃ pc, cs = pc ++ [.pointer (some ⟨n.2, 0, none⟩)] ∧ kPe.is w X pc n.1
  mv := fun ⟨pc, h1, h2⟩ m => ⟨pc, h1, kPe.mv h2 m⟩
  len := fun ⟨pc, h1, h2⟩ => by have e1 := kPe.len h2; rw [h1, List.length_append, e1]; rfl
  one := fun ⟨pc, h1, h2⟩ u hu => by
    rw [h1] at hu
    rcases List.mem_append.1 hu with hu | hu
    · exact kPe.one h2 u hu
    · rw [List.mem_singleton.1 hu]; rfl

/-- a node of a set that paths are put into: its block, its two slices, what stands in them -/
structure Nd where
  (b : Nat) (vm vc : Value) (ms : List PEl) (ks : List (PEl × Nat))
def Nd.bl (n : Nd) : List Nat := n.b :: (vb n.vm ++ vb n.vc)
abbrev bls (Γ : List Nd) : List Nat := Γ.flatMap Nd.bl

structure IsNd (w : World) (X : List Nat) (n : Nd) : Prop where
  cell : w.heap[n.b]? = some (.cells #[n.vm, n.vc] 126 (0, 0))
  ms : ∃ rows : List (List Value), Own w 89 4 n.vm n.ms.length rows.flatten ∧ All2 (kPe.is w X) rows n.ms
  ks : ∃ rows : List (List Value), Own w 183 5 n.vc n.ks.length rows.flatten ∧ All2 (kBk.is w X) rows n.ks

theorem IsNd.lt {w : World} {X : List Nat} {n : Nd} (h : IsNd w X n) : ∀ b ∈ n.bl, b < w.heap.size := fun b hb => by
  obtain ⟨r1, h1, _⟩ := h.ms
  obtain ⟨r2, h2, _⟩ := h.ks
  rcases List.mem_cons.1 hb with rfl | hb
  · exact (Array.getElem?_eq_some_iff.1 h.cell).1
  · rcases List.mem_append.1 hb with hb | hb
    · exact h1.lt (by simpa [vb] using hb)
    · exact h2.lt (by simpa [vb] using hb)
theorem IsNd.mv {w w' : World} {X Y : List Nat} {n : Nd} (h : IsNd w X n) (m : Mv w X w' Y) (hb : ∀ b ∈ n.bl, w'.heap[b]? = w.heap[b]?) : IsNd w' Y n := by
  obtain ⟨r1, h1, h1'⟩ := h.ms
  obtain ⟨r2, h2, h2'⟩ := h.ks
  exact ⟨(hb _ (by simp [Nd.bl])).trans h.cell,
    ⟨r1, h1.keep fun g hg => hb g (by simp [Nd.bl, vb, hg]), h1'.imp fun _ _ h => kPe.mv h m⟩,
    ⟨r2, h2.keep fun g hg => hb g (by simp [Nd.bl, vb, hg]), h2'.imp fun _ _ h => kBk.mv h m⟩⟩

/-- the nodes of a set, in memory of their own and clear of X -/
structure Store (w : World) (X : List Nat) (Γ : List Nd) : Prop where
  nd : (bls Γ).Nodup
  out : ∀ b ∈ bls Γ, b ∉ X
  each : ∀ n ∈ Γ, IsNd w (bls Γ ++ X) n

theorem Store.lt {w : World} {X : List Nat} {Γ : List Nd} (h : Store w X Γ) : ∀ b ∈ bls Γ, b < w.heap.size := fun b hb => by
  obtain ⟨n, hn, hb⟩ := List.mem_flatMap.1 hb
  exact (h.each n hn).lt b hb
theorem Store.ext {w w' : World} {X : List Nat} {Γ : List Nd} (h : Store w X Γ) (hE : Ext w w') : Store w' X Γ :=
  ⟨h.nd, h.out, fun n hn => (h.each n hn).mv (hE.mv _) fun b hb => hE.below.block b ((h.each n hn).lt b hb)⟩
theorem Store.less {w : World} {X Y : List Nat} {Γ : List Nd} (h : Store w X Γ) (hY : ∀ b ∈ Y, b ∈ X) : Store w Y Γ :=
  ⟨h.nd, fun b hb hy => h.out b hb (hY b hy), fun n hn => (h.each n hn).mv ((Mv.refl _ _).less fun b hb => by
    rcases List.mem_append.1 hb with hb | hb
    · exact List.mem_append_left _ hb
    · exact List.mem_append_right _ (hY b hb)) fun _ _ => rfl⟩
theorem Store.mut {w w' : World} {X Y B : List Nat} {Γ : List Nd} (h : Store w X Γ) (hM : Mut w B w') (hB : ∀ b ∈ B, b ∈ X) (hY : ∀ b ∈ Y, b ∈ X ∨ w.heap.size ≤ b) : Store w' Y Γ :=
  ⟨h.nd, fun b hb hy => by
    rcases hY b hy with hx | hx
    · exact h.out b hb hx
    · have := h.lt b hb; omega, fun n hn => (h.each n hn).mv ⟨hM.size, fun k hk hx => by
      simp only [List.mem_append, not_or] at hx
      refine ⟨hM.block k hk fun hb => hx.2 (hB k hb), ?_⟩
      simp only [List.mem_append, not_or]
      exact ⟨hx.1, fun hy => (hY k hy).elim hx.2 (fun h => by omega)⟩⟩ fun b hb => hM.block b ((h.each n hn).lt b hb) fun hbB => h.out b (List.mem_flatMap.2 ⟨n, hn, hb⟩) (hB b hbB)⟩
theorem bls_app (A B : List Nd) : bls (A ++ B) = bls A ++ bls B := List.flatMap_append ..
/-- a part of the nodes by itself -/
theorem Store.part {w : World} {X : List Nat} {A N B : List Nd} (h : Store w X (A ++ N ++ B)) : Store w (bls (A ++ B) ++ X) N := by
  have hn := h.nd
  simp only [bls_app] at hn
  have hn1 := List.nodup_append.1 hn
  have hn2 := List.nodup_append.1 hn1.1
  refine ⟨hn2.2.1, fun b hb hx => ?_, fun n hN => ?_⟩
  · simp only [bls_app, List.mem_append] at hx
    rcases hx with (hx | hx) | hx
    · exact hn2.2.2 b hx b hb rfl
    · exact hn1.2.2 b (List.mem_append_right _ hb) b hx rfl
    · exact h.out b (by simp only [bls_app, List.mem_append]; exact .inl (.inr hb)) hx
  · refine (h.each n (by simp [hN])).mv ((Mv.refl _ _).less fun b hb => ?_) fun _ _ => rfl
    simp only [bls_app, List.mem_append] at hb ⊢
    rcases hb with hb | (hb | hb) | hb
    · exact .inl (.inl (.inr hb))
    · exact .inl (.inl (.inl hb))
    · exact .inl (.inr hb)
    · exact .inr hb
/-- a part of the nodes put back after a change -/
theorem Store.join {w w' : World} {X : List Nat} {A N N' B : List Nd} (h : Store w X (A ++ N ++ B)) (hM : Mut w (bls N) w') (h' : Store w' (bls (A ++ B) ++ X) N') (hN : ∀ b ∈ bls N', b ∈ bls N ∨ w.heap.size ≤ b) : Store w' X (A ++ N' ++ B) := by
  have hn := h.nd
  simp only [bls_app] at hn
  have hn1 := List.nodup_append.1 hn
  have hn2 := List.nodup_append.1 hn1.1
  have hmv : Mv w (bls (A ++ N ++ B) ++ X) w' (bls (A ++ N' ++ B) ++ X) := ⟨hM.size, fun k hk hx => by
    simp only [bls_app, List.mem_append, not_or] at hx ⊢
    exact ⟨hM.block k hk hx.1.1.2, ⟨⟨hx.1.1.1, fun hb => (hN k hb).elim hx.1.1.2 (fun h => by omega)⟩, hx.1.2⟩, hx.2⟩⟩
  have hout : ∀ n ∈ A ++ B, ∀ b ∈ n.bl, w'.heap[b]? = w.heap[b]? := fun n hn b hb => by
    have hnn : n ∈ A ++ N ++ B := by
      rcases List.mem_append.1 hn with hn | hn
      · exact List.mem_append_left _ (List.mem_append_left _ hn)
      · exact List.mem_append_right _ hn
    refine hM.block b ((h.each n hnn).lt b hb) fun hbN => ?_
    rcases List.mem_append.1 hn with hn | hn
    · exact hn2.2.2 b (List.mem_flatMap.2 ⟨n, hn, hb⟩) b hbN rfl
    · exact hn1.2.2 b (List.mem_append_right _ hbN) b (List.mem_flatMap.2 ⟨n, hn, hb⟩) rfl
  refine ⟨?_, fun b hb hx => ?_, fun n hn => ?_⟩
  · simp only [bls_app]
    refine List.nodup_append.2 ⟨List.nodup_append.2 ⟨hn2.1, h'.nd, fun a ha b hb e => ?_⟩, hn1.2.1, fun a ha b hb e => ?_⟩
    · subst e; exact h'.out a hb (by simp only [bls_app, List.mem_append]; exact .inl (.inl ha))
    · subst e
      rcases List.mem_append.1 ha with ha | ha
      · exact hn1.2.2 a (List.mem_append_left _ ha) a hb rfl
      · exact h'.out a ha (by simp only [bls_app, List.mem_append]; exact .inl (.inr hb))
  · simp only [bls_app, List.mem_append] at hb
    rcases hb with (hb | hb) | hb
    · exact h.out b (by simp only [bls_app, List.mem_append]; exact .inl (.inl hb)) hx
    · exact h'.out b hb (by simp only [bls_app, List.mem_append]; exact .inr hx)
    · exact h.out b (by simp only [bls_app, List.mem_append]; exact .inr hb) hx
  · rcases List.mem_append.1 hn with hn | hn
    · rcases List.mem_append.1 hn with hn | hn
      · exact (h.each n (by simp [hn])).mv hmv (hout n (by simp [hn]))
      · refine (h'.each n hn).mv ((Mv.refl _ _).less fun b hb => ?_) fun _ _ => rfl
        simp only [bls_app, List.mem_append] at hb ⊢
        rcases hb with ((hb | hb) | hb) | hb
        · exact .inr (.inl (.inl hb))
        · exact .inl hb
        · exact .inr (.inl (.inr hb))
        · exact .inr (.inr hb)
    · exact (h.each n (by simp [hn])).mv hmv (hout n (by simp [hn]))

/-- a set that paths are put into, as a tree: each node bears its block and its two slices -/
abbrev BT := Tr (Nat × Value × Value) PEl
def BT.b (t : BT) : Nat := t.tag.1
def ksOf (cs : List (PEl × BT)) : List (PEl × Nat) := cs.map fun p => (p.1, BT.b p.2)
mutual
def BT.flat : BT → List Nd
  | .mk t ms cs => ⟨t.1, t.2.1, t.2.2, ms, ksOf cs⟩ :: BT.flatL cs
def BT.flatL : List (PEl × BT) → List Nd
  | [] => []
  | p :: cs => BT.flatP p ++ BT.flatL cs
def BT.flatP : PEl × BT → List Nd
  | (_, s) => BT.flat s
end
theorem BT.flatL_app (A B : List (PEl × BT)) : BT.flatL (A ++ B) = BT.flatL A ++ BT.flatL B := by
  induction A with
  | nil => simp [BT.flatL]
  | cons p A ih => simp [BT.flatL, ih]
theorem BT.flat_eq (t : Nat × Value × Value) (ms : List PEl) (cs : List (PEl × BT)) : BT.flat (.mk t ms cs) = ⟨t.1, t.2.1, t.2.2, ms, ksOf cs⟩ :: BT.flatL cs := by rw [BT.flat]
theorem BT.flatL_mid (A B : List (PEl × BT)) (x : PEl) (s : BT) : BT.flatL (A ++ (x, s) :: B) = BT.flatL A ++ BT.flat s ++ BT.flatL B := by
  rw [BT.flatL_app, BT.flatL, BT.flatP, List.append_assoc]
end Go.Proofs.YtihapgangilncaaGreat
namespace Go.Proofs.YtihapgangilncaaGreat
open Go.RowKit
set_option linter.unusedSimpArgs false

theorem zip_back : ∀ (ks : List ByteArray) (l : List V), (ks.zip (V.plainL l)).map (·.1) = ks.take (min ks.length l.length) ∧ (ks.zip (V.plainL l)).map (fun p => p.2.back) = V.cleanL (l.take (min ks.length l.length))
  | [], l => by simp [V.cleanL]
  | k :: ks, [] => by simp [V.plainL, V.cleanL]
  | k :: ks, v :: l => by
    obtain ⟨h1, h2⟩ := zip_back ks l
    have e : min (k :: ks).length (v :: l).length = min ks.length l.length + 1 := by simp only [List.length_cons]; omega
    rw [e]
    simp only [V.plainL, List.zip_cons_cons, List.map_cons, List.take_succ_cons, V.cleanL, back_plain, h1, h2, and_self]

theorem cleanEl_back (e : EL) : cleanEl e = backE (toE e) := by
  obtain ⟨kind, s, keys, l, v, n⟩ := e
  unfold cleanEl toE
  dsimp only
  split
  · obtain ⟨h1, h2⟩ := zip_back keys l
    simp only [backE, h1, h2]
  · split
    · simp only [backE, back_plain]
    · split <;> rfl

theorem cmpT_back (v : V) (u : T) : cmpT v.plain.back.plain u = cmpT v.plain u := by
  unfold cmpT
  rw [back_plain, back_plain, clean_clean]

/-- elements of the program that stand for elements of the reference -/
def FromEl (p : PEl) : Prop := ∃ e, p = toE e

theorem cmpE_back : ∀ (ks : List ByteArray) (l : List V) (gs : EntsOfT T), cmpE cmpT ((ks.zip (V.plainL l)).map fun p => (p.1, p.2.back.plain)) gs = cmpE cmpT (ks.zip (V.plainL l)) gs
  | [], l, gs => by cases gs <;> simp
  | k :: ks, [], gs => by cases gs <;> simp [V.plainL]
  | k :: ks, v :: l, [] => by simp [V.plainL, cmpE]
  | k :: ks, v :: l, g :: gs => by
    simp only [V.plainL, List.zip_cons_cons, List.map_cons, cmpE, cmpT_back, cmpE_back ks l gs]

theorem cmpPe_back {p : PEl} (h : FromEl p) (q : PEl) : cmpPe (toE (backE p)) q = cmpPe p q := by
  obtain ⟨e, rfl⟩ := h
  obtain ⟨kind, s, keys, l, v, n⟩ := e
  unfold toE
  dsimp only
  split
  · have e1 : (backE (.key (keys.zip (V.plainL l)))).keys.zip (V.plainL (backE (.key (keys.zip (V.plainL l)))).l) = (keys.zip (V.plainL l)).map fun p => (p.1, p.2.back.plain) := by
      simp only [backE, V.plainL_eq, List.map_map]
      rw [List.zip_map']
      rfl
    rw [if_pos (show (backE (.key (keys.zip (V.plainL l)))).kind = 1 from rfl), e1]
    cases q <;> simp only [cmpPe]
    exact cmpE_back _ _ _
  · split
    · rw [if_neg (by simp [backE]), if_pos (by simp [backE])]
      cases q <;> simp only [cmpPe, backE]
      exact cmpT_back _ _
    · split
      · rw [if_neg (by simp [backE]), if_neg (by simp [backE]), if_pos (by simp [backE])]
        rfl
      · rw [if_neg (by simp [backE]), if_neg (by simp [backE]), if_neg (by simp [backE])]
        rfl

theorem tame_back {e : EL} (h : tameEl e) : tameEl (backE (toE e)) := by
  rw [← cleanEl_back]
  have hcc : cleanEl (cleanEl e) = cleanEl e := by
    obtain ⟨kind, s, keys, l, v, n⟩ := e
    unfold cleanEl
    dsimp only
    by_cases h1 : kind = 1
    · simp only [if_pos h1]
      have e1 : min (keys.take (min keys.length l.length)).length (V.cleanL (l.take (min keys.length l.length))).length = min keys.length l.length := by
        rw [cleanL_length, List.length_take, List.length_take]; omega
      simp only [if_true, e1, List.take_take, Nat.min_self]
      congr 1
      rw [List.take_of_length_le (by rw [cleanL_length, List.length_take]; omega), V.cleanL_eq, V.cleanL_eq, List.map_map]
      exact List.map_congr_left fun v _ => clean_clean v
    · simp only [if_neg h1]
      by_cases h2 : kind = 2
      · simp only [if_pos h2]
        simp [clean_clean]
      · simp only [if_neg h2]
        by_cases h3 : kind = 3
        · simp [if_pos h3]
        · simp [if_neg h3]
  unfold tameEl at h ⊢
  rw [hcc]
  exact h

end Go.Proofs.YtihapgangilncaaGreat
