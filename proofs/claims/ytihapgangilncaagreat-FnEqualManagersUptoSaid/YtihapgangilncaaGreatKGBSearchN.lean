/- Sets of paths as they lie in memory: to read, and to put paths into. slices.BinarySearchFunc over the nodes of a set, with whatever function value that compares (printed by gen_bsearchn.py). -/
import Derived.Test.YtihapgangilncaaGreatKGSetL
import Derived.Test.YtihapgangilncaaGreatKGFromS
import Derived.Test.YtihapgangilncaaGreatKGPeGood
namespace Go.Proofs.YtihapgangilncaaGreat
open Go.RowKit
set_option linter.unusedSimpArgs false

theorem Tryz.info183 : (Tryz.prog.info? 183).map (fun i => (i.zero, i.size, i.bytes)) = some (some (.agg #[.pointer none, .pointer none, .pointer none, .pointer none, .pointer none]), 5, 40) := by kernel_rfl
abbrev St := Tr Unit PEl
/-- fieldpath.setNode, its set as k says -/
def kNd {σ : Type} (k : Kind σ) : Kind (PEl × σ) where
  size := 4 + k.size
  is := fun w X cs n => ∃ pc sc, cs = pc ++ sc ∧ kPe.is w X pc n.1 ∧ k.is w X sc n.2
  mv := fun ⟨pc, sc, h1, h2, h3⟩ m => ⟨pc, sc, h1, kPe.mv h2 m, k.mv h3 m⟩
  len := fun ⟨pc, sc, h1, h2, h3⟩ => by have e1 := kPe.len h2; have e2 := k.len h3; rw [h1, List.length_append, e1, e2]; rfl
  one := fun ⟨pc, sc, h1, h2, h3⟩ u hu => by
    rw [h1] at hu
    rcases List.mem_append.1 hu with hu | hu
    · exact kPe.one h2 u hu
    · exact k.one h3 u hu
/-- a set of no levels: there is none -/
def kSt0 : Kind St where
  size := 1
  is := fun _ _ _ _ => False
  mv := fun h _ => h
  len := fun h => h.elim
  one := fun h => h.elim
/-- a pointer to a set, whose nodes' sets are as k says -/
def kSp (k : Kind St) : Kind St where
  size := 1
  is := fun w X cs s => ∃ b vm vc, cs = [.pointer (some ⟨b, 0, none⟩)] ∧ b ∉ X ∧ w.cell? ⟨b, 0, none⟩ = some vm ∧ w.cell? ⟨b, 1, none⟩ = some vc ∧ IsSl kPe 32 w X vm s.ms ∧ IsSl (kNd k) 40 w X vc s.cs
  mv := fun ⟨b, vm, vc, h1, h2, h3, h4, h5, h6⟩ m => ⟨b, vm, vc, h1, (m.cell h2 h3).2, (m.cell h2 h3).1, (m.cell h2 h4).1, h5.mv m (by simp [kPe]), h6.mv m (by simp [kNd]; omega)⟩
  len := fun ⟨b, vm, vc, h1, _⟩ => by rw [h1]; rfl
  one := fun ⟨b, vm, vc, h1, _⟩ u hu => by
    rw [h1] at hu
    rw [List.mem_singleton.1 hu]
    rfl
/-- a pointer to a set of at most so many levels -/
def kSt : Nat → Kind St
  | 0 => kSt0
  | d + 1 => kSp (kSt d)
theorem kSt_size (d : Nat) : (kSt d).size = 1 := by cases d <;> rfl
theorem kNd_size (d : Nat) : (kNd (kSt d)).size = 5 := by simp [kNd, kSt_size]
theorem kNd_le {k k' : Kind St} (h : k.le k') : (kNd k).le (kNd k') := ⟨by simp [kNd, h.1], fun ⟨pc, sc, h1, h2, h3⟩ => ⟨pc, sc, h1, h2, h.2 h3⟩⟩
theorem kSp_le {k k' : Kind St} (h : k.le k') : (kSp k).le (kSp k') := ⟨rfl, fun ⟨b, vm, vc, h1, h2, h3, h4, h5, h6⟩ => ⟨b, vm, vc, h1, h2, h3, h4, h5, h6.le (kNd_le h)⟩⟩
theorem kSt_step (d : Nat) : (kSt d).le (kSt (d + 1)) := by
  induction d with
  | zero => exact ⟨rfl, fun h => h.elim⟩
  | succ d ih => exact kSp_le ih
theorem kSt_le {d e : Nat} (h : d ≤ e) : (kSt d).le (kSt e) := by
  induction e with
  | zero =>
    have : d = 0 := by omega
    subst this
    exact Kind.le_refl _
  | succ e ih =>
    by_cases hd : d = e + 1
    · subst hd; exact Kind.le_refl _
    · exact Kind.le_trans (ih (by omega)) (kSt_step e)

/-- a set node as a path element and the block of its set -/
def kBk : Kind (PEl × Nat) where
  size := 5
  is := fun w X cs n => ∃ pc, cs = pc ++ [.pointer (some ⟨n.2, 0, none⟩)] ∧ kPe.is w X pc n.1
  mv := fun ⟨pc, h1, h2⟩ m => ⟨pc, h1, kPe.mv h2 m⟩
  len := fun ⟨pc, h1, h2⟩ => by have e1 := kPe.len h2; rw [h1, List.length_append, e1]; rfl
  one := fun ⟨pc, h1, h2⟩ u hu => by
    rw [h1] at hu
    rcases List.mem_append.1 hu with hu | hu
    · exact kPe.one h2 u hu
    · rw [List.mem_singleton.1 hu]; rfl

/-- a node of a set that paths are put into: its block, its two slices, what stands in them -/
structure Nd where
  (b : Nat) (vm vc : Value) (ms : List PEl) (ks : List (PEl × Nat))
def Nd.bl (n : Nd) : List Nat := n.b :: (vb n.vm ++ vb n.vc)
abbrev bls (Γ : List Nd) : List Nat := Γ.flatMap Nd.bl

structure IsNd (w : World) (X : List Nat) (n : Nd) : Prop where
  cell : w.heap[n.b]? = some (.cells #[n.vm, n.vc] 126 (0, 0))
  ms : ∃ rows : List (List Value), Own w 89 4 n.vm n.ms.length rows.flatten ∧ All2 (kPe.is w X) rows n.ms
  ks : ∃ rows : List (List Value), Own w 183 5 n.vc n.ks.length rows.flatten ∧ All2 (kBk.is w X) rows n.ks

theorem IsNd.lt {w : World} {X : List Nat} {n : Nd} (h : IsNd w X n) : ∀ b ∈ n.bl, b < w.heap.size := fun b hb => by
  obtain ⟨r1, h1, _⟩ := h.ms
  obtain ⟨r2, h2, _⟩ := h.ks
  rcases List.mem_cons.1 hb with rfl | hb
  · exact (Array.getElem?_eq_some_iff.1 h.cell).1
  · rcases List.mem_append.1 hb with hb | hb
    · exact h1.lt (by simpa [vb] using hb)
    · exact h2.lt (by simpa [vb] using hb)
theorem IsNd.mv {w w' : World} {X Y : List Nat} {n : Nd} (h : IsNd w X n) (m : Mv w X w' Y) (hb : ∀ b ∈ n.bl, w'.heap[b]? = w.heap[b]?) : IsNd w' Y n := by
  obtain ⟨r1, h1, h1'⟩ := h.ms
  obtain ⟨r2, h2, h2'⟩ := h.ks
  exact ⟨(hb _ (by simp [Nd.bl])).trans h.cell,
    ⟨r1, h1.keep fun g hg => hb g (by simp [Nd.bl, vb, hg]), h1'.imp fun _ _ h => kPe.mv h m⟩,
    ⟨r2, h2.keep fun g hg => hb g (by simp [Nd.bl, vb, hg]), h2'.imp fun _ _ h => kBk.mv h m⟩⟩

/-- the nodes of a set, in memory of their own and clear of X -/
structure Store (w : World) (X : List Nat) (Γ : List Nd) : Prop where
  nd : (bls Γ).Nodup
  out : ∀ b ∈ bls Γ, b ∉ X
  each : ∀ n ∈ Γ, IsNd w (bls Γ ++ X) n

theorem Store.lt {w : World} {X : List Nat} {Γ : List Nd} (h : Store w X Γ) : ∀ b ∈ bls Γ, b < w.heap.size := fun b hb => by
  obtain ⟨n, hn, hb⟩ := List.mem_flatMap.1 hb
  exact (h.each n hn).lt b hb
theorem Store.ext {w w' : World} {X : List Nat} {Γ : List Nd} (h : Store w X Γ) (hE : Ext w w') : Store w' X Γ :=
  ⟨h.nd, h.out, fun n hn => (h.each n hn).mv (hE.mv _) fun b hb => hE.below.block b ((h.each n hn).lt b hb)⟩
theorem Store.less {w : World} {X Y : List Nat} {Γ : List Nd} (h : Store w X Γ) (hY : ∀ b ∈ Y, b ∈ X) : Store w Y Γ :=
  ⟨h.nd, fun b hb hy => h.out b hb (hY b hy), fun n hn => (h.each n hn).mv ((Mv.refl _ _).less fun b hb => by
    rcases List.mem_append.1 hb with hb | hb
    · exact List.mem_append_left _ hb
    · exact List.mem_append_right _ (hY b hb)) fun _ _ => rfl⟩
theorem Store.mut {w w' : World} {X Y B : List Nat} {Γ : List Nd} (h : Store w X Γ) (hM : Mut w B w') (hB : ∀ b ∈ B, b ∈ X) (hY : ∀ b ∈ Y, b ∈ X ∨ w.heap.size ≤ b) : Store w' Y Γ :=
  ⟨h.nd, fun b hb hy => by
    rcases hY b hy with hx | hx
    · exact h.out b hb hx
    · have := h.lt b hb; omega, fun n hn => (h.each n hn).mv ⟨hM.size, fun k hk hx => by
      simp only [List.mem_append, not_or] at hx
      refine ⟨hM.block k hk fun hb => hx.2 (hB k hb), ?_⟩
      simp only [List.mem_append, not_or]
      exact ⟨hx.1, fun hy => (hY k hy).elim hx.2 (fun h => by omega)⟩⟩ fun b hb => hM.block b ((h.each n hn).lt b hb) fun hbB => h.out b (List.mem_flatMap.2 ⟨n, hn, hb⟩) (hB b hbB)⟩
theorem bls_app (A B : List Nd) : bls (A ++ B) = bls A ++ bls B := List.flatMap_append ..
/-- a part of the nodes by itself -/
theorem Store.part {w : World} {X : List Nat} {A N B : List Nd} (h : Store w X (A ++ N ++ B)) : Store w (bls (A ++ B) ++ X) N := by
  have hn := h.nd
  simp only [bls_app] at hn
  have hn1 := List.nodup_append.1 hn
  have hn2 := List.nodup_append.1 hn1.1
  refine ⟨hn2.2.1, fun b hb hx => ?_, fun n hN => ?_⟩
  · simp only [bls_app, List.mem_append] at hx
    rcases hx with (hx | hx) | hx
    · exact hn2.2.2 b hx b hb rfl
    · exact hn1.2.2 b (List.mem_append_right _ hb) b hx rfl
    · exact h.out b (by simp only [bls_app, List.mem_append]; exact .inl (.inr hb)) hx
  · refine (h.each n (by simp [hN])).mv ((Mv.refl _ _).less fun b hb => ?_) fun _ _ => rfl
    simp only [bls_app, List.mem_append] at hb ⊢
    rcases hb with hb | (hb | hb) | hb
    · exact .inl (.inl (.inr hb))
    · exact .inl (.inl (.inl hb))
    · exact .inl (.inr hb)
    · exact .inr hb
/-- a part of the nodes put back after a change -/
theorem Store.join {w w' : World} {X : List Nat} {A N N' B : List Nd} (h : Store w X (A ++ N ++ B)) (hM : Mut w (bls N) w') (h' : Store w' (bls (A ++ B) ++ X) N') (hN : ∀ b ∈ bls N', b ∈ bls N ∨ w.heap.size ≤ b) : Store w' X (A ++ N' ++ B) := by
  have hn := h.nd
  simp only [bls_app] at hn
  have hn1 := List.nodup_append.1 hn
  have hn2 := List.nodup_append.1 hn1.1
  have hmv : Mv w (bls (A ++ N ++ B) ++ X) w' (bls (A ++ N' ++ B) ++ X) := ⟨hM.size, fun k hk hx => by
    simp only [bls_app, List.mem_append, not_or] at hx ⊢
    exact ⟨hM.block k hk hx.1.1.2, ⟨⟨hx.1.1.1, fun hb => (hN k hb).elim hx.1.1.2 (fun h => by omega)⟩, hx.1.2⟩, hx.2⟩⟩
  have hout : ∀ n ∈ A ++ B, ∀ b ∈ n.bl, w'.heap[b]? = w.heap[b]? := fun n hn b hb => by
    have hnn : n ∈ A ++ N ++ B := by
      rcases List.mem_append.1 hn with hn | hn
      · exact List.mem_append_left _ (List.mem_append_left _ hn)
      · exact List.mem_append_right _ hn
    refine hM.block b ((h.each n hnn).lt b hb) fun hbN => ?_
    rcases List.mem_append.1 hn with hn | hn
    · exact hn2.2.2 b (List.mem_flatMap.2 ⟨n, hn, hb⟩) b hbN rfl
    · exact hn1.2.2 b (List.mem_append_right _ hbN) b (List.mem_flatMap.2 ⟨n, hn, hb⟩) rfl
  refine ⟨?_, fun b hb hx => ?_, fun n hn => ?_⟩
  · simp only [bls_app]
    refine List.nodup_append.2 ⟨List.nodup_append.2 ⟨hn2.1, h'.nd, fun a ha b hb e => ?_⟩, hn1.2.1, fun a ha b hb e => ?_⟩
    · subst e; exact h'.out a hb (by simp only [bls_app, List.mem_append]; exact .inl (.inl ha))
    · subst e
      rcases List.mem_append.1 ha with ha | ha
      · exact hn1.2.2 a (List.mem_append_left _ ha) a hb rfl
      · exact h'.out a ha (by simp only [bls_app, List.mem_append]; exact .inl (.inr hb))
  · simp only [bls_app, List.mem_append] at hb
    rcases hb with (hb | hb) | hb
    · exact h.out b (by simp only [bls_app, List.mem_append]; exact .inl (.inl hb)) hx
    · exact h'.out b hb (by simp only [bls_app, List.mem_append]; exact .inr hx)
    · exact h.out b (by simp only [bls_app, List.mem_append]; exact .inr hb) hx
  · rcases List.mem_append.1 hn with hn | hn
    · rcases List.mem_append.1 hn with hn | hn
      · exact (h.each n (by simp [hn])).mv hmv (hout n (by simp [hn]))
      · refine (h'.each n hn).mv ((Mv.refl _ _).less fun b hb => ?_) fun _ _ => rfl
        simp only [bls_app, List.mem_append] at hb ⊢
        rcases hb with ((hb | hb) | hb) | hb
        · exact .inr (.inl (.inl hb))
        · exact .inl hb
        · exact .inr (.inl (.inr hb))
        · exact .inr (.inr hb)
    · exact (h.each n (by simp [hn])).mv hmv (hout n (by simp [hn]))

/-- a set that paths are put into, as a tree: each node bears its block and its two slices -/
abbrev BT := Tr (Nat × Value × Value) PEl
def BT.b (t : BT) : Nat := t.tag.1
def ksOf (cs : List (PEl × BT)) : List (PEl × Nat) := cs.map fun p => (p.1, BT.b p.2)
mutual
def BT.flat : BT → List Nd
  | .mk t ms cs => ⟨t.1, t.2.1, t.2.2, ms, ksOf cs⟩ :: BT.flatL cs
def BT.flatL : List (PEl × BT) → List Nd
  | [] => []
  | p :: cs => BT.flatP p ++ BT.flatL cs
def BT.flatP : PEl × BT → List Nd
  | (_, s) => BT.flat s
end
theorem BT.flatL_app (A B : List (PEl × BT)) : BT.flatL (A ++ B) = BT.flatL A ++ BT.flatL B := by
  induction A with
  | nil => simp [BT.flatL]
  | cons p A ih => simp [BT.flatL, ih]
theorem BT.flat_eq (t : Nat × Value × Value) (ms : List PEl) (cs : List (PEl × BT)) : BT.flat (.mk t ms cs) = ⟨t.1, t.2.1, t.2.2, ms, ksOf cs⟩ :: BT.flatL cs := by rw [BT.flat]
theorem BT.flatL_mid (A B : List (PEl × BT)) (x : PEl) (s : BT) : BT.flatL (A ++ (x, s) :: B) = BT.flatL A ++ BT.flat s ++ BT.flatL B := by
  rw [BT.flatL_app, BT.flatL, BT.flatP, List.append_assoc]
end Go.Proofs.YtihapgangilncaaGreat
namespace Go.Proofs.YtihapgangilncaaGreat
open Go.RowKit
set_option linter.unusedSimpArgs false

/-- v is a row of set nodes with these path elements -/
def KeyRow (w : World) (v : Value) (us : List PEl) : Prop := ∃ o c b off, v = .slice o us.length c ∧ us.length ≤ c ∧ us.length * 40 ≤ 140737488351232 ∧ (0 < us.length → o = some ⟨b, off, none⟩) ∧
  ∀ i (h : i < us.length), ∃ c0 c1 c2 c3 c4 : Value, w.cell? ⟨b, off + i * 5, none⟩ = some c0 ∧ w.cell? ⟨b, off + i * 5 + 1, none⟩ = some c1 ∧ w.cell? ⟨b, off + i * 5 + 2, none⟩ = some c2 ∧ w.cell? ⟨b, off + i * 5 + 3, none⟩ = some c3 ∧ w.cell? ⟨b, off + i * 5 + 4, none⟩ = some c4 ∧ c4.oneCell' = true ∧ kPe.is w [] [c0, c1, c2, c3] us[i]
theorem KeyRow.ofSl {σ : Type} {k : Kind σ} {f : σ → PEl} (h5 : k.size = 5) (hk : ∀ {w : World} {X : List Nat} {cs : List Value} {n : σ}, k.is w X cs n → ∃ pc p, cs = pc ++ [p] ∧ kPe.is w X pc (f n)) {w : World} {X : List Nat} {v : Value} {us : List σ} (h : IsSl k 40 w X v us) : KeyRow w v (us.map f) := by
  obtain ⟨o, c, b, off, rfl, l1, l2, l3, l4⟩ := h.ex
  refine ⟨o, c, b, off, by simp, by simpa using l1, by simpa using l2, fun hp => (l3 (by simpa using hp)).1, fun i hi => ?_⟩
  obtain ⟨cs, hc, hcs⟩ := l4 i (by simpa using hi)
  obtain ⟨pc, p, rfl, hp⟩ := hk hcs
  have h1 := k.one hcs
  obtain ⟨a0, a1, a2, a3, rfl, -⟩ := kPe_4 hp
  rw [h5] at hc
  refine ⟨a0, a1, a2, a3, p, hc 0 (by omega), hc 1 (by omega), hc 2 (by omega), hc 3 (by omega), hc 4 (by omega), h1 p (by simp), ?_⟩
  rw [List.getElem_map]
  exact kPe.mv hp ((Mv.refl w _).less (by simp))
theorem KeyRow.ext {w w' : World} {v : Value} {us : List PEl} (h : KeyRow w v us) (hE : Ext w w') : KeyRow w' v us := by
  obtain ⟨o, c, b, off, rfl, l1, l2, l3, l4⟩ := h
  refine ⟨o, c, b, off, rfl, l1, l2, l3, fun i hi => ?_⟩
  obtain ⟨c0, c1, c2, c3, c4, h0, h1, h2, h3, h4, h5, h6⟩ := l4 i hi
  exact ⟨c0, c1, c2, c3, c4, hE.keep h0, hE.keep h1, hE.keep h2, hE.keep h3, hE.keep h4, h5, kPe.mv h6 (hE.mv [])⟩
/-- F compares the path element of a set node with one -/
structure NodeCmp (F : FuncId) : Prop where
  cmp : ∀ {w : World} {cs ds : List Value} {p : Value} {a b : PEl}, kPe.is w [] cs a → kPe.is w [] ds b → p.oneCell' = true → ∀ R : Ending → World → Prop, Ends R w (.int .i64 (cmpPe a b)) → Calls Tryz.prog F #[.agg (cs ++ [p]).toArray, .agg ds.toArray] w R
  enter : ∀ (args : Array Value) (w : World), (callFunc F args).run Tryz.prog w = .ok (.enter F args) w

set_option maxRecDepth 100000 in
set_option maxHeartbeats 8000000 in
set_option pp.maxSteps 1000000 in
set_option pp.deepTerms true in
theorem bsearchN_c {F : FuncId} (hF : NodeCmp F) {w : World} {v : Value} {us : List PEl} {cs : List Value} {t : PEl} (hv : KeyRow w v us) (ht : kPe.is w [] cs t) (hmono : ∀ i j (hi : i < us.length) (hj : j < us.length), i ≤ j → cmpPe us[j] t < 0 → cmpPe us[i] t < 0)
    (R : Ending → World → Prop) (hR : ∀ w' i, Ext w w' → At us t i → R (.returned (.tuple #[.int .i64 (i : Int), .bool (HasAt us t i)])) w') :
    Calls Tryz.prog 156 #[v, .agg cs.toArray, .func (.func F) #[] #[]] w R := by
  obtain ⟨a0, a1, a2, a3, rfl, o0, o1, o2, o3⟩ := kPe_4 ht
  obtain ⟨o, c, b, off, rfl, l1, l2, l3, l4⟩ := hv
  have ht' := Lib.hid ht
  have hR' := Lib.hid hR
  have hm' := Lib.hid hmono
  have l3' := Lib.hid l3
  have l4' := Lib.hid l4
  clear ht hR hmono l3 l4
  go_enter Tryz.func156, Tryz.ntmps156
  go_wp2_with fail
  refine abs1 (G := fun wr => Code.wp _ _ _ _ wr) ?_
  intro w1 hE1 hb1 hs1
  have e0 : w1.cell? ⟨w.heap.size, 0, none⟩ = some (a0) := cells_of hb1 0; have e1 : w1.cell? ⟨w.heap.size, 1, none⟩ = some (a1) := cells_of hb1 1; have e2 : w1.cell? ⟨w.heap.size, 2, none⟩ = some (a2) := cells_of hb1 2; have e3 : w1.cell? ⟨w.heap.size, 3, none⟩ = some (a3) := cells_of hb1 3
  clear hb1 hs1
  go_loopw [9, 10, 11] (fun lo hi _ wr => ∃ p q : Nat, lo = .int .i64 p ∧ hi = .int .i64 q ∧ p ≤ q ∧ q ≤ us.length ∧ Ext w wr ∧ Ext w1 wr ∧ Hid ((∀ j (h : j < us.length), j < p → cmpPe us[j] t < 0) ∧ ∀ j (h : j < us.length), q ≤ j → 0 ≤ cmpPe us[j] t))
    (fun lo hi _ _ => (intOf hi).toNat - (intOf lo).toNat)
  case atStart => exact ⟨0, us.length, rfl, rfl, Nat.zero_le _, Nat.le_refl _, hE1, Ext.refl _, Lib.hid ⟨fun j _ hj => by omega, fun j hj h => by omega⟩⟩
  case round =>
    obtain ⟨p, q, rfl, rfl, hpq, hql, hE, hEw, hI⟩ := hrel
    replace e0 := hEw.keep e0; replace e1 := hEw.keep e1; replace e2 := hEw.keep e2; replace e3 := hEw.keep e3
    by_cases hlt : p < q
    · have hm : (p + q) / 2 < us.length := by omega
      obtain rfl := l3'.out (by omega)
      obtain ⟨m0, m1, m2, m3, m4, x0, x1, x2, x3, x4, v4, hms⟩ := l4'.out ((p + q) / 2) hm
      have v0 := kPe.one hms m0 (by simp)
      have v1 := kPe.one hms m1 (by simp)
      have v2 := kPe.one hms m2 (by simp)
      have v3 := kPe.one hms m3 (by simp)
      replace x0 := hE.keep x0
      replace x1 := hE.keep x1
      replace x2 := hE.keep x2
      replace x3 := hE.keep x3
      replace x4 := hE.keep x4
      have hms' := Lib.hid (kPe.mv hms (hE.mv []))
      have htw := Lib.hid (kPe.mv ht'.out (hE.mv []))
      have hE' := Lib.hid hE
      have hEw' := Lib.hid hEw
      have hm2 := Lib.hid hm
      have hmlt : ((p : Int) + (q : Int)) / 2 < (us.length : Int) := by omega
      have hmn : (((p : Int) + (q : Int)) / 2).toNat = (p + q) / 2 := by omega
      have hm0 : (0 : Int) ≤ ((p : Int) + (q : Int)) / 2 := by omega
      clear hms hE hEw
      go_wp2_with fail
      refine wp_region_script [0, 1, 2, 3, 4, 5, 7] [] (fun w' => Ext wr w') [(.pure, 0), (.pure, 1), (.pure, 2), (.pure, 3), (.read, 4), (.read, 5), (.one, 6), (.pure, 7)] (by kernel_rfl) (by kernel_rfl) ?_
      have hC : Ext wr wr.drew := (Ext.refl wr).drew
      iterate 4 (apply scr_pure'; (· rfl); (· rfl); (· (intro w'; go_simp; try rfl)); (· (simp [go_sem]; try rfl)))
      (apply scr_read'; (· rfl); (· rfl); (· first | exact hC | exact (Ext.refl _).drew); (· (intro w' hw'; have x0_ := hw'.keep x0; have x1_ := hw'.keep x1; have x2_ := hw'.keep x2; have x3_ := hw'.keep x3; have x4_ := hw'.keep x4; go_simp; try rfl)); (· (simp [go_sem]; try rfl)))
      (apply scr_read'; (· rfl); (· rfl); (· first | exact hC | exact (Ext.refl _).drew); (· (intro w' hw'; have e0_ := hw'.keep e0; have e1_ := hw'.keep e1; have e2_ := hw'.keep e2; have e3_ := hw'.keep e3; go_simp; try rfl)); (· (simp [go_sem]; try rfl)))
      refine scr_one rfl rfl (fun K hK => ?_)
      refine wp_call_v2 (f := F) rfl rfl hF.enter ?_
      go_simp
      refine hF.cmp (cs := [m0, m1, m2, m3]) (p := m4) (ds := [a0, a1, a2, a3]) (kPe.mv hms'.out (hC.mv [])) (kPe.mv htw.out (hC.mv [])) v4 _ ?_
      intro w9 hE9
      refine hK _ _ (fun h => by simp at h) ?_
      clear hK
      obtain ⟨x, hx⟩ : ∃ x, us[(p + q) / 2]'hm2.out = x := ⟨_, rfl⟩
      rw [hx]
      obtain ⟨z, hz⟩ : ∃ z, cmpPe x t = z := ⟨_, rfl⟩
      rw [hz]
      have hx' := Lib.hid hx
      have hz' := Lib.hid hz
      clear hx hz
      by_cases hneg : z < 0
      · (apply scr_pure'; (· rfl); (· rfl); (· (intro w'; go_simp; try rfl)); (· (simp [go_sem]; try rfl)))
        refine scr_end ?_
        simp only [Exit.then]
        go_wp2_with fail
        go_roundw
        case rel =>
          refine ⟨(p + q) / 2 + 1, q, by go_num, rfl, by omega, hql, hE'.out.trans (hC.trans hE9), hEw'.out.trans (hC.trans hE9), Lib.hid ⟨fun j h hj => ?_, hI.out.2⟩⟩
          exact hm'.out j _ h hm2.out (by omega) (by rw [hx'.out, hz'.out]; exact hneg)
        case measure => simp [intOf]; omega
      · (apply scr_pure'; (· rfl); (· rfl); (· (intro w'; go_simp; try rfl)); (· (simp [go_sem]; try rfl)))
        refine scr_end ?_
        simp only [Exit.then]
        go_wp2_with fail
        go_roundw
        case rel =>
          refine ⟨p, (p + q) / 2, rfl, by go_num, by omega, by omega, hE'.out.trans (hC.trans hE9), hEw'.out.trans (hC.trans hE9), Lib.hid ⟨hI.out.1, fun j h hj => ?_⟩⟩
          exact Int.not_lt.1 fun hc => hneg (by
            have := hm'.out _ j hm2.out h (by omega) hc
            rw [hx'.out, hz'.out] at this
            exact this)
        case measure => simp [intOf]; omega
    · obtain rfl : p = q := by omega
      have hat : At us t p := ⟨hql, hI.out.1, fun j h hj => hI.out.2 j h hj⟩
      have hat' := Lib.hid hat
      clear hat hI
      by_cases hin : p < us.length
      · obtain rfl := l3'.out (by omega)
        obtain ⟨m0, m1, m2, m3, m4, x0, x1, x2, x3, x4, v4, hms⟩ := l4'.out p hin
        have v0 := kPe.one hms m0 (by simp)
        have v1 := kPe.one hms m1 (by simp)
        have v2 := kPe.one hms m2 (by simp)
        have v3 := kPe.one hms m3 (by simp)
        replace x0 := hE.keep x0
        replace x1 := hE.keep x1
        replace x2 := hE.keep x2
        replace x3 := hE.keep x3
        replace x4 := hE.keep x4
        have hms' := Lib.hid (kPe.mv hms (hE.mv []))
        have htw := Lib.hid (kPe.mv ht'.out (hE.mv []))
        have hE' := Lib.hid hE
        have hin2 := Lib.hid hin
        have hini : (p : Int) < (us.length : Int) := by omega
        obtain ⟨z, hz⟩ : ∃ z, cmpPe (us[p]'hin) t = z := ⟨_, rfl⟩
        have hh : HasAt us t p = decide (z = 0) := by unfold HasAt; rw [List.getElem?_eq_getElem hin]; show decide (cmpPe (us[p]'hin) t = 0) = _; rw [hz]
        have hh' := Lib.hid hh
        have hz' := Lib.hid hz
        clear hms hE hEw hh hz
        go_wp2_with fail
        refine wp_region_script [0, 1, 2, 3, 4, 5, 6, 7, 8, 9, 10, 12, 13, 14, 15] [] (fun w' => Ext wr w') [(.pure, 0), (.pure, 1), (.pure, 2), (.pure, 3), (.pure, 4), (.pure, 5), (.pure, 6), (.pure, 7), (.pure, 8), (.read, 9), (.read, 10), (.one, 11), (.pure, 12), (.pure, 13), (.pure, 14), (.pure, 15)] (by kernel_rfl) (by kernel_rfl) ?_
        have hC : Ext wr wr.drew := (Ext.refl wr).drew
        iterate 9 (first | (apply scr_pG; (· rfl); (· (first | rfl | (simp [Region.wanted, yielded, go_sem]; done) | (simp [Region.wanted, yielded, go_sem, *]; done))); (· (intro w'; go_simp; try rfl)); (· (simp [go_sem]; try rfl))) | (apply scr_p0; (· rfl); (· (first | rfl | (simp [Region.wanted, yielded, go_sem]; done) | (simp [Region.wanted, yielded, go_sem, *]; done))); (· (simp [go_sem]; try rfl))))
        (first | (apply scr_rG; (· rfl); (· (first | rfl | (simp [Region.wanted, yielded, go_sem]; done) | (simp [Region.wanted, yielded, go_sem, *]; done))); (· first | exact hC | exact (Ext.refl _).drew); (· (intro w' hw'; have x0_ := hw'.keep x0; have x1_ := hw'.keep x1; have x2_ := hw'.keep x2; have x3_ := hw'.keep x3; have x4_ := hw'.keep x4; go_simp; try rfl)); (· (simp [go_sem]; try rfl))) | (apply scr_r0G; (· rfl); (· (first | rfl | (simp [Region.wanted, yielded, go_sem]; done) | (simp [Region.wanted, yielded, go_sem, *]; done))); (· first | exact hC | exact (Ext.refl _).drew); (· (simp [go_sem]; try rfl))))
        (first | (apply scr_rG; (· rfl); (· (first | rfl | (simp [Region.wanted, yielded, go_sem]; done) | (simp [Region.wanted, yielded, go_sem, *]; done))); (· first | exact hC | exact (Ext.refl _).drew); (· (intro w' hw'; have e0_ := hw'.keep e0; have e1_ := hw'.keep e1; have e2_ := hw'.keep e2; have e3_ := hw'.keep e3; go_simp; try rfl)); (· (simp [go_sem]; try rfl))) | (apply scr_r0G; (· rfl); (· (first | rfl | (simp [Region.wanted, yielded, go_sem]; done) | (simp [Region.wanted, yielded, go_sem, *]; done))); (· first | exact hC | exact (Ext.refl _).drew); (· (simp [go_sem]; try rfl))))
        refine scr_oneG rfl (by simp [Region.wanted, yielded, go_sem, hini]) (fun K hK => ?_)
        refine wp_call_v2 (f := F) rfl rfl hF.enter ?_
        go_simp
        refine hF.cmp (cs := [m0, m1, m2, m3]) (p := m4) (ds := [a0, a1, a2, a3]) (kPe.mv hms'.out (hC.mv [])) (kPe.mv htw.out (hC.mv [])) v4 _ ?_
        rw [hz'.out]
        intro w9 hE9
        refine hK _ _ (fun h => by simp at h) ?_
        clear hK
        by_cases h0 : z = 0
        · have h0b : (z == 0) = true := by simp [h0]
          have hfin := Lib.hid (show HasAt us t p = true by rw [hh'.out]; simp [h0])
          iterate 4 (first | (apply scr_pG; (· rfl); (· (first | rfl | (simp [Region.wanted, yielded, go_sem]; done) | (simp [Region.wanted, yielded, go_sem, *]; done))); (· (intro w'; go_simp; try rfl)); (· (simp [go_sem]; try rfl))) | (apply scr_p0; (· rfl); (· (first | rfl | (simp [Region.wanted, yielded, go_sem]; done) | (simp [Region.wanted, yielded, go_sem, *]; done))); (· (simp [go_sem]; try rfl))))
          refine scr_end ?_
          simp only [Exit.then]
          go_wp2_with fail
          have := hR'.out w9 p (hE'.out.trans (hC.trans hE9)) hat'.out
          rw [hfin.out] at this
          exact this
        · have h0b : (z == 0) = false := by simp [h0]
          have hfin := Lib.hid (show HasAt us t p = false by rw [hh'.out]; simp [h0])
          iterate 4 (first | (apply scr_pG; (· rfl); (· (first | rfl | (simp [Region.wanted, yielded, go_sem]; done) | (simp [Region.wanted, yielded, go_sem, *]; done))); (· (intro w'; go_simp; try rfl)); (· (simp [go_sem]; try rfl))) | (apply scr_p0; (· rfl); (· (first | rfl | (simp [Region.wanted, yielded, go_sem]; done) | (simp [Region.wanted, yielded, go_sem, *]; done))); (· (simp [go_sem]; try rfl))))
          refine scr_end ?_
          simp only [Exit.then]
          go_wp2_with fail
          have := hR'.out w9 p (hE'.out.trans (hC.trans hE9)) hat'.out
          rw [hfin.out] at this
          exact this
      · have hpe : p = us.length := by omega
        have hini : ¬ (p : Int) < (us.length : Int) := by omega
        have hfin := Lib.hid (show HasAt us t p = false by simp [HasAt, hpe])
        have hE' := Lib.hid hE
        clear hpe hE hEw
        go_wp2_with fail
        refine wp_region_script [0, 1, 2, 3, 4, 5, 6, 7, 8, 9, 10, 12, 13, 14, 15] [] (fun w' => Ext wr w') [(.pure, 0), (.pure, 1), (.pure, 2), (.pure, 3), (.pure, 4), (.pure, 5), (.pure, 6), (.pure, 7), (.pure, 8), (.read, 9), (.read, 10), (.one, 11), (.pure, 12), (.pure, 13), (.pure, 14), (.pure, 15)] (by kernel_rfl) (by kernel_rfl) ?_
        have hC : Ext wr wr.drew := (Ext.refl wr).drew
        iterate 9 (first | (apply scr_pG; (· rfl); (· (first | rfl | (simp [Region.wanted, yielded, go_sem]; done) | (simp [Region.wanted, yielded, go_sem, *]; done))); (· (intro w'; go_simp; try rfl)); (· (simp [go_sem]; try rfl))) | (apply scr_p0; (· rfl); (· (first | rfl | (simp [Region.wanted, yielded, go_sem]; done) | (simp [Region.wanted, yielded, go_sem, *]; done))); (· (simp [go_sem]; try rfl))))
        (first | (apply scr_rG; (· rfl); (· (first | rfl | (simp [Region.wanted, yielded, go_sem]; done) | (simp [Region.wanted, yielded, go_sem, *]; done))); (· first | exact hC | exact (Ext.refl _).drew); (· (intro w' hw'; have e0_ := hw'.keep e0; go_simp; try rfl)); (· (simp [go_sem]; try rfl))) | (apply scr_r0G; (· rfl); (· (first | rfl | (simp [Region.wanted, yielded, go_sem]; done) | (simp [Region.wanted, yielded, go_sem, *]; done))); (· first | exact hC | exact (Ext.refl _).drew); (· (simp [go_sem]; try rfl))))
        (first | (apply scr_rG; (· rfl); (· (first | rfl | (simp [Region.wanted, yielded, go_sem]; done) | (simp [Region.wanted, yielded, go_sem, *]; done))); (· first | exact hC | exact (Ext.refl _).drew); (· (intro w' hw'; have e0_ := hw'.keep e0; go_simp; try rfl)); (· (simp [go_sem]; try rfl))) | (apply scr_r0G; (· rfl); (· (first | rfl | (simp [Region.wanted, yielded, go_sem]; done) | (simp [Region.wanted, yielded, go_sem, *]; done))); (· first | exact hC | exact (Ext.refl _).drew); (· (simp [go_sem]; try rfl))))
        refine scr_one0 rfl (by simp [Region.wanted, yielded, go_sem, hini]) (fun h => by simp at h) (by simp [go_sem]; rfl) ?_
        iterate 4 (first | (apply scr_pG; (· rfl); (· (first | rfl | (simp [Region.wanted, yielded, go_sem]; done) | (simp [Region.wanted, yielded, go_sem, *]; done))); (· (intro w'; go_simp; try rfl)); (· (simp [go_sem]; try rfl))) | (apply scr_p0; (· rfl); (· (first | rfl | (simp [Region.wanted, yielded, go_sem]; done) | (simp [Region.wanted, yielded, go_sem, *]; done))); (· (simp [go_sem]; try rfl))))
        refine scr_end ?_
        simp only [Exit.then]
        go_wp2_with fail
        have := hR'.out wr.drew p hE'.out.drew hat'.out
        rw [hfin.out] at this
        first | exact this | simpa [go_sem] using this
end Go.Proofs.YtihapgangilncaaGreat
