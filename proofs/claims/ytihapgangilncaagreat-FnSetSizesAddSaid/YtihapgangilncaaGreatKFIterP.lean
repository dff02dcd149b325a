/- Set.Iterate: a function value called with each path of a set. -/
import Derived.Test.YtihapgangilncaaGreatKFBackL
import Derived.Test.YtihapgangilncaaGreatKFSetOps
namespace Go.Proofs.YtihapgangilncaaGreat
open Go.RowKit
set_option linter.unusedSimpArgs false

theorem Own.uniq {w : World} {e size : Nat} {v : Value} {n : Nat} {xs ys : List Value} (h : Own w e size v n xs) (k : Own w e size v n ys) : xs = ys := by
  rcases h.2 with ⟨rfl, h0⟩ | ⟨g, cap, cur, rfl, _, hg, _, _, _, ht⟩
  · have h1 := h.1
    have h2 := k.1
    subst h0
    rw [Nat.zero_mul] at h1 h2
    rw [List.eq_nil_of_length_eq_zero h1, List.eq_nil_of_length_eq_zero h2]
  · rcases k.2 with ⟨h0, _⟩ | ⟨g', cap', cur', e', _, hg', _, _, _, ht'⟩
    · cases h0
    · cases e'
      rw [hg] at hg'
      cases hg'
      rw [← ht, ← ht']

section
variable {P : Program}
/-- as run_append_mine; and what lay in the row before can still be read there, as long as what came of it is not touched -/
theorem run_append_keep (w : World) (t ty e : TypeId) (i : TypeInfo) (z : Value) (size bytes : Nat) (ht : P.underlying t = some (.slice e)) (hi : P.info? e = some i) (hz : i.zero = some z)
    (hsize : i.size = size) (hby : i.bytes = bytes) (hzs : z.cells.size = size) (hsz : 0 < size)
    (v : Value) (n : Nat) (xs : List Value) (hown : Own w e size v n xs)
    (a : Addr) (m c : Nat) (news : List Value) (hl : news.length = m * size) (hnews : ∀ j u, news[j]? = some u → w.cell? (a.add j) = some u) (h1 : ∀ u ∈ news, u.oneCell' = true)
    (h63 : n + m ≤ maxLen) (hbytes : (n + m) * bytes ≤ 140737488355328) :
    ∃ v' w', (Builtin.append_ #[t, t] ty #[v, .slice (some a) m c]).run P w = .ok v' w' ∧ Own w' e size v' (n + m) (xs ++ news) ∧ w.grownBy w' v.ownBlock ∧
      (v' = .slice none 0 0 ↔ v = .slice none 0 0 ∧ m = 0) ∧ (∀ g, v'.ownBlock = some g → v.ownBlock = some g ∨ g = w.heap.size) ∧
      ∀ w2, Own w2 e size v' (n + m) (xs ++ news) → (∀ g, v.ownBlock = some g → v'.ownBlock ≠ some g → w2.heap[g]? = w'.heap[g]?) → Own w2 e size v n xs := by
  obtain ⟨v', w', hr, h2, h3, h4, h5⟩ := run_append_mine (P := P) w t ty e i z size bytes ht hi hz hsize hby hzs hsz v n xs hown a m c news hl hnews h1 h63 hbytes
  refine ⟨v', w', hr, h2, h3, h4, h5, ?_⟩
  subst hsize
  subst hby
  have hsmall : n + m ≤ 9223372036854775807 := by simp only [maxLen] at h63; omega
  obtain ⟨ho1, ho2⟩ := id hown
  rcases ho2 with ⟨rfl, rfl⟩ | ⟨g0, cap, cur, rfl, hbg, hg0, hnc, hcm, hcs, htake⟩
  · intro w2 _ _
    rw [Nat.zero_mul] at ho1
    rw [List.eq_nil_of_length_eq_zero ho1]
    exact Own.nil _ _ _
  · by_cases hroom : n + m ≤ cap
    · have hfit : n * i.size + news.length ≤ cur.size := by rw [hl, hcs, ← Nat.add_mul]; exact Nat.mul_le_mul_right _ hroom
      have hr' := run_append_room (P := P) w t ty e i ht hi g0 n cap cur hg0 a m c news hl hnews h1 hroom hfit
      rw [hr'] at hr
      cases hr
      intro w2 k2 _
      rcases k2.2 with ⟨h0, _⟩ | ⟨g', cap', cur', e', kb, hg', kn, kc, ks, kt⟩
      · cases h0
      · cases e'
        refine ⟨ho1, .inr ⟨g0, cap, cur', rfl, hbg, hg', hnc, hcm, ks, ?_⟩⟩
        have hle : n * i.size ≤ (n + m) * i.size := Nat.mul_le_mul_right _ (Nat.le_add_right _ _)
        have := congrArg (List.take (n * i.size)) kt
        rw [List.take_take, Nat.min_eq_left hle] at this
        rw [this, List.take_left' ho1]
    · have holds : ∀ j u, xs[j]? = some u → w.cell? ((⟨g0, 0, none⟩ : Addr).add j) = some u := World.ownsRow.cells (g := g0) ⟨ho1, .inr ⟨g0, cap, cur, rfl, hbg, hg0, hnc, hcm, hcs, htake⟩⟩ rfl
      have hr' := run_append_grow (P := P) w t ty e i z ht hi hz ⟨g0, 0, none⟩ n cap xs ho1 holds a m c news hl hnews (by omega) (by omega) (growslice_fits (by omega) hbytes)
      rw [hr'] at hr
      cases hr
      intro w2 _ hk
      have hlt := (Array.getElem?_eq_some_iff.1 hg0).1
      have hne : (some w.heap.size : Option Nat) ≠ some g0 := fun e => by cases e; omega
      have hx := hk g0 rfl (by simpa [Value.ownBlock] using hne)
      refine hown.keep fun g hg => ?_
      simp only [Value.ownBlock, Option.some.injEq] at hg
      subst hg
      rw [hx]
      exact (Ext.alloc w _).below.block g0 hlt

/-- v = append(v, x), x laid into a block of its own just before: what v was can still be read -/
theorem wp_rowAppK {α : Type} {k : Kind α} {w w2 : World} {X : List Nat} {v : Value} {us : List α} {u : α} {c : Array Value} {et e : TypeId} {o : Oper} {a : Act} {K : Act → World → Prop} {Q : Exit → Act → World → Prop}
    (hrow : Row k e w X v us) (hE : Ext w w2) (hX : Old X w2) (hu : k.is w2 (vb v ++ X) c.toList u) (s x : Operand) (t : TypeId)
    (ho : o.op = .call { callee := .builtin .append, args := #[s, x], argTypes := #[t, t] })
    {z : Value} {bytes : Nat} (ht : P.underlying t = some (.slice e)) (hi : (P.info? e).map (fun i => (i.zero, i.size, i.bytes)) = some (some z, k.size, bytes))
    (hzs : z.cells.size = k.size) (hsz : 0 < k.size) (hs : a.eval s = v) (hx : a.eval x = .slice (some ⟨w2.heap.size, 0, none⟩) 1 1)
    (hbytes : (us.length + 1) * bytes ≤ 140737488355328) (h63 : us.length + 1 ≤ maxLen)
    (h : ∀ v' w' ys, Row k e w' X v' (us ++ [u]) → w2.grownBy w' v.ownBlock → v' ≠ .slice none 0 0 → (∀ g, v'.ownBlock = some g → v.ownBlock = some g ∨ w2.heap.size ≤ g) → Own w' e k.size v' (us.length + 1) ys →
      (∀ w3 xs, Own w e k.size v us.length xs → Own w3 e k.size v' (us.length + 1) ys → (∀ g, v.ownBlock = some g → v'.ownBlock ≠ some g → w3.heap[g]? = w'.heap[g]?) → Own w3 e k.size v us.length xs) →
      (∃ rows : List (List Value), Own w' e k.size v' (us.length + 1) rows.flatten ∧ All2 (k.is w' (vb v' ++ (vb v ++ X))) rows (us ++ [u])) → K (a.put o.dst v') w') : o.wp P a (w2.alloc (.cells c et)) K Q := by
  obtain ⟨rows, h1, h2, h3⟩ := hrow.ex
  obtain ⟨i, hi1, hz, hsize, hby⟩ := info_parts hi
  obtain ⟨v', w', hr, k2, k3, k4, k5, k6⟩ := run_append_keep (P := P) (w2.alloc (.cells c et)) t o.type e i z k.size bytes ht hi1 hz hsize hby hzs hsz v us.length rows.flatten (h1.ext (hE.trans (.alloc _ _))) ⟨w2.heap.size, 0, none⟩ 1 1 c.toList (by simpa using k.len hu) (cells_new w2 c et) (k.one hu) h63 hbytes
  unfold Oper.wp execOp
  simp only [ho, resolve, invoke, builtin, Sem.run_bind, Sem.run_pure, Result.andThen_ok, List.map_toArray, List.map_cons, List.map_nil, hs, hx, hr]
  have hg : w2.grownBy w' v.ownBlock := World.grownBy.ext_trans (.alloc _ _) k3
  have hd : ∀ g, v'.ownBlock = some g → v.ownBlock = some g ∨ w2.heap.size ≤ g := fun g hg => by
    rcases k5 g hg with h | h
    · exact .inl h
    · exact .inr (by rw [h]; simp)
  have hmv : Mv w2 (vb v ++ X) w' (vb v' ++ (vb v ++ X)) := ⟨hg.size, fun j hj hx => by
    refine ⟨hg.block j hj (fun e => hx (List.mem_append_left _ (by simp [vb, ← e]))), fun hy => ?_⟩
    rcases List.mem_append.1 hy with hy | hy
    · rcases hd j (by simpa [vb] using hy) with h | h
      · exact hx (List.mem_append_left _ (by simp [vb, h]))
      · omega
    · exact hx hy⟩
  refine h v' w' _ (Row.snoc h2 hE hX h3 hu k2 hg hd) hg (fun e => by simpa using (k4.1 e).2) hd k2 (fun w3 xs hxs ho3 hk => ?_) ⟨rows ++ [c.toList], by simpa using k2, (h2.imp fun _ _ h => k.mv (k.mv h (hE.mv _)) hmv).snoc (k.mv hu hmv)⟩
  rw [hxs.uniq h1]
  exact k6 w3 ho3 hk
end

set_option maxRecDepth 100000 in
theorem wp_call_v3 {o : Oper} {a : Act} {w : World} {next : Act → World → Prop} {Q : Exit → Act → World → Prop} {dst : Option Tmp} {f : FuncId} {cap : Array Value} {t : Tmp} {xs : Array Operand} {ats : Array TypeId} {ty : TypeId} {pos : String} {after : Array Edge} {guard : Option (Nat × Bool)}
    (ho : o = { dst, op := .call { callee := .value (.tmp t), args := xs, argTypes := ats }, type := ty, pos, after, guard }) (h : a.eval (.tmp t) = .func (.func f) #[] cap)
    (he : ∀ (args : Array Value) (w : World), (callFunc f args).run Tryz.prog w = .ok (.enter f args) w) (hc : Calls Tryz.prog f (#[] ++ xs.map a.eval ++ cap) w fun
      | .returned v, w'' => next (a.put o.dst v) w''
      | .panicked chain, w'' => Q (.panic chain) a w''
      | .outgrown, _ => LetsOut Q) : Oper.wp Tryz.prog o a w next Q := by
  subst ho
  have e : execOp a.eval { dst, op := .call { callee := .value (.tmp t), args := xs, argTypes := ats }, type := ty, pos, after, guard } = callFunc f (#[] ++ xs.map a.eval ++ cap) := by
    simp only [execOp, resolve, h]
    rfl
  unfold Oper.wp
  rw [e]
  rw [he, Oper.upon_enter]
  refine hc.mono ?_
  rintro (_ | _ | _) w'' h <;> exact h

/-- going over paths with a function value; O are the blocks that it has made its own -/
structure PVisit (F : FuncId) (cap : Array Value) (Inv : Nat → List Nat → List Nat → World → Prop) (ps : List (List PEl)) : Prop where
  enter : ∀ (args : Array Value) (w : World), (callFunc F args).run Tryz.prog w = .ok (.enter F args) w
  old : ∀ {k O Z w}, Inv k O Z w → Old O w
  grow : ∀ {k O Z Z' w w' B}, Inv k O Z w → Mut w B w' → (∀ b ∈ B, b ∈ Z) → (∀ b ∈ Z', b ∈ Z ∨ w.heap.size ≤ b) → Inv k O Z' w'
  step : ∀ {k O Z w v p}, ps[k]? = some p → p.length * 32 ≤ 140737488351232 → Inv k O (vb v ++ Z) w → Old Z w → Row kPe 89 w (O ++ Z) v p → ∀ K : Ending → World → Prop,
    (∀ w' O', Mut w O w' → (∀ b ∈ O', b ∈ O ∨ w.heap.size ≤ b) → Inv (k + 1) O' (vb v ++ Z) w' → K (.returned (.tuple #[])) w') → Calls Tryz.prog F (#[v] ++ cap) w K
theorem PVisit.ext {F : FuncId} {cap : Array Value} {Inv : Nat → List Nat → List Nat → World → Prop} {ps : List (List PEl)} (h : PVisit F cap Inv ps) {k : Nat} {O Z : List Nat} {w w' : World} (hi : Inv k O Z w) (hE : Ext w w') : Inv k O Z w' := h.grow hi (hE.mut []) (by simp) (fun _ hb => .inl hb)
/-- the row that came of an append, and the blocks to be kept clear of -/
theorem row_next {w4 : World} {O Z : List Nat} {pv v' : Value} {us : List PEl} {m : Nat} (h4 : Row kPe 89 w4 (O ++ Z) v' us) (hm : us.length = m) (hall : ∃ rows : List (List Value), Own w4 89 4 v' m rows.flatten ∧ All2 (kPe.is w4 (vb v' ++ (vb pv ++ (O ++ Z)))) rows us) :
    ∃ Zn, Row kPe 89 w4 (O ++ Zn) v' us ∧ (∀ b ∈ Zn, b ∈ vb pv ++ Z) ∧ ∀ b ∈ vb pv ++ Z, b ∈ vb v' ++ Zn := by
  obtain ⟨rows, k1, k2⟩ := hall
  refine ⟨(vb pv ++ Z).filter (fun b => decide (b ∉ vb v')), ⟨rows, by rw [hm]; exact k1, k2.imp fun _ _ h => kPe.mv h ((Mv.refl _ _).less fun b hb => ?_), fun g hg hx => ?_⟩, fun b hb => (List.mem_filter.1 hb).1, fun b hb => ?_⟩
  · simp only [List.mem_append, List.mem_filter] at hb ⊢
    rcases hb with hb | hb | ⟨hb | hb, _⟩
    · exact .inl hb
    · exact .inr (.inr (.inl hb))
    · exact .inr (.inl hb)
    · exact .inr (.inr (.inr hb))
  · rcases List.mem_append.1 hx with hx | hx
    · exact h4.notin (List.mem_append_left _ hx) hg.symm
    · have := (List.mem_filter.1 hx).2
      simp [vb, hg] at this
  · by_cases h : b ∈ vb v'
    · exact List.mem_append_left _ h
    · exact List.mem_append_right _ (List.mem_filter.2 ⟨hb, by simpa using h⟩)
/-- L stands in ps from place k on -/
def Seg {α : Type} (ps : List α) (k : Nat) (L : List α) : Prop := ∃ A C, ps = A ++ (L ++ C) ∧ A.length = k
theorem Seg.left {α : Type} {ps : List α} {k : Nat} {L M : List α} (h : Seg ps k (L ++ M)) : Seg ps k L := by
  obtain ⟨A, C, h1, h2⟩ := h
  exact ⟨A, M ++ C, by rw [h1]; simp, h2⟩
theorem Seg.right {α : Type} {ps : List α} {k : Nat} {L M : List α} (h : Seg ps k (L ++ M)) : Seg ps (k + L.length) M := by
  obtain ⟨A, C, h1, h2⟩ := h
  exact ⟨A ++ L, C, by rw [h1]; simp, by simp [h2]⟩
theorem Seg.get {α : Type} {ps : List α} {k : Nat} {L : List α} (h : Seg ps k L) {i : Nat} (hi : i < L.length) : ps[k + i]? = some (L[i]) := by
  obtain ⟨A, C, rfl, rfl⟩ := h
  rw [List.getElem?_append_right (by omega), Nat.add_sub_cancel_left, List.getElem?_append_left hi, List.getElem?_eq_getElem hi]
theorem Seg.one {α : Type} {ps : List α} {k : Nat} {x : α} {L : List α} (h : Seg ps k (x :: L)) : ps[k]? = some x := by
  obtain ⟨A, C, rfl, rfl⟩ := h
  simp

set_option maxRecDepth 100000 in
theorem callFunc_itp1 (args : Array Value) (w : World) : (callFunc 179 args).run Tryz.prog w = .ok (.enter 179 args) w := rfl

section
variable {F : FuncId} {cap : Array Value} {Inv : Nat → List Nat → List Nat → World → Prop} {ps : List (List PEl)}
set_option maxRecDepth 100000 in
set_option maxHeartbeats 4000000 in
set_option pp.maxSteps 1000000 in
set_option pp.deepTerms true in
theorem itp1_c (hV : PVisit F cap Inv ps) {w : World} {O Z : List Nat} (hZ : Old Z w) {fb pb k : Nat} {pv : Value} {pre : List PEl} {cs : List Value} {e : PEl} (hf : w.cell? ⟨fb, 0, none⟩ = some (.func (.func F) #[] cap)) (hp : w.cell? ⟨pb, 0, none⟩ = some pv) (hfb : fb ∉ vb pv) (hpb : pb ∉ vb pv) (hrow : Row kPe 89 w (O ++ Z) pv pre)
    (hinv : Inv k O (vb pv ++ Z) w) (he : kPe.is w (vb pv ++ (O ++ Z)) cs e) (hk : ps[k]? = some (pre ++ [e])) (hbytes : (pre.length + 1) * 32 ≤ 140737488351232) (R : Ending → World → Prop)
    (hR : ∀ w' O', Mut w (vb pv ++ O) w' → (∀ b ∈ O', b ∈ O ∨ w.heap.size ≤ b) → Inv (k + 1) O' (vb pv ++ Z) w' → (∀ xs, Own w 89 4 pv pre.length xs → Own w' 89 4 pv pre.length xs) → R (.returned (.tuple #[])) w') :
    Calls Tryz.prog 179 #[.agg cs.toArray, .pointer (some ⟨fb, 0, none⟩), .pointer (some ⟨pb, 0, none⟩)] w R := by
  have hX : Old (O ++ Z) w := fun b hb => (List.mem_append.1 hb).elim (hV.old hinv b) (hZ b)
  obtain ⟨c0, c1, c2, c3, rfl⟩ := kPe_four he
  have hZ' := Lib.hid hZ
  have hV' := Lib.hid hV
  have hR' := Lib.hid hR
  have hX' := Lib.hid hX
  have he' := Lib.hid he
  have hrow' := Lib.hid hrow
  have hinv' := Lib.hid hinv
  have hk' := Lib.hid hk
  have hbytes' := Lib.hid hbytes
  clear hR hX he hrow hbytes hV hinv hk
  go_enter Tryz.func179, Tryz.ntmps179
  go_wp2_with fail
  refine abs1 (G := fun wr => Code.wp _ _ _ _ wr) ?_
  intro w1 hE1 hb1 hs1
  have s0 : w1.cell? ⟨w.heap.size, 0, none⟩ = some (c0) := cells_of hb1 0; have s1 : w1.cell? ⟨w.heap.size, 1, none⟩ = some (c1) := cells_of hb1 1; have s2 : w1.cell? ⟨w.heap.size, 2, none⟩ = some (c2) := cells_of hb1 2; have s3 : w1.cell? ⟨w.heap.size, 3, none⟩ = some (c3) := cells_of hb1 3
  replace hf := hE1.keep hf; replace hp := hE1.keep hp
  clear hb1 hs1
  refine wp_region_script [0, 1, 2] [3, 4] (fun w' => w'.cell? ⟨fb, 0, none⟩ = some (.func (.func F) #[] cap) ∧ w'.cell? ⟨pb, 0, none⟩ = some pv ∧ w'.cell? ⟨w.heap.size, 0, none⟩ = some c0 ∧ w'.cell? ⟨w.heap.size, 1, none⟩ = some c1 ∧ w'.cell? ⟨w.heap.size, 2, none⟩ = some c2 ∧ w'.cell? ⟨w.heap.size, 3, none⟩ = some c3) [(.read, 0), (.read, 1), (.read, 2), (.one, 3), (.one, 4), (.one, 5)] (by kernel_rfl) (by kernel_rfl) ?_
  have hEC : Ext w1 w1.drew := (Ext.refl _).drew
  replace hf := hEC.keep hf; replace hp := hEC.keep hp; replace s0 := hEC.keep s0; replace s1 := hEC.keep s1; replace s2 := hEC.keep s2; replace s3 := hEC.keep s3
  have hC := And.intro hf (And.intro hp (And.intro s0 (And.intro s1 (And.intro s2 s3))))
  (apply scr_read'; (· rfl); (· rfl); (· exact hC); (· (intro w' hw'; obtain ⟨hf_, hp_, s0_, s1_, s2_, s3_⟩ := hw'; go_simp; try rfl)); (· (simp [go_sem]; try rfl)))
  (apply scr_read'; (· rfl); (· rfl); (· exact hC); (· (intro w' hw'; obtain ⟨hf_, hp_, s0_, s1_, s2_, s3_⟩ := hw'; go_simp; try rfl)); (· (simp [go_sem]; try rfl)))
  (apply scr_read'; (· rfl); (· rfl); (· exact hC); (· (intro w' hw'; obtain ⟨hf_, hp_, s0_, s1_, s2_, s3_⟩ := hw'; go_simp; try rfl)); (· (simp [go_sem]; try rfl)))
  refine scr_one rfl rfl (fun K hK => ?_)
  go_simp
  have hEp : Ext w1.drew (w1.drew.alloc (.cells #[c0, c1, c2, c3] 89)) := (Ext.refl _).push _
  refine hK _ _ (fun _ => ⟨hEp.keep hf, hEp.keep hp, hEp.keep s0, hEp.keep s1, hEp.keep s2, hEp.keep s3⟩) ?_
  clear hK hEp hC
  have hEd := Lib.hid (hE1.drew)
  have hnx : ∀ b ∈ vb pv, b ∉ O := fun b hb hO => by
    have := hrow'.out.notin (List.mem_append_left _ hO)
    simp [vb] at hb
    exact this hb.symm
  have hnew : w.heap.size ∉ vb pv := fun h => by
    have := hrow'.out.lt (show pv.ownBlock = some w.heap.size by simpa [vb] using h)
    omega
  refine scr_one rfl rfl (fun K hK => ?_)
  refine wp_rowAppK (c := #[c0, c1, c2, c3]) hrow'.out hEd.out (hX'.out.le hEd.out.size) (kPe.mv he'.out (hEd.out.mv _)) _ _ _ rfl Tryz.underlying176 Tryz.info89 rfl (by decide) (by go_simp) (by go_simp) (Nat.le_trans hbytes'.out (by decide)) (by rw [maxLen_eq]; have := hbytes'.out; omega) ?_
  intro v' w4 ys hr4 hg4 hne4 hd4 ho4 hback hall4
  obtain ⟨Zn, hrn, hz1, hz2⟩ := row_next hr4 (by simp) hall4
  have hM4 : Mut w (vb pv) w4 := (hEd.out.mut (vb pv)).trans ⟨hg4.os, hg4.tape, hg4.output, hg4.size, fun j hj hx => hg4.block j hj (fun e => hx (by simp [vb, ← e]))⟩
  have hi4 : Inv k O (vb v' ++ Zn) w4 := hV'.out.grow hinv'.out hM4 (fun b hb => List.mem_append_left _ hb) (fun b hb => by
    rcases List.mem_append.1 hb with hb | hb
    · exact (hd4 b (by simpa [vb] using hb)).imp (fun h => List.mem_append_left _ (by simp [vb, h])) (fun h => Nat.le_trans hEd.out.size h)
    · exact .inl (hz1 b hb))
  have hz4 : Old Zn w4 := fun b hb => by
    rcases List.mem_append.1 (hz1 b hb) with hb | hb
    · exact Nat.lt_of_lt_of_le (hrow'.out.lt (by simpa [vb] using hb)) hM4.size
    · exact Nat.lt_of_lt_of_le (hZ'.out b hb) hM4.size
  have hrn' := Lib.hid hrn
  have hz2' := Lib.hid hz2
  have hz4' := Lib.hid hz4
  have hk4 : ∀ {b j : Nat} {u : Value}, b ∉ vb pv → w1.drew.cell? ⟨b, j, none⟩ = some u → w4.cell? ⟨b, j, none⟩ = some u := fun {b j u} hb hc => by
    exact (((Mv.refl w1.drew (vb pv)).grown hg4 (fun g hg => by simp [vb, hg])).cell hb hc).1
  have hC4 := And.intro (hk4 hfb hf) (And.intro (hk4 hpb hp) (And.intro (hk4 hnew s0) (And.intro (hk4 hnew s1) (And.intro (hk4 hnew s2) (hk4 hnew s3)))))
  have hvo4 := hr4.one
  have hr4' := Lib.hid hr4
  have hd4' := Lib.hid hd4
  have ho4' := Lib.hid ho4
  have hback' := Lib.hid hback
  have hM4' := Lib.hid hM4
  have hi4' := Lib.hid hi4
  have hnx' := Lib.hid hnx
  refine hK _ _ (fun _ => hC4) ?_
  clear hK hrn hz1 hz2 hall4 hr4 hd4 ho4 hback hM4 hi4 hz4 hg4 hne4 hnx hC4 hk4 hf hp s0 s1 s2 s3 hnew hfb hpb
  refine scr_one rfl rfl (fun K hK => ?_)
  refine wp_call_v3 (f := F) (cap := cap) rfl (by go_simp) hV'.out.enter ?_
  go_simp
  refine hV'.out.step hk'.out (by simpa using hbytes'.out) hi4'.out hz4'.out hrn'.out _ ?_
  intro w5 O5 hM5 hO5 hi5
  refine hK _ _ (fun h => by simp at h) ?_
  clear hK
  refine scr_end ?_
  refine bodyPost_end (by simp [results, Tryz.results179, go_sem]) rfl (hR'.out w5 O5 ?_ ?_ (hV'.out.grow hi5 ((Ext.refl w5).mut []) (by simp) (fun b hb => .inl (hz2'.out b hb))) ?_)
  · refine (hM4'.out.more (fun b hb => List.mem_append_left _ hb)).thenNew hM5 fun b hb => .inl (List.mem_append_right _ hb)
  · intro b hb
    exact (hO5 b hb).imp id (fun h => Nat.le_trans hM4'.out.size h)
  · intro xs hxs
    refine hback'.out w5 xs hxs (ho4'.out.keep fun g hg => ?_) fun g hg _ => ?_
    · refine hM5.block g (hr4'.out.lt hg) fun hO => ?_
      exact absurd hg.symm (hrn'.out.notin (List.mem_append_left _ hO))
    · have hgv : g ∈ vb pv := by simp [vb, hg]
      exact hM5.block g (Nat.lt_of_lt_of_le (hrow'.out.lt hg) hM4'.out.size) fun hO => hnx'.out g hgv hO

theorem Own.mutated {w w' : World} {e size : Nat} {v : Value} {n : Nat} {xs : List Value} {B : List Nat} (h : Own w e size v n xs) (hM : Mut w B w') (hB : ∀ b ∈ vb v, b ∉ B) : Own w' e size v n xs := h.keep fun g hg => hM.block g (h.lt hg) (hB g (by simp [vb, hg]))
theorem Mut.mvTo {w w' : World} {B X Y : List Nat} (h : Mut w B w') (hB : ∀ b ∈ B, b ∈ X) (hY : ∀ b ∈ Y, b ∈ X ∨ w.heap.size ≤ b) : Mv w X w' Y :=
  ⟨h.size, fun k hk hx => ⟨h.block k hk fun hb => hx (hB k hb), fun hy => (hY k hy).elim hx (fun h => by omega)⟩⟩
theorem lt_of_cell' {w : World} {b j : Nat} {v : Value} (h : w.cell? ⟨b, j, none⟩ = some v) : b < w.heap.size := by
  unfold World.cell? at h
  rcases Nat.lt_or_ge b w.heap.size with hb | hb
  · exact hb
  · simp [Array.getElem?_eq_none hb] at h
/-- what a set's walk asks: a pointer to a set, over a row that is the path so far -/
def ItpC (F : FuncId) (cap : Array Value) (Inv : Nat → List Nat → List Nat → World → Prop) (ps : List (List PEl)) (k : Kind St) : Prop :=
  ∀ {w : World} {O Z : List Nat} {j : Nat} {pv : Value} {pre : List PEl} {sv : Value} {s : St} {G : PEl → Prop}, k.is w (vb pv ++ (O ++ Z)) [sv] s → Tr.Wf cmpPe G s → Row kPe 89 w (O ++ Z) pv pre → Old Z w → Inv j O (vb pv ++ Z) w → Seg ps j (s.paths.map (pre ++ ·)) → (∀ q ∈ s.paths, (pre.length + q.length) * 32 ≤ 140737488351232) → ∀ R : Ending → World → Prop,
    (∀ w' O', Mut w (vb pv ++ O) w' → (∀ b ∈ O', b ∈ O ∨ w.heap.size ≤ b) → Inv (j + s.paths.length) O' (vb pv ++ Z) w' → (∀ xs, Own w 89 4 pv pre.length xs → Own w' 89 4 pv pre.length xs) → R (.returned (.tuple #[])) w') →
    Calls Tryz.prog 151 #[sv, pv, .func (.func F) #[] cap] w R

set_option maxRecDepth 100000 in
set_option maxHeartbeats 4000000 in
set_option pp.maxSteps 1000000 in
set_option pp.deepTerms true in
theorem itpNodes_c (hV : PVisit F cap Inv ps) {d : Nat} (ih : ItpC F cap Inv ps (kSt d)) {w : World} {O Z : List Nat} (hZ : Old Z w) {j : Nat} {pv : Value} {pre : List PEl} {bs off : Nat} {cv : Value} {cs : List (PEl × St)} {G : PEl → Prop} (hb : w.cell? ⟨bs, off, none⟩ = some cv) (hs : IsSl (kNd (kSt d)) 40 w (vb pv ++ (O ++ Z)) cv cs)
    (hwf : ∀ p ∈ cs, Tr.Wf cmpPe G p.2) (hne : ∀ p ∈ cs, p.2.paths ≠ []) (hrow : Row kPe 89 w (O ++ Z) pv pre) (hinv : Inv j O (vb pv ++ Z) w) (hseg : Seg ps j ((cs.flatMap fun p => p.2.paths.map (p.1 :: ·)).map (pre ++ ·))) (hbytes : ∀ p ∈ cs, ∀ q ∈ p.2.paths, (pre.length + 1 + q.length) * 32 ≤ 140737488351232) (R : Ending → World → Prop)
    (hR : ∀ w' O', Mut w (vb pv ++ O) w' → (∀ b ∈ O', b ∈ O ∨ w.heap.size ≤ b) → Inv (j + (cs.flatMap fun p => p.2.paths.map (p.1 :: ·)).length) O' (vb pv ++ Z) w' → (∀ xs, Own w 89 4 pv pre.length xs → Own w' 89 4 pv pre.length xs) → R (.returned (.tuple #[])) w') :
    Calls Tryz.prog 180 #[.pointer (some ⟨bs, off, none⟩), pv, .func (.func F) #[] cap] w R := by
  have hX : Old (O ++ Z) w := fun b hb => (List.mem_append.1 hb).elim (hV.old hinv b) (hZ b)
  have hsub : ∀ b ∈ vb pv ++ O, b ∈ vb pv ++ (O ++ Z) := fun b hb => by simp only [List.mem_append] at hb ⊢; exact hb.imp id .inl
  obtain ⟨o, c, b, off2, rfl, l2, l3, l4, l5⟩ := id hs.ex
  have l4' := Lib.hid l4
  have l5' := Lib.hid l5
  have hZ' := Lib.hid hZ
  have hV' := Lib.hid hV
  have hR' := Lib.hid hR
  have hX' := Lib.hid hX
  have hrow' := Lib.hid hrow
  have hinv' := Lib.hid hinv
  have hwf' := Lib.hid hwf
  have hne' := Lib.hid hne
  have hseg' := Lib.hid hseg
  have hbytes' := Lib.hid hbytes
  have ih' : Hid (ItpC F cap Inv ps (kSt d)) := Lib.hid ih
  have hnl : (cs.length : Int) ≤ 140737488351232 := by omega
  have hpvo := hrow.one
  clear hR hX hrow hbytes hV hinv hwf hne hseg l4 l5 hs l2 l3 ih
  go_enter Tryz.func180, Tryz.ntmps180
  go_wp2_with fail
  go_loopw [7, 8, 14] (fun _ _ i wr => ∃ (m : Nat) (O1 : List Nat), m ≤ cs.length ∧ i = .int .i64 m ∧ Hid (Mut w (vb pv ++ O) wr) ∧ Hid (∀ b ∈ O1, b ∈ O ∨ w.heap.size ≤ b) ∧ Hid (Inv (j + ((cs.take m).flatMap fun p => p.2.paths.map (p.1 :: ·)).length) O1 (vb pv ++ Z) wr) ∧
    Hid (∀ xs, Own w 89 4 pv pre.length xs → Own wr 89 4 pv pre.length xs)) (fun _ _ i _ => cs.length - (intOf i).toNat)
  case atStart => exact ⟨0, O, Nat.zero_le _, rfl, Lib.hid ((Ext.refl w).mut _), Lib.hid (fun b hb => .inl hb), hinv', Lib.hid (fun xs h => h)⟩
  case round =>
    obtain ⟨m, O1, hm, rfl, hM, hO1, hi1, hown⟩ := hrel
    rename World => wr
    by_cases hlt : m < cs.length
    · obtain ⟨ds, hc, hds⟩ := l5'.out m hlt
      obtain ⟨rfl, hbX⟩ := l4'.out (by omega)
      have hsz : (kNd (kSt d)).size = 5 := kNd_size d
      rw [hsz] at hc
      have hone := (kNd (kSt d)).one hds
      obtain ⟨pc, sc, rfl, hpc, hsc⟩ := hds
      obtain ⟨c0, c1, c2, c3, rfl⟩ := kPe_four hpc
      have hscl := (kSt d).len hsc
      rw [kSt_size] at hscl
      obtain ⟨c4, rfl⟩ : ∃ c4, sc = [c4] := by
        match sc, hscl with
        | [c4], _ => exact ⟨c4, rfl⟩
      have hmv := hM.out.mv (X := vb pv ++ (O ++ Z)) hsub
      have q0 := (hmv.cell hbX (hc 0 (by decide))).1
      have q1 := (hmv.cell hbX (hc 1 (by decide))).1
      have q2 := (hmv.cell hbX (hc 2 (by decide))).1
      have q3 := (hmv.cell hbX (hc 3 (by decide))).1
      have q4 := (hmv.cell hbX (hc 4 (by decide))).1
      simp only [List.cons_append, List.nil_append] at q0 q1 q2 q3 q4 hone
      simp at q0 q1 q2 q3 q4
      have hi2 : (m : Int) < (cs.length : Int) := by omega
      have hkm : (m : Int) + 1 ≤ 9223372036854775807 := by omega
      have hone4 := Lib.hid (kPe.one hpc)
      have hpc' := Lib.hid hpc
      have hsc' := Lib.hid hsc
      have hone' := Lib.hid hone
      clear hc hpc hsc hone hmv hsz hscl
      go_wp2_with (first | (refine wpL_storeRow (cells := #[c0, c1, c2, c3, c4]) (b := wr.heap.size) rfl 183 _ _ rfl Tryz.size183 rfl rfl (alloc_new wr _ rfl) rfl (by simpa using hone'.out) ?_; intro w5 h5 g5; have hEx : Ext wr w5 := ((Ext.refl wr).push _).grown g5 (fun k hk => by cases hk; exact Nat.le_refl _); have s0 : w5.cell? ⟨wr.heap.size, 0, none⟩ = some (c0) := cells_of h5 0; have s1 : w5.cell? ⟨wr.heap.size, 1, none⟩ = some (c1) := cells_of h5 1; have s2 : w5.cell? ⟨wr.heap.size, 2, none⟩ = some (c2) := cells_of h5 2; have s3 : w5.cell? ⟨wr.heap.size, 3, none⟩ = some (c3) := cells_of h5 3; have s4 : w5.cell? ⟨wr.heap.size, 4, none⟩ = some (c4) := cells_of h5 4; clear q0 q1 q2 q3 q4 h5 g5) | (refine wpL_storeRow (cells := #[c0, c1, c2, c3]) (b := w5.heap.size) rfl 89 _ _ rfl Tryz.size89 rfl rfl (alloc_new w5 _ rfl) rfl (by simpa using hone4.out) ?_; intro w6 h6 g6; have hEx6 : Ext w5 w6 := ((Ext.refl w5).push _).grown g6 (fun k hk => by cases hk; exact Nat.le_refl _); have p0 : w6.cell? ⟨w5.heap.size, 0, none⟩ = some (c0) := cells_of h6 0; have p1 : w6.cell? ⟨w5.heap.size, 1, none⟩ = some (c1) := cells_of h6 1; have p2 : w6.cell? ⟨w5.heap.size, 2, none⟩ = some (c2) := cells_of h6 2; have p3 : w6.cell? ⟨w5.heap.size, 3, none⟩ = some (c3) := cells_of h6 3; replace s4 := hEx6.keep s4; clear s0 s1 s2 s3 h6 g6))
      refine wp_region_script [0, 1, 2, 3, 6] [4, 5] (fun w' => w'.cell? ⟨wr.heap.size, 4, none⟩ = some c4 ∧ w'.cell? ⟨w5.heap.size, 0, none⟩ = some c0 ∧ w'.cell? ⟨w5.heap.size, 1, none⟩ = some c1 ∧ w'.cell? ⟨w5.heap.size, 2, none⟩ = some c2 ∧ w'.cell? ⟨w5.heap.size, 3, none⟩ = some c3) [(.pure, 0), (.read, 1), (.pure, 2), (.read, 3), (.pure, 6), (.one, 4), (.one, 5), (.one, 7)] (by kernel_rfl) (by kernel_rfl) ?_
      have hEC : Ext w6 w6.drew := (Ext.refl _).drew
      replace s4 := hEC.keep s4; replace p0 := hEC.keep p0; replace p1 := hEC.keep p1; replace p2 := hEC.keep p2; replace p3 := hEC.keep p3
      have hC := And.intro s4 (And.intro p0 (And.intro p1 (And.intro p2 p3)))
      (apply scr_pure'; (· rfl); (· rfl); (· (intro w'; go_simp; try rfl)); (· (simp [go_sem]; try rfl)))
      (apply scr_read'; (· rfl); (· rfl); (· exact hC); (· (intro w' hw'; obtain ⟨s4_, p0_, p1_, p2_, p3_⟩ := hw'; go_simp; try rfl)); (· (simp [go_sem]; try rfl)))
      (apply scr_pure'; (· rfl); (· rfl); (· (intro w'; go_simp; try rfl)); (· (simp [go_sem]; try rfl)))
      (apply scr_read'; (· rfl); (· rfl); (· exact hC); (· (intro w' hw'; obtain ⟨s4_, p0_, p1_, p2_, p3_⟩ := hw'; go_simp; try rfl)); (· (simp [go_sem]; try rfl)))
      (apply scr_pure'; (· rfl); (· rfl); (· (intro w'; go_simp; try rfl)); (· (simp [go_sem]; try rfl)))
      refine scr_one rfl rfl (fun K hK => ?_)
      go_simp
      have hEp : Ext w6.drew (w6.drew.alloc (.cells #[c0, c1, c2, c3] 89)) := (Ext.refl _).push _
      refine hK _ _ (fun _ => ⟨hEp.keep s4, hEp.keep p0, hEp.keep p1, hEp.keep p2, hEp.keep p3⟩) ?_
      clear hK hEp hC
      have hEd := Lib.hid ((hEx.trans hEx6).drew)
      have hD1 : ∀ b ∈ vb pv ++ (O1 ++ Z), b ∈ vb pv ++ (O ++ Z) ∨ w.heap.size ≤ b := fun b hb => by
        simp only [List.mem_append] at hb ⊢
        rcases hb with hb | hb | hb
        · exact .inl (.inl hb)
        · exact (hO1.out b hb).imp (fun h => .inr (.inl h)) id
        · exact .inl (.inr (.inr hb))
      have hrowr : Row kPe 89 wr (O1 ++ Z) pv pre := by
        obtain ⟨rows, k1, k2, k3⟩ := hrow'.out.ex
        refine ⟨rows, hown.out _ k1, k2.imp fun _ _ h => kPe.mv h (hM.out.mvTo hsub hD1), fun g hg h => ?_⟩
        rcases List.mem_append.1 h with h | h
        · exact (hO1.out g h).elim (fun h => k3 g hg (List.mem_append_left _ h)) (fun h => by have := hrow'.out.lt hg; omega)
        · exact k3 g hg (List.mem_append_right _ h)
      have hnx : ∀ b ∈ vb pv, b ∉ O1 := fun b hb hO => by
        have := hrowr.notin (List.mem_append_left _ hO)
        simp [vb] at hb
        exact this hb.symm
      have hold1 : Old (O1 ++ Z) wr := fun b hb => (List.mem_append.1 hb).elim (hV'.out.old hi1.out b) (fun h => Nat.lt_of_lt_of_le (hZ'.out b h) hM.out.size)
      have her : kPe.is wr (vb pv ++ (O1 ++ Z)) [c0, c1, c2, c3] (cs[m]'hlt).1 := kPe.mv hpc'.out (hM.out.mvTo hsub hD1)
      have hbn : (pre.length + 1) * 32 ≤ 140737488351232 := by
        obtain ⟨q, hq⟩ := List.exists_mem_of_ne_nil _ (hne'.out _ (List.getElem_mem hlt))
        have := hbytes'.out _ (List.getElem_mem hlt) q hq
        omega
      have hlt6 : wr.heap.size < w6.heap.size ∧ w5.heap.size < w6.heap.size := ⟨lt_of_cell' s4, lt_of_cell' p0⟩
      refine scr_one rfl rfl (fun K hK => ?_)
      refine wp_rowAppK (c := #[c0, c1, c2, c3]) hrowr hEd.out (hold1.le hEd.out.size) (kPe.mv her (hEd.out.mv _)) _ _ _ rfl Tryz.underlying176 Tryz.info89 rfl (by decide) (by go_simp) (by go_simp) (Nat.le_trans hbn (by decide)) (by rw [maxLen_eq]; omega) ?_
      intro v' w7 ys hr7 hg7 hne7 hd7 ho7 hback hall7
      obtain ⟨Zn, hrn, hz1, hz2⟩ := row_next hr7 (by simp) hall7
      have hM7 : Mut wr (vb pv) w7 := (hEd.out.mut (vb pv)).trans ⟨hg7.os, hg7.tape, hg7.output, hg7.size, fun j hj hx => hg7.block j hj (fun e => hx (by simp [vb, ← e]))⟩
      have hi7 : Inv _ O1 (vb v' ++ Zn) w7 := hV'.out.grow hi1.out hM7 (fun b hb => List.mem_append_left _ hb) (fun b hb => by
        rcases List.mem_append.1 hb with hb | hb
        · exact (hd7 b (by simpa [vb] using hb)).imp (fun h => List.mem_append_left _ (by simp [vb, h])) (fun h => Nat.le_trans hEd.out.size h)
        · exact .inl (hz1 b hb))
      have hz7 : Old Zn w7 := fun b hb => by
        rcases List.mem_append.1 (hz1 b hb) with hb | hb
        · exact Nat.lt_of_lt_of_le (hrowr.lt (by simpa [vb] using hb)) hM7.size
        · exact Nat.lt_of_lt_of_le (hZ'.out b hb) (Nat.le_trans hM.out.size hM7.size)
      have hrn' := Lib.hid hrn
      have hz1' := Lib.hid hz1
      have hz2' := Lib.hid hz2
      have hz7' := Lib.hid hz7
      have hnr : wr.heap.size ∉ vb pv := fun h => by
        have := hrowr.lt (show pv.ownBlock = some wr.heap.size by simpa [vb] using h)
        omega
      have hn5 : w5.heap.size ∉ vb pv := fun h => by
        have := hrowr.lt (show pv.ownBlock = some w5.heap.size by simpa [vb] using h)
        have := hEx.size
        omega
      have hk7 : ∀ {b j : Nat} {u : Value}, b ∉ vb pv → w6.drew.cell? ⟨b, j, none⟩ = some u → w7.cell? ⟨b, j, none⟩ = some u := fun {b j u} hb hc =>
        (((Mv.refl w6.drew (vb pv)).grown hg7 (fun g hg => by simp [vb, hg])).cell hb hc).1
      have hC7 := And.intro (hk7 hnr s4) (And.intro (hk7 hn5 p0) (And.intro (hk7 hn5 p1) (And.intro (hk7 hn5 p2) (hk7 hn5 p3))))
      have hvo7 := hr7.one
      have hr7' := Lib.hid hr7
      have hd7' := Lib.hid hd7
      have ho7' := Lib.hid ho7
      have hback' := Lib.hid hback
      have hM7' := Lib.hid hM7
      have hi7' := Lib.hid hi7
      have hnx' := Lib.hid hnx
      have hEs := Lib.hid (show wr.heap.size ≤ w6.drew.heap.size from hEd.out.size)
      have hrowr' := Lib.hid hrowr
      refine hK _ _ (fun _ => hC7) ?_
      clear hK hrn hz1 hz2 hall7 hD1 hr7 hd7 ho7 hback hM7 hi7 hz7 hg7 hne7 hnx hC7 hk7 s4 p0 p1 p2 p3 hnr hn5 hrowr hold1 her hbn hlt6 hEx hEx6 hEC hEd
      refine scr_one rfl rfl (fun K hK => ?_)
      go_simp
      obtain ⟨cm, hcm⟩ : ∃ cm, cs[m]'hlt = cm := ⟨_, rfl⟩
      have hfl : ∀ (g : PEl × St → List (List PEl)), cs.flatMap g = (cs.take m).flatMap g ++ (g cm ++ (cs.drop (m + 1)).flatMap g) := fun g => by
        have e : cs = cs.take m ++ cm :: cs.drop (m + 1) := by rw [← hcm, ← List.drop_eq_getElem_cons hlt, List.take_append_drop]
        exact (congrArg (List.flatMap g) e).trans (by simp [List.flatMap_append])
      have hft : ∀ (g : PEl × St → List (List PEl)), (cs.take (m + 1)).flatMap g = (cs.take m).flatMap g ++ g cm := fun g => by
        rw [List.take_succ_eq_append_getElem hlt, hcm, List.flatMap_append]; simp
      have hsg := hseg'.out
      rw [hfl, List.map_append, List.map_append] at hsg
      have hsg2 := hsg.right.left
      rw [List.length_map, List.map_map, show ((fun x => pre ++ x) ∘ fun x => cm.1 :: x) = fun x => (pre ++ [cm.1]) ++ x by funext q; simp] at hsg2
      have hmem : cm ∈ cs := by rw [← hcm]; exact List.getElem_mem hlt
      rw [hcm] at hpc' hsc'
      have hM7w : Mut w (vb pv ++ O) w7 := hM.out.thenNew hM7'.out fun k hk => .inl (List.mem_append_left _ hk)
      have hv7 : ∀ b ∈ vb v' ++ O1, b ∈ vb pv ++ O ∨ w.heap.size ≤ b := fun b hb => by
        rcases List.mem_append.1 hb with hb | hb
        · rcases hd7'.out b (by simpa [vb] using hb) with h | h
          · exact .inl (List.mem_append_left _ (by simp [vb, h]))
          · exact .inr (Nat.le_trans hM.out.size (Nat.le_trans hEs.out h))
        · exact (hO1.out b hb).imp (fun h => List.mem_append_right _ h) id
      have hv7z : ∀ b ∈ vb v' ++ (O1 ++ Zn), b ∈ vb pv ++ (O ++ Z) ∨ w.heap.size ≤ b := fun b hb => by
        rcases List.mem_append.1 hb with hb | hb
        · exact (hv7 b (List.mem_append_left _ hb)).imp (hsub b) id
        · rcases List.mem_append.1 hb with hb | hb
          · exact (hv7 b (List.mem_append_right _ hb)).imp (hsub b) id
          · refine .inl ?_
            have := hz1'.out b hb
            simp only [List.mem_append] at this ⊢
            exact this.imp id .inr
      have hr7 := hrn'.out
      rw [hcm] at hr7
      refine ih'.out (G := G) ((kSt d).mv hsc'.out (hM7w.mvTo hsub hv7z)) (hwf'.out cm hmem) hr7 hz7'.out hi7'.out hsg2 (fun q hq => ?_) _ ?_
      · have := hbytes'.out cm hmem q hq
        simp only [List.length_append, List.length_cons, List.length_nil]
        omega
      intro w8 O8 hM8 hO8 hi8 hown8
      have hM8w : Mut w (vb pv ++ O) w8 := hM7w.thenNew hM8 hv7
      have hO8w : ∀ b ∈ O8, b ∈ O ∨ w.heap.size ≤ b := fun b hb => by
        rcases hO8 b hb with h | h
        · exact hO1.out b h
        · exact .inr (Nat.le_trans hM7w.size h)
      have hown8w : ∀ xs, Own w 89 4 pv pre.length xs → Own w8 89 4 pv pre.length xs := fun xs hxs =>
        hback'.out w8 xs (hown.out xs hxs) (by have := hown8 ys (by rw [List.length_append]; exact ho7'.out); rw [List.length_append] at this; exact this) fun g hg hne => by
          have hgp : g ∈ vb pv := by simp [vb, hg]
          refine hM8.block g (Nat.lt_of_lt_of_le (hrowr'.out.lt hg) hM7'.out.size) fun h => ?_
          rcases List.mem_append.1 h with h | h
          · exact hne (by simpa [vb] using h)
          · exact hnx'.out g hgp h
      have hi8w : Inv (j + ((cs.take (m + 1)).flatMap fun p => p.2.paths.map (p.1 :: ·)).length) O8 (vb pv ++ Z) w8 := by
        rw [hft, List.length_append, ← Nat.add_assoc, List.length_map]
        exact hV'.out.grow hi8 ((Ext.refl w8).mut []) (by simp) (fun b hb => .inl (hz2'.out b hb))
      have hM8' := Lib.hid hM8w
      have hO8' := Lib.hid hO8w
      have hown8' := Lib.hid hown8w
      have hi8' := Lib.hid hi8w
      refine hK _ _ (fun h => by simp at h) ?_
      clear hK hM8 hO8 hi8 hown8 hM8w hO8w hown8w hi8w hM7w hv7 hv7z hsg hsg2 hfl hft hr7
      refine scr_end ?_
      go_wp2_with fail
      go_roundw
      case rel => exact ⟨m + 1, O8, by omega, by go_num, hM8', hO8', hi8', hown8'⟩
      case measure => simp [intOf]; omega
    · have ek : m = cs.length := by omega
      subst ek
      have hi2 : ¬ (cs.length : Int) < (cs.length : Int) := by omega
      have hi1' := hi1.out
      rw [List.take_of_length_le (Nat.le_refl _)] at hi1'
      have hfin := Lib.hid hi1'
      clear hi1 hi1'
      go_wp2_with fail
      exact bodyPost_end (by simp [results, Tryz.results180, go_sem]) rfl (hR'.out wr O1 hM.out hO1.out hfin.out hown.out)

set_option maxRecDepth 100000 in
set_option maxHeartbeats 4000000 in
set_option pp.maxSteps 1000000 in
set_option pp.deepTerms true in
theorem itp_step (hV : PVisit F cap Inv ps) {d : Nat} (ih : ItpC F cap Inv ps (kSt d)) : ItpC F cap Inv ps (kSt (d + 1)) := by
  intro w O Z j pv pre sv s G hs hwf hrow hZ hinv hseg hbytes R hR
  have hXO := hV.old hinv
  have hX : Old (O ++ Z) w := fun b hb => (List.mem_append.1 hb).elim (hV.old hinv b) (hZ b)
  have hsub : ∀ b ∈ vb pv ++ O, b ∈ vb pv ++ (O ++ Z) := fun b hb => by simp only [List.mem_append] at hb ⊢; exact hb.imp id .inl
  obtain ⟨b, vm, vc, hsv, hbX, c0, c1, hms, hcs⟩ := hs
  cases hsv
  obtain ⟨s1, s2, s3, s4, s5, s6⟩ := Tr.wf_parts hwf
  rw [Tr.paths_eq, List.map_append] at hseg
  have hZ' := Lib.hid hZ
  have hV' := Lib.hid hV
  have hR' := Lib.hid hR
  have hX' := Lib.hid hX
  have hrow' := Lib.hid hrow
  have hinv' := Lib.hid hinv
  have hs5 := Lib.hid s5
  have hs6 := Lib.hid s6
  have hseg' := Lib.hid hseg
  have hbytes' := Lib.hid hbytes
  have hms' := Lib.hid hms
  have hcs' := Lib.hid hcs
  have hbX' := Lib.hid hbX
  have ih' : Hid (ItpC F cap Inv ps (kSt d)) := Lib.hid ih
  have hpvo := hrow.one
  have hmf : ∀ (fn : Fn) (first cap : Array Value) (w : World), (Instr.makeFunc fn first cap).run Tryz.prog w = .ok (.func fn first cap) w := fun _ _ _ _ => rfl
  clear hR hX hrow hbytes hV hinv hseg ih s1 s2 s3 s4 s5 s6 hwf hms hcs hbX
  go_enter Tryz.func151, Tryz.ntmps151
  go_wp2_with fail
  refine abs2 (G := fun wr => Calls _ _ _ wr _) ?_
  intro w1 hE1 hb1 hb2 hs1
  have hfb : w.heap.size + 1 ∉ vb pv ++ O := fun h => by
    rcases List.mem_append.1 h with h | h
    · have := hrow'.out.lt (show pv.ownBlock = some (w.heap.size + 1) by simpa [vb] using h); omega
    · have := hX'.out _ (List.mem_append_left _ h); omega
  have hpb : w.heap.size ∉ vb pv ++ O := fun h => by
    rcases List.mem_append.1 h with h | h
    · have := hrow'.out.lt (show pv.ownBlock = some w.heap.size by simpa [vb] using h); omega
    · have := hX'.out _ (List.mem_append_left _ h); omega
  have hDx : ∀ {w0 : World} {O1 : List Nat}, w.heap.size ≤ w0.heap.size → (∀ b ∈ O1, b ∈ O ∨ w0.heap.size ≤ b) → ∀ b ∈ vb pv ++ (O1 ++ Z), b ∈ vb pv ++ (O ++ Z) ∨ w0.heap.size ≤ b := fun {w0 O1} _ hO1 b hb => by
    simp only [List.mem_append] at hb ⊢
    rcases hb with hb | hb | hb
    · exact .inl (.inl hb)
    · exact (hO1 b hb).imp (fun h => .inr (.inl h)) id
    · exact .inl (.inr (.inr hb))
  have hrowx : ∀ {wa : World} {O1 : List Nat}, Mut w (vb pv ++ O) wa → (∀ b ∈ O1, b ∈ O ∨ w.heap.size ≤ b) → (∀ xs, Own w 89 4 pv pre.length xs → Own wa 89 4 pv pre.length xs) → Row kPe 89 wa (O1 ++ Z) pv pre := fun {wa O1} hM hO1 hown => by
    obtain ⟨rows, k1, k2, k3⟩ := hrow'.out.ex
    refine ⟨rows, hown _ k1, k2.imp fun _ _ h => kPe.mv h (hM.mvTo hsub (hDx (Nat.le_refl _) hO1)), fun g hg h => ?_⟩
    rcases List.mem_append.1 h with h | h
    · exact (hO1 g h).elim (fun h => k3 g hg (List.mem_append_left _ h)) (fun h => by have := hrow'.out.lt hg; omega)
    · exact k3 g hg (List.mem_append_right _ h)
  have hw1 : w.heap.size + 1 < w1.heap.size := by omega
  have hvis : PeVisit w1 (vb pv ++ (O ++ Z)) (vb pv ++ O) (Tr.ms s) 179 #[.pointer (some ⟨w.heap.size + 1, 0, none⟩), .pointer (some ⟨w.heap.size, 0, none⟩)] (fun k wr => ∃ O1, Mut w1 (vb pv ++ O) wr ∧ (∀ b ∈ O1, b ∈ O ∨ w1.heap.size ≤ b) ∧ Inv (j + k) O1 (vb pv ++ Z) wr ∧ ∀ xs, Own w1 89 4 pv pre.length xs → Own wr 89 4 pv pre.length xs) := by
    refine ⟨⟨O, (Ext.refl w1).mut _, fun b hb => .inl hb, hV'.out.ext hinv'.out hE1, fun xs h => h⟩, ?_, ?_, callFunc_itp1⟩
    · rintro k wa wb ⟨O1, h1, h2, h3, h4⟩ hE
      exact ⟨O1, h1.thenNew (hE.mut []) (by simp), h2, hV'.out.ext h3 hE, fun xs hxs => (h4 xs hxs).ext hE⟩
    · rintro k hk wa cs ⟨O1, h1, h2, h3, h4⟩ hM hcs K hK
      have hMa : Mut w (vb pv ++ O) wa := (hE1.mut _).trans h1
      have h2' : ∀ b ∈ O1, b ∈ O ∨ w.heap.size ≤ b := fun b hb => (h2 b hb).imp id (fun h => Nat.le_trans hE1.size h)
      have hfa : wa.cell? ⟨w.heap.size + 1, 0, none⟩ = some (.func (.func F) #[] cap) := cells_of ((h1.block _ (by omega) hfb).trans hb2) 0
      have hpa : wa.cell? ⟨w.heap.size, 0, none⟩ = some pv := cells_of ((h1.block _ (by omega) hpb).trans hb1) 0
      have hpk : ps[j + k]? = some (pre ++ [(Tr.ms s)[k]]) := by
        have := hseg'.out.left.get (i := k) (by simpa using hk)
        simpa using this
      have hby : (pre.length + 1) * 32 ≤ 140737488351232 := by
        have := hbytes'.out [(Tr.ms s)[k]] (by rw [Tr.paths_eq]; exact List.mem_append_left _ (List.mem_map.2 ⟨_, List.getElem_mem hk, rfl⟩))
        simpa using this
      refine itp1_c hV'.out (hZ'.out.le hMa.size) hfa hpa (fun h => hfb (List.mem_append_left _ h)) (fun h => hpb (List.mem_append_left _ h)) (hrowx hMa h2' (fun xs hxs => h4 xs (hxs.ext hE1))) h3 (kPe.mv hcs (h1.mvTo hsub (hDx hE1.size h2))) hpk hby _ ?_
      intro wb O2 k1 k2 k3 k4
      have k1' : Mut w1 (vb pv ++ O) wb := h1.thenNew k1 fun b hb => (List.mem_append.1 hb).elim (fun h => .inl (List.mem_append_left _ h)) (fun h => (h2 b h).imp (fun h => List.mem_append_right _ h) id)
      exact hK wb k1' ⟨O2, k1', fun b hb => (k2 b hb).elim (h2 b) (fun h => .inr (Nat.le_trans h1.size h)), k3, fun xs hxs => k4 xs (h4 xs hxs)⟩
  refine peIterate_c (hE1.keep c0) (hms'.out.mv (hE1.mv _) (by decide)) hsub hvis _ ?_
  rintro w2 hM2 ⟨O1, -, hO1, hi2, hown2⟩
  have hM2w : Mut w (vb pv ++ O) w2 := (hE1.mut _).trans hM2
  have hO1w : ∀ b ∈ O1, b ∈ O ∨ w.heap.size ≤ b := fun b hb => (hO1 b hb).imp id (fun h => Nat.le_trans hE1.size h)
  have hrow2 := hrowx hM2w hO1w (fun xs hxs => hown2 xs (hxs.ext hE1))
  have f0 : w2.cell? ⟨w.heap.size + 1, 0, none⟩ = some (.func (.func F) #[] cap) := cells_of ((hM2.block _ (by omega) hfb).trans hb2) 0
  have p0 : w2.cell? ⟨w.heap.size, 0, none⟩ = some pv := cells_of ((hM2.block _ (by omega) hpb).trans hb1) 0
  have b1 : w2.cell? ⟨b, 1, none⟩ = some vc := (hM2w.mvTo (X := vb pv ++ (O ++ Z)) (Y := []) hsub (by simp)).cell hbX'.out c1 |>.1
  have hM2' := Lib.hid hM2w
  have hO1' := Lib.hid hO1w
  have hi2' := Lib.hid hi2
  have hown2' := Lib.hid (show ∀ xs, Own w 89 4 pv pre.length xs → Own w2 89 4 pv pre.length xs from fun xs hxs => hown2 xs (hxs.ext hE1))
  have hrow2' := Lib.hid hrow2
  have hD3' := Lib.hid (hDx (w0 := w) (Nat.le_refl _) hO1w)
  clear hvis hM2 hO1 hi2 hown2 hM2w hO1w hrow2 hrowx hDx hfb hpb hb1 hb2 hs1 hw1 c0 c1 hE1 hmf
  dsimp only
  go_wp2_with fail
  refine wp_region_script [0, 1, 2, 3, 4] [] (fun w' => Ext w2 w') [(.pure, 0), (.pure, 1), (.pure, 2), (.read, 3), (.read, 4), (.one, 5)] (by kernel_rfl) (by kernel_rfl) ?_
  have hC : Ext w2 w2.drew := (Ext.refl _).drew
  iterate 3 (apply scr_pure'; (· rfl); (· rfl); (· (intro w'; go_simp; try rfl)); (· (simp [go_sem]; try rfl)))
  (apply scr_read'; (· rfl); (· rfl); (· first | exact hC | exact (Ext.refl _).drew); (· (intro w' hw'; have p0_ := hw'.keep p0; go_simp; try rfl)); (· (simp [go_sem]; try rfl)))
  (apply scr_read'; (· rfl); (· rfl); (· first | exact hC | exact (Ext.refl _).drew); (· (intro w' hw'; have f0_ := hw'.keep f0; go_simp; try rfl)); (· (simp [go_sem]; try rfl)))
  refine scr_one rfl rfl (fun K hK => ?_)
  go_simp
  have hC' := Lib.hid hC
  have hsg := hseg'.out.right
  rw [List.length_map, List.length_map] at hsg
  refine itpNodes_c hV'.out ih'.out (hZ'.out.le (Nat.le_trans hM2'.out.size hC.size)) (hC.keep b1) (hcs'.out.mv ((hM2'.out.mvTo hsub hD3'.out).ext hC) (by rw [kNd_size]; decide)) hs6.out hs5.out (hrow2'.out.ext hC) (hV'.out.ext hi2'.out hC) hsg (fun p hp q hq => ?_) _ ?_
  · have := hbytes'.out (p.1 :: q) (by rw [Tr.paths_eq]; exact List.mem_append_right _ (List.mem_flatMap.2 ⟨p, hp, List.mem_map.2 ⟨q, hq, rfl⟩⟩))
    simp only [List.length_cons] at this
    omega
  intro w3 O3 hM3 hO3 hi3 hown3
  refine hK _ _ (fun h => by simp at h) ?_
  clear hK
  refine scr_end ?_
  refine bodyPost_end (by simp [results, Tryz.results151, go_sem]) rfl (hR'.out w3 O3 ?_ ?_ ?_ ?_)
  · exact (hM2'.out.thenNew (hC'.out.mut []) (by simp)).thenNew hM3 fun b hb => (List.mem_append.1 hb).elim (fun h => .inl (List.mem_append_left _ h)) (fun h => (hO1'.out b h).imp (fun h => List.mem_append_right _ h) id)
  · intro b hb
    rcases hO3 b hb with h | h
    · exact hO1'.out b h
    · exact .inr (Nat.le_trans hM2'.out.size (Nat.le_trans hC'.out.size h))
  · rw [Tr.paths_eq, List.length_append, List.length_map, ← Nat.add_assoc]
    exact hi3
  · exact fun xs hxs => hown3 xs ((hown2'.out xs hxs).ext hC'.out)
theorem itp_all (hV : PVisit F cap Inv ps) : ∀ d, ItpC F cap Inv ps (kSt d)
  | 0 => fun h => False.elim h
  | d + 1 => itp_step hV (itp_all hV d)
end
end Go.Proofs.YtihapgangilncaaGreat
