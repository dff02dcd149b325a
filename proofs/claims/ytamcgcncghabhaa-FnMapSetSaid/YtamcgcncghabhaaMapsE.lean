/- value.MapEquals: the walk over two maps in no order. -/
import Derived.Test.YtamcgcncghabhaaMaps
namespace Go.Proofs.Ytamcgcncghabhaa
open Go.RowKit
set_option linter.unusedSimpArgs false

theorem abs4 {w : World} {o1 o2 o3 o4 : Obj} {G : World → Prop} (h : ∀ w1, Ext w w1 → w1.heap[w.heap.size]? = some o1 → w1.heap[w.heap.size + 1]? = some o2 → w1.heap[w.heap.size + 2]? = some o3 → w1.heap[w.heap.size + 3]? = some o4 → w1.heap.size = w.heap.size + 4 → G w1) : G ((((w.alloc o1).alloc o2).alloc o3).alloc o4) :=
  h _ ((((Ext.alloc _ _).push _).push _).push _) (by show ((((w.heap.push _).push _).push _).push _)[_]? = _; rw [push_get, if_neg (by simp <;> omega), push_get, if_neg (by simp <;> omega), push_get, if_neg (by simp), push_get, if_pos rfl])
    (by show ((((w.heap.push _).push _).push _).push _)[_]? = _; rw [push_get, if_neg (by simp <;> omega), push_get, if_neg (by simp), push_get, if_pos (by simp)])
    (by show ((((w.heap.push _).push _).push _).push _)[_]? = _; rw [push_get, if_neg (by simp), push_get, if_pos (by simp)]) (by show ((((w.heap.push _).push _).push _).push _)[_]? = _; rw [push_get, if_pos (by simp)]) (by simp)

def qE (o p : Option T) : Bool := match o, p with
  | some x, some y => eqT x y
  | _, _ => false

set_option maxRecDepth 100000 in
set_option maxHeartbeats 1000000 in
theorem fnE_c {w : World} {X : List Nat} {b3 : Nat} {al va vb : Value} {k : ByteArray} {o p : Option T} (hal : IsAl al) (ca : w.cell? ⟨b3, 0, none⟩ = some al) (ho : OptVal w X va o) (hp : OptVal w X vb p)
    (K : Ending → World → Prop) (hK : ∀ w2, Ext w w2 → K (.returned (.bool (qE o p))) w2) :
    Calls Try.prog 97 #[.string k, va, vb, .pointer (some ⟨b3, 0, none⟩)] w K := by
  have ho' := Lib.hid ho
  have hp' := Lib.hid hp
  have hK' := Lib.hid hK
  clear ho hp hK
  cases o with
  | none =>
    have hva : va = .nilIface := ho'.out
    subst hva
    go_enter Try.func97, Try.ntmps97
    go_wp2_with fail
    exact hK'.out _ (Ext.refl _)
  | some x =>
    obtain ⟨pa, xa, rfl, -⟩ := IsVal.ex ho'.out
    cases p with
    | none =>
      have hvb : vb = .nilIface := hp'.out
      subst hvb
      go_enter Try.func97, Try.ntmps97
      go_wp2_with fail
      exact hK'.out _ (Ext.refl _)
    | some y =>
      obtain ⟨pb, xb, rfl, -⟩ := IsVal.ex hp'.out
      go_enter Try.func97, Try.ntmps97
      go_wp2_with fail
      refine equals_c y w X X x _ _ _ ho'.out hp'.out hal _ ?_
      intro w2 hE2
      dsimp only
      go_wp2_with fail
      exact hK'.out _ hE2

set_option maxRecDepth 100000 in
theorem callFunc_fnE (args : Array Value) (w : World) : (callFunc 97 args).run Try.prog w = .ok (.enter 97 args) w := rfl
set_option maxRecDepth 100000 in
theorem callFunc_un1 (args : Array Value) (w : World) : (callFunc 160 args).run Try.prog w = .ok (.enter 160 args) w := rfl
set_option maxRecDepth 100000 in
theorem callFunc_un2 (args : Array Value) (w : World) : (callFunc 161 args).run Try.prog w = .ok (.enter 161 args) w := rfl

abbrev fnV (b3 : Nat) : Value := .func (.func 97) #[] #[.pointer (some ⟨b3, 0, none⟩)]

set_option maxRecDepth 100000 in
set_option maxHeartbeats 2000000 in
theorem un1_c {w : World} {b3 b4 b6 b7 r2 : Nat} {al val : Value} {k : ByteArray} {t : T} {Q : EntsOfT T} (hal : IsAl al) (ca : w.cell? ⟨b3, 0, none⟩ = some al) (c4 : w.cell? ⟨b4, 0, none⟩ = some al) (c6 : w.cell? ⟨b6, 0, none⟩ = some (.iface 178 (.map (some r2)))) (c7 : w.cell? ⟨b7, 0, none⟩ = some (fnV b3))
    (h2 : IsTm w [] r2 Q) (hval : IsVal w [] val t) (K : Ending → World → Prop) (hK : ∀ w2, Ext w w2 → K (.returned (.bool (qE (some t) (getEnt k Q)))) w2) :
    Calls Try.prog 160 #[.string k, val, .pointer (some ⟨b6, 0, none⟩), .pointer (some ⟨b4, 0, none⟩), .pointer (some ⟨b7, 0, none⟩)] w K := by
  obtain ⟨ab, rfl⟩ := hal
  have h2' := Lib.hid h2
  have hval' := Lib.hid hval
  have hone := hval.one
  have hK' := Lib.hid hK
  clear hK h2 hval
  cases hg : getEnt k Q with
  | none =>
    have hg' := Lib.hid hg
    clear hg
    go_enter_defers Try.func160, Try.ntmps160
    go_wp2_with fail
    refine getUsing_c (X := []) h2'.out (Old.nil _) ⟨ab, rfl⟩ _ ?_
    rw [hg'.out]
    intro w1 v hE1 hv
    replace ca := hE1.keep ca
    replace c4 := hE1.keep c4
    replace c7 := hE1.keep c7
    have hvn : v = .nilIface := hv
    subst hvn
    clear hv
    dsimp only [Option.isSome]
    go_wp2_with fail
    refine fnE_c (X := []) (o := some t) (p := none) ⟨ab, rfl⟩ ca (hval'.out.mv (hE1.mv [])) rfl _ ?_
    intro w2 hE2
    have hfin := hK'.out w2 (hE1.trans hE2)
    rw [hg'.out] at hfin
    have hfin' := Lib.hid hfin
    clear hfin
    dsimp only
    go_wp2_with fail
    exact leaves_free (by simp [results, Try.results160, go_sem]; try rfl) hfin'.out _ (by simp [freeD])
  | some u =>
    have hg' := Lib.hid hg
    clear hg
    go_enter_defers Try.func160, Try.ntmps160
    go_wp2_with fail
    refine getUsing_c (X := []) h2'.out (Old.nil _) ⟨ab, rfl⟩ _ ?_
    rw [hg'.out]
    intro w1 v hE1 hv
    replace ca := hE1.keep ca
    replace c4 := hE1.keep c4
    replace c7 := hE1.keep c7
    obtain ⟨pv, xv, rfl, -⟩ := IsVal.ex hv
    have hv' := Lib.hid hv
    clear hv
    dsimp only [Option.isSome]
    go_wp2_with fail
    refine fnE_c (X := []) (o := some t) (p := some u) ⟨ab, rfl⟩ ca (hval'.out.mv (hE1.mv [])) hv'.out _ ?_
    intro w2 hE2
    have hfin := hK'.out w2 (hE1.trans hE2)
    rw [hg'.out] at hfin
    have hfin' := Lib.hid hfin
    clear hfin
    dsimp only
    go_wp2_with fail
    exact leaves_free (by simp [results, Try.results160, go_sem]; try rfl) hfin'.out _ (by simp [freeD])

set_option maxRecDepth 100000 in
set_option maxHeartbeats 2000000 in
theorem un2_c {w : World} {b3 b5 b7 r1 : Nat} {al val : Value} {k : ByteArray} {t : T} {P : EntsOfT T} (hal : IsAl al) (ca : w.cell? ⟨b3, 0, none⟩ = some al) (c5 : w.cell? ⟨b5, 0, none⟩ = some (.iface 178 (.map (some r1)))) (c7 : w.cell? ⟨b7, 0, none⟩ = some (fnV b3))
    (h1 : IsTm w [] r1 P) (hval : IsVal w [] val t) (K : Ending → World → Prop) (hK : ∀ w2, Ext w w2 → K (.returned (.bool (getEnt k P).isSome)) w2) :
    Calls Try.prog 161 #[.string k, val, .pointer (some ⟨b5, 0, none⟩), .pointer (some ⟨b7, 0, none⟩)] w K := by
  have h1' := Lib.hid h1
  have hval' := Lib.hid hval
  have hone := hval.one
  have hK' := Lib.hid hK
  clear hK h1 hval
  cases hg : (getEnt k P).isSome
  · have hg' := Lib.hid hg
    clear hg
    go_enter Try.func161, Try.ntmps161
    go_wp2_with fail
    refine mHas_c h1'.out _ ?_
    rw [hg'.out]
    dsimp only
    go_wp2_with fail
    refine fnE_c (X := []) (o := none) (p := some t) hal ca rfl hval'.out _ ?_
    intro w2 hE2
    have hfin := hK'.out w2 hE2
    rw [hg'.out] at hfin
    have hfin' := Lib.hid hfin
    clear hfin
    dsimp only
    go_wp2_with fail
    exact hfin'.out
  · have hg' := Lib.hid hg
    clear hg
    go_enter Try.func161, Try.ntmps161
    go_wp2_with fail
    refine mHas_c h1'.out _ ?_
    rw [hg'.out]
    have hfin := hK'.out w (Ext.refl _)
    rw [hg'.out] at hfin
    have hfin' := Lib.hid hfin
    clear hfin
    dsimp only
    go_wp2_with fail
    exact hfin'.out

/-- what the walk over two maps finds -/
structure ZE (P Q : EntsOfT T) : Prop where
  one : ∀ i (h : i < P.length), qE (some (P[i]).2) (getEnt (P[i]).1 Q) = true
  two : ∀ j (h : j < Q.length), (getEnt (Q[j]).1 P).isSome = true

theorem un1_visit {w : World} {b3 b4 b6 b7 r2 : Nat} {al : Value} {P Q : EntsOfT T} (hal : IsAl al) (ca : w.cell? ⟨b3, 0, none⟩ = some al) (c4 : w.cell? ⟨b4, 0, none⟩ = some al) (c6 : w.cell? ⟨b6, 0, none⟩ = some (.iface 178 (.map (some r2)))) (c7 : w.cell? ⟨b7, 0, none⟩ = some (fnV b3))
    (h2 : IsTm w [] r2 Q) : Visit w [] P 160 #[.pointer (some ⟨b6, 0, none⟩), .pointer (some ⟨b4, 0, none⟩), .pointer (some ⟨b7, 0, none⟩)]
      (fun _ don _ => ∀ i ∈ don, ∀ h : i < P.length, qE (some (P[i]).2) (getEnt (P[i]).1 Q) = true) (fun _ _ => ∃ i, ∃ h : i < P.length, qE (some (P[i]).2) (getEnt (P[i]).1 Q) = false) where
  start := fun B w1 hE _ i hi => by cases hi
  keep := fun B don w1 w2 hB h hM => h
  step := fun B don i hi w1 val hni hB hoB hM hinv hval K hK => by
    have hmv := hM.mv (X := []) (fun _ h => h)
    refine un1_c hal (hmv.cell (by simp) ca).1 (hmv.cell (by simp) c4).1 (hmv.cell (by simp) c6).1 (hmv.cell (by simp) c7).1 (h2.mv hmv) hval K fun w2 hE2 => ?_
    refine hK w2 _ (hM.trans (hE2.mut _)) hE2.size (fun k hk => hE2.below.block k (hoB k hk)) (fun hb j hj h => ?_) (fun hb => ⟨i, hi, hb⟩)
    rcases List.mem_append.1 hj with hj | hj
    · exact hinv j hj h
    · rw [List.mem_singleton] at hj; subst hj; exact hb
  enter := callFunc_un1
theorem un2_visit {w : World} {b3 b5 b7 r1 : Nat} {al : Value} {P Q : EntsOfT T} (hal : IsAl al) (ca : w.cell? ⟨b3, 0, none⟩ = some al) (c5 : w.cell? ⟨b5, 0, none⟩ = some (.iface 178 (.map (some r1)))) (c7 : w.cell? ⟨b7, 0, none⟩ = some (fnV b3))
    (h1 : IsTm w [] r1 P) : Visit w [] Q 161 #[.pointer (some ⟨b5, 0, none⟩), .pointer (some ⟨b7, 0, none⟩)]
      (fun _ don _ => ∀ i ∈ don, ∀ h : i < Q.length, (getEnt (Q[i]).1 P).isSome = true) (fun _ _ => ∃ i, ∃ h : i < Q.length, (getEnt (Q[i]).1 P).isSome = false) where
  start := fun B w1 hE _ i hi => by cases hi
  keep := fun B don w1 w2 hB h hM => h
  step := fun B don i hi w1 val hni hB hoB hM hinv hval K hK => by
    have hmv := hM.mv (X := []) (fun _ h => h)
    refine un2_c hal (hmv.cell (by simp) ca).1 (hmv.cell (by simp) c5).1 (hmv.cell (by simp) c7).1 (h1.mv hmv) hval K fun w2 hE2 => ?_
    refine hK w2 _ (hM.trans (hE2.mut _)) hE2.size (fun k hk => hE2.below.block k (hoB k hk)) (fun hb j hj h => ?_) (fun hb => ⟨i, hi, hb⟩)
    rcases List.mem_append.1 hj with hj | hj
    · exact hinv j hj h
    · rw [List.mem_singleton] at hj; subst hj; exact hb
  enter := callFunc_un2

@[go_sem] theorem meth_mEmpty (n r : Nat) (w : World) : (method (n + 1) 178 (.map (some r)) "Empty").run Try.prog w = .ok (144, .map (some r)) w := by kernel_rfl
theorem mEmpty_c {w : World} {r : Nat} {es : Ents} (hm : IsMap w r es) (R : Ending → World → Prop) (hR : R (.returned (.bool ((es.length : Int) == 0))) w) : Calls Try.prog 144 #[.map (some r)] w R := by
  have hl := run_len_ents (P := Try.prog) Try.underlying178 3 hm
  obtain ⟨b, hb⟩ : ∃ b, ((es.length : Int) == 0) = b := ⟨_, rfl⟩
  rw [hb] at hR
  have hR' := Lib.hid hR
  clear hR
  go_enter Try.func144, Try.ntmps144
  go_wp2_with fail
  exact hR'.out
end Go.Proofs.Ytamcgcncghabhaa
