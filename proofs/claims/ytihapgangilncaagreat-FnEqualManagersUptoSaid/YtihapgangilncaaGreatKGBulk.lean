/- Managers read out of arguments of a bulk that is bounded; the lift of a law's walk to the statement's second form. -/
import Derived.Test.YtihapgangilncaaGreatKGLaw
import Derived.Test.YtihapgangilncaaGreatKGSetP
import Derived.JoinedCond
namespace Go.Proofs.YtihapgangilncaaGreat
open Go.RowKit Go.Deep Go.ChangeShapes Go.WideShapes Go.ChangeAt
set_option linter.unusedSimpArgs false

theorem bulk_one {H : Type} (d : DataW H) : 1 ≤ Rows.uptoBulk d := by
  cases d with
  | lit l => cases l <;> simp [Rows.uptoBulk]
  | nil => simp [Rows.uptoBulk]
  | ptr d => simp [Rows.uptoBulk]
  | slice elems spare => simp [Rows.uptoBulk]
  | agg parts => simp [Rows.uptoBulk]
  | iface t d => simp [Rows.uptoBulk]
  | map entries => simp [Rows.uptoBulk]
  | held h => simp [Rows.uptoBulk]
theorem bulk_part {H : Type} {d : DataW H} {l : List (DataW H)} (h : d ∈ l) : Rows.uptoBulk d ≤ Rows.uptoBulkAll l := by
  induction l with
  | nil => cases h
  | cons x r ih =>
    simp only [Rows.uptoBulkAll]
    cases List.mem_cons.1 h with
    | inl e => subst e; omega
    | inr e => have := ih e; omega
theorem bulk_len {H : Type} (l : List (DataW H)) : l.length ≤ Rows.uptoBulkAll l := by
  induction l with
  | nil => simp
  | cons x r ih => have := bulk_one x; simp only [Rows.uptoBulkAll, List.length_cons]; omega

section
variable {H : Type} {enc : TypeId × Value → H} {w : World} {base : Nat} {spare : Nat → Bool} {held : Bool}
/-- as read_sl; the bulk of what is read bounds the slice's length and each element's bulk -/
theorem read_slB {α : Type} {k : Kind α} {bytes fuel N : Nat} {ts te : TypeId} (hk : 0 < k.size) (hT : Tryz.prog.underlying ts = some (.slice te)) (hsz : Tryz.prog.cellsOf te = k.size) (hby : Tryz.prog.bytesOf te = bytes)
    (IH : ∀ fuel', fuel' < fuel → ∀ (cs : List Value) (x : DataW H × List MemPlace), DataW.trod enc Tryz.prog w base spare held fuel' te cs = some x → (x.1.weights Tryz.prog te).all (· ≤ reachBytes) = true → Rows.uptoBulk x.1 ≤ N → ∃ u, k.is w [] cs u)
    {cs : List Value} {x : DataW H × List MemPlace} (h : DataW.trod enc Tryz.prog w base spare held fuel ts cs = some x) (hw : (x.1.weights Tryz.prog ts).all (· ≤ reachBytes) = true) (hB : Rows.uptoBulk x.1 ≤ N) : ∃ v us, cs = [v] ∧ IsSl k bytes w [] v us ∧ us.length ≤ N := by
  rcases DataW.trod_slice hT h with ⟨rfl, -⟩ | ⟨a, len, cap, elems, rest, n', hfe, rfl, rfl, -, hl, hm, hen, hel, -, -⟩
  · exact ⟨_, [], rfl, IsSl.nil _ _ _ _, Nat.zero_le _⟩
  · rw [DataW.weights, hT] at hw
    simp only [List.all_cons, List.all_append, Bool.and_eq_true, decide_eq_true_eq, List.length_map] at hw
    rw [hby, reach_eq] at hw
    simp only [Rows.uptoBulk] at hB
    have hbl := bulk_len (elems.map (·.1))
    rw [List.length_map] at hbl
    have hall : ∀ i, i < len → ∃ u : α, ∃ cs' : List Value, k.is w [] cs' u ∧ ∀ j, j < k.size → w.cell? ((a.add (i * k.size)).add j) = cs'[j]? := fun i hi => by
      have h6 := hel i hi
      rw [hsz, List.getElem?_eq_getElem (by omega)] at h6
      obtain ⟨cs', hc1, hc2⟩ := Option.bind_eq_some_iff.1 h6
      obtain ⟨-, -, hcc⟩ := World.cells?_some hc1
      have hwe := weightsAll_mem (P := Tryz.prog) (e := te) (p := fun x => decide (x ≤ reachBytes)) (d := (elems[i]'(by omega)).1) (l := elems.map (·.1)) (List.mem_map.2 ⟨_, List.getElem_mem _, rfl⟩) (by rw [reach_eq]; exact hw.2.1)
      have hbe := bulk_part (d := (elems[i]'(by omega)).1) (l := elems.map (·.1)) (List.mem_map.2 ⟨_, List.getElem_mem _, rfl⟩)
      obtain ⟨u, hu⟩ := IH n' (by omega) cs' _ hc2 hwe (by omega)
      exact ⟨u, cs', hu, hcc⟩
    have hfirst : ∀ i, i < len → a = ⟨a.block, a.off, none⟩ := fun i hi => by
      obtain ⟨u, cs', hu, hc⟩ := hall 0 (by omega)
      have hlc := k.len hu
      have h0 := hc 0 hk
      have e : (a.add (0 * k.size)).add 0 = a := by simp [Addr.add]
      rw [e, List.getElem?_eq_getElem (by omega)] at h0
      exact spot_none h0
    rcases Nat.eq_zero_or_pos len with h0 | h0
    · subst h0
      exact ⟨_, [], rfl, ⟨some a, cap, a.block, a.off, rfl, hl, by simp, fun h => by simp at h, fun i hi => by simp at hi⟩, Nat.zero_le _⟩
    have hne : Nonempty α := by obtain ⟨u, _⟩ := hall 0 h0; exact ⟨u⟩
    obtain ⟨f, hf⟩ : ∃ f : Nat → α, ∀ i, i < len → ∃ cs' : List Value, k.is w [] cs' (f i) ∧ ∀ j, j < k.size → w.cell? ((a.add (i * k.size)).add j) = cs'[j]? :=
      ⟨fun i => if h : i < len then Classical.choose (hall i h) else Classical.choice hne, fun i hi => by dsimp only; rw [dif_pos hi]; exact Classical.choose_spec (hall i hi)⟩
    refine ⟨_, (List.range len).map f, rfl, ⟨some a, cap, a.block, a.off, by simp, by simpa using hl, ?_, fun hp => ?_, fun i hi => ?_⟩, by simp only [List.length_map, List.length_range]; omega⟩
    · simp only [List.length_map, List.length_range]
      exact Nat.le_trans (Nat.mul_le_mul_right bytes (by omega)) hw.1
    · exact ⟨congrArg some (hfirst 0 (by simpa using hp)), by simp⟩
    · simp only [List.length_map, List.length_range] at hi
      obtain ⟨cs', hu, hc⟩ := hf i hi
      refine ⟨cs', fun j hj => ?_, by simpa using hu⟩
      have h1 := hc j hj
      rw [hfirst 0 (by omega), addr_add, addr_add] at h1
      exact h1
/-- as kMg; the set's list is no longer than N -/
def kMgN (N : Nat) : Kind Mg where
  size := 4
  is := fun w X cs m => kMg.is w X cs m ∧ m.set.length ≤ N
  mv := fun ⟨h, hn⟩ m => ⟨kMg.mv h m, hn⟩
  len := fun ⟨h, _⟩ => kMg.len h
  one := fun ⟨h, _⟩ => kMg.one h
theorem read_fieldsB {fuel : Nat} {cs : List Value} {x : DataW H × List MemPlace} {t : TypeId} {fs : Array Field} (hT : Tryz.prog.underlying t = some (.struct fs)) (h : DataW.trod enc Tryz.prog w base spare held fuel t cs = some x) (hw : (x.1.weights Tryz.prog t).all (· ≤ reachBytes) = true) :
    cs.length = Tryz.prog.cellsOf t ∧ ∃ n, n < fuel ∧ ∀ (i : Nat) (f : Field), fs[i]? = some f → ∃ y : DataW H × List MemPlace, DataW.trod enc Tryz.prog w base spare held n f.type ((cs.drop f.offset).take (Tryz.prog.cellsOf f.type)) = some y ∧ (y.1.weights Tryz.prog f.type).all (· ≤ reachBytes) = true ∧ Rows.uptoBulk y.1 ≤ Rows.uptoBulk x.1 := by
  obtain ⟨xs, n, rfl, rfl, hlen, hxl, hel⟩ := DataW.trod_struct hT h
  refine ⟨hlen, n, by omega, fun i f hf => ?_⟩
  have hi : i < fs.size := (Array.getElem?_eq_some_iff.1 hf).1
  have h1 := hel i f hf
  rw [List.getElem?_eq_getElem (by omega)] at h1
  refine ⟨_, h1, ?_, by simp only [Rows.uptoBulk]; exact Nat.le_trans (bulk_part (List.mem_map.2 ⟨_, List.getElem_mem _, rfl⟩)) (Nat.le_succ _)⟩
  rw [DataW.weights, hT] at hw
  have key : ∀ (ts : List TypeId) (ds : List (DataW H)), (DataW.weightsEach Tryz.prog ts ds).all (· ≤ reachBytes) = true → ∀ (i : Nat) (t : TypeId) (d : DataW H), ts[i]? = some t → ds[i]? = some d → (d.weights Tryz.prog t).all (· ≤ reachBytes) = true := by
    intro ts
    induction ts with
    | nil => intro ds _ i t d hi; simp at hi
    | cons t0 ts ih =>
      intro ds hds i t d hi hd
      cases ds with
      | nil => simp at hd
      | cons d0 ds =>
        simp only [DataW.weightsEach, List.all_append, Bool.and_eq_true] at hds
        cases i with
        | zero =>
          simp only [List.getElem?_cons_zero, Option.some.injEq] at hi hd
          subst hi hd
          exact hds.1
        | succ i => exact ih ds hds.2 i t d (by simpa using hi) (by simpa using hd)
  refine key _ _ hw i _ _ ?_ ?_
  · have := congrArg (Option.map (·.type)) hf
    simpa using this
  · simp [List.getElem?_eq_getElem (show i < xs.length by omega)]
theorem read_mgB {fuel N : Nat} {cs : List Value} {x : DataW H × List MemPlace} (h : DataW.trod enc Tryz.prog w base spare held fuel 104 cs = some x)
    (hw : (x.1.weights Tryz.prog 104).all (· ≤ reachBytes) = true) (hB : Rows.uptoBulk x.1 ≤ N) : ∃ m, (kMgN N).is w [] cs m := by
  obtain ⟨hlen, n, hn, hf⟩ := read_fieldsB Tryz.underlying104 h hw
  have q : Tryz.prog.cellsOf 104 = 4 := by kernel_rfl
  have q0 : Tryz.prog.cellsOf 9 = 1 := by kernel_rfl
  have q1 : Tryz.prog.cellsOf 4 = 1 := by kernel_rfl
  have q2 : Tryz.prog.cellsOf 24 = 1 := by kernel_rfl
  rw [q] at hlen
  obtain ⟨c0, c1, c2, c3, rfl⟩ := four_ofM hlen
  have e0 := hf 0
  have e1 := hf 1
  have e2 := hf 2
  have e3 := hf 3
  simp only [List.getElem?_toArray, List.getElem?_cons_zero, List.getElem?_cons_succ, Option.some.injEq, forall_eq', q0, q1, q2, List.drop_zero, List.drop_succ_cons, List.take_succ_cons, List.take_zero] at e0 e1 e2 e3
  obtain ⟨y0, t0, w0, -⟩ := e0
  obtain ⟨y1, t1, w1, -⟩ := e1
  obtain ⟨y2, t2, w2, -⟩ := e2
  obtain ⟨y3, t3, w3, b3⟩ := e3
  obtain ⟨s0, h0, hs0⟩ := read_str t0 w0
  obtain ⟨s1, h1, hs1⟩ := read_str t1 w1
  obtain ⟨b, h2, -⟩ := DataW.trod_bool Tryz.underlying4 t2
  obtain ⟨v3, ps, h3, hps, hl⟩ := read_slB (k := kPth) (bytes := 24) (N := N) (by simp [kPth]) Tryz.underlying24 (by kernel_rfl) (by kernel_rfl) (fun f _ cs x h hw _ => by
    obtain ⟨v, p, h1, h2⟩ := read_path1 h hw
    exact ⟨p, v, h1, h2⟩) t3 w3 (Nat.le_trans b3 hB)
  simp only [List.cons.injEq, and_true] at h0 h1 h2 h3
  subst h0 h1 h2 h3
  exact ⟨⟨s0, s1, b, ps⟩, ⟨_, rfl, hs0, hs1, hps⟩, hl⟩
theorem read_mgsB {fuel N : Nat} {cs : List Value} {x : DataW H × List MemPlace} (h : DataW.trod enc Tryz.prog w base spare held fuel 31 cs = some x)
    (hw : (x.1.weights Tryz.prog 31).all (· ≤ reachBytes) = true) (hB : Rows.uptoBulk x.1 ≤ N) : ∃ v l, cs = [v] ∧ IsSl kMg 64 w [] v l ∧ l.length ≤ N ∧ ∀ m ∈ l, m.set.length ≤ N := by
  obtain ⟨v, l, h1, h2, h3⟩ := read_slB (k := kMgN N) (bytes := 64) (by simp [kMgN]) Tryz.underlying31 (by kernel_rfl) (by kernel_rfl) (fun f _ cs x h hw hB => read_mgB h hw hB) h hw hB
  refine ⟨v, l, h1, h2.le ⟨rfl, fun h => h.1⟩, h3, fun m hm => ?_⟩
  obtain ⟨_, _, _, _, -, -, -, -, l5⟩ := h2.ex
  obtain ⟨i, hi, rfl⟩ := List.getElem_of_mem hm
  obtain ⟨cs, -, -, hs⟩ := l5 i hi
  exact hs
end

/-- what a law's walk has to show, of arguments of a bounded bulk -/
def LawWalkU (f : FuncId) (fn : Func) : Prop :=
  ∀ (H : Type) (enc : TypeId × Value → H) (W : World) (base : Nat) (args : Array Value) (ds : List (DataW H)) (ps : List MemPlace),
    DataW.TrodAll enc Tryz.prog W 0 (fun _ => true) true fn.params.toList args.toList ds ps → (∀ x ∈ ps, x.block < W.heap.size) →
    (DataW.weightsEach Tryz.prog fn.params.toList ds).all (· ≤ reachBytes) = true →
    (∀ (j : Nat) t v, fn.params[j]? = some t → args[j]? = some v → Value.okWide Tryz.prog W .any base t v) → Rows.uptoBulkAll ds ≤ 1048576 →
    Calls Tryz.prog f args W fun e W' => e = .returned (.bool true) ∧ Below W.heap.size W W'

set_option maxRecDepth 100000 in
theorem law_liftU {os : Os} (started : os.Started) {H : Type} {enc : TypeId × Value → H} {f : FuncId} {fn : Func} {s : ChangeSpec} {F : Stop.Interp}
    (noInit : Tryz.checked.prog.inits.idxOf? f = none) (hfn : Tryz.checked.prog.funcs[f]? = some fn) (hvars : s.vars = [])
    (hres : fn.resultTypes = #[4])
    (hread : ∀ t ∈ fn.params.toList, Tryz.prog.readableRec t = true ∧ t < Tryz.prog.types.size)
    (hs : ∀ ds : List (DataW H), ds.length = fn.params.toList.length → s.fn H ds = { results := [.lit (.bool true)], args := ds, vars := [] })
    (witness : ∃ (w : World) (tape : Tape) (i : Input), w.os = os ∧ (w.forCall tape i).Shaped Tryz.checked.prog ∧ i.vars = [] ∧ Input.okWide Tryz.checked.prog (w.forCall tape i) .any w.heap.size f i ∧
      (Rows.OpenSpec.upto s).pre6 enc Tryz.checked.prog fn [] false (w.forCall tape i).memory i.args ∧ ({} : Assume).holds Tryz.checked.prog (lone (Frame.enter Tryz.checked.prog f i.args .normal) [] (w.forCall tape i)))
    (walk : LawWalkU f fn) :
    ReturnsInHanded {} Tryz.checked os f .any ((Rows.OpenSpec.upto s).pre6 enc Tryz.prog fn [] false) (((Rows.OpenSpec.upto s).at F).post enc Tryz.prog fn false true false false) := by
  refine returnsInHanded_of_calls Tryz.own started noInit witness ?_
  intro w tape i _ _ _ hok hpre hholds
  obtain ⟨_, _, _, fn', hfn', _, _, _, _, hval⟩ := hok
  have e : fn' = fn := Option.some.inj (hfn'.symm.trans hfn)
  subst e
  obtain ⟨ds, gs, before, hw, hc, hkk⟩ := (OpenSpec.pre_some (k := Rows.uptoSmall) rfl [] false _ _).1 hpre.1
  have hsz := hpre.2.weights hw
  have hW := DataW.Whole.of_heap (w' := w.forCall tape i) (by rfl) hw
  suffices hh : Calls Tryz.prog f i.args (w.forCall tape i) fun e W' => ∃ v, e = .returned v ∧ s.post enc Tryz.prog fn' false true false false (w.forCall tape i) i.args v W' from hh.mono fun e W' ⟨v, he, hp⟩ => by subst he; exact ChangeSpec.post_blind hp
  have hlt := hW.lt
  have hW' := hW
  obtain ⟨p, q, hA, hV, hpq, _, _⟩ := hW
  have hV' : DataW.TrodVars enc Tryz.prog (w.forCall tape i) (fun _ => true) s.vars gs q := hV
  have hgs : gs = [] ∧ q = [] := by
    rw [hvars] at hV'
    cases gs with
    | nil => exact ⟨rfl, by simpa [DataW.TrodVars] using hV'⟩
    | cons => simp [DataW.TrodVars] at hV'
  obtain ⟨rfl, rfl⟩ := hgs
  have hbp : before = p := by simpa using hpq
  subst hbp
  have hvt : s.plain.varTypes Tryz.checked.prog = [] := by simp [DataSpec.varTypes, ChangeSpec.plain, hvars]
  have hsz1 : (DataW.weightsEach Tryz.prog (fn'.params.toList ++ s.plain.varTypes Tryz.checked.prog) (ds ++ [])).all (· ≤ reachBytes) = true := hsz
  have hsz' : (DataW.weightsEach Tryz.prog fn'.params.toList ds).all (· ≤ reachBytes) = true := by
    rw [hvt, List.append_nil, List.append_nil] at hsz1
    exact hsz1
  have hbk : Rows.uptoBulkAll ds ≤ 1048576 := by simpa [Rows.uptoSmall] using hkk
  refine (walk H enc (w.forCall tape i) w.heap.size i.args ds before hA (fun x hx => hlt x hx) hsz' hval hbk).mono fun e W' ⟨he, hb⟩ => ?_
  have hsp : s.fn H (ds ++ []) = { results := [.lit (.bool true)], args := ds, vars := [] } := by
    rw [List.append_nil]; exact hs ds (trodAll_length hA).1
  refine ⟨_, he, ds, [], before, [], before, [], hW', ?_, ?_, ?_, ?_, fun h => by cases h⟩
  · rw [hsp, hres]
    exact ⟨[], [], shut_bool Tryz.underBool true, rfl, rfl⟩
  · rw [hsp]
    exact args_again hb hread (fun x hx => hlt x hx) hA
  · rw [hsp, hvars]
    rfl
  · exact hb.frame _
end Go.Proofs.YtihapgangilncaaGreat
