/- For all schemas and names, the law FnResolveNamed returns true: a reference by name refers to what looking for that name finds; no condition beside the law's own. -/
import Derived.Test.YtmihdlbcjiaibaaLaw
import Derived.Test.YtmihdlbcjiaibaaNamedG
namespace Go.Proofs.Ytmihdlbcjiaibaa
open Go.ChangeShapes Go.WideShapes Go.ChangeAt Go.RowKit

set_option maxRecDepth 100000 in
set_option maxHeartbeats 8000000 in
set_option pp.maxSteps 1000000 in
set_option pp.deepTerms true in
theorem fnResolveNamed_law {d : Nat} {w : World} {vs : Value} {ts : List (TdOf A)} {name : ByteArray} (hs : IsSl (kTd (kA (d + 1))) 80 w [] vs ts) (hnm : name.size ≤ 140737488351232) :
    Calls Try.prog 7 #[.agg #[vs], .string name] w fun e w' => e = .returned (.bool true) ∧ Below w.heap.size w w' := by
  suffices h : ∀ R : Ending → World → Prop, Ends R w (.bool true) → Calls Try.prog 7 #[.agg #[vs], .string name] w R from h _ (fun w' hE => ⟨rfl, hE⟩)
  intro R hR
  have hvo := hs.one
  have hs' := Lib.hid hs
  have hR' := Lib.hid hR
  have hnm' := Lib.hid hnm
  clear hR hs hnm
  go_enter Try.func7, Try.ntmps7
  go_wp2_with fail
  refine abs1 (G := fun wr => Calls _ _ _ wr _) ?_
  intro w1 hE1 hb1 hs1
  have c0 : w1.cell? ⟨w.heap.size, 0, none⟩ = some vs := cells_of hb1 0
  clear hb1 hs1
  refine zzFits6_any (hs'.out.mv (hE1.mv _) (by simp [kTd])) _ ?_
  intro b1 w2 hE2
  replace c0 := hE2.keep c0
  replace hE1 := hE1.trans hE2
  clear hE2
  dsimp only
  cases b1
  · go_wp2_with fail
    exact hR'.out _ hE1
  by_cases hbig : name.size > 2147483647
  · have hbI : decide ((2147483647 : Int) < (name.size : Int)) = true := by simp; omega
    go_wp2_with fail
    exact hR'.out _ hE1
  have hbI : decide ((2147483647 : Int) < (name.size : Int)) = false := by simp; omega
  clear hbig
  go_wp2_with fail
  refine uniqueTypes_any (hs'.out.mv (hE1.mv _) (by simp [kTd])) _ ?_
  intro b3 w3 hE2
  replace c0 := hE2.keep c0
  replace hE1 := hE1.trans hE2
  clear hE2
  dsimp only
  cases b3
  · go_wp2_with fail
    exact hR'.out _ hE1
  go_wp2_with fail
  refine definedSchema_any (hs'.out.mv (hE1.mv _) (by simp [kTd])) _ ?_
  intro b4 w4 hE2
  replace c0 := hE2.keep c0
  replace hE1 := hE1.trans hE2
  clear hE2
  dsimp only
  cases b4
  · go_wp2_with fail
    exact hR'.out _ hE1
  go_wp2_with fail
  cases hl : lastTd name ts with
  | some u =>
    have hl' := Lib.hid hl
    refine implResolve_c (d := d) (X := []) (ts := ts) (hs'.out.mv (hE1.mv _) (by simp [kTd])) (Old.nil _) hnm'.out _ (fun w5 c1 c2 c3 u' hu hE5 hy => ?_) (fun hno => by rw [hl'.out] at hno; cases hno)
    obtain rfl : u = u' := by rw [hl'.out] at hu; exact Option.some.inj hu
    obtain ⟨a1, a2, a3, he, o1, o2, o3⟩ := kA_three hy
    obtain ⟨rfl, rfl, rfl⟩ : c1 = a1 ∧ c2 = a2 ∧ c3 = a3 := by simpa using he
    have hy' := Lib.hid hy
    clear hy he hu
    clear hl
    replace c0 := hE5.keep c0
    replace hE1 := hE1.trans hE5
    clear hE5
    dsimp only
    go_wp2_with (refine wpL_storeRow (cells := #[c1, c2, c3]) rfl 42 _ _ rfl Try.size42 rfl rfl (alloc_new _ _ rfl) rfl (by simp [o1, o2, o3]) ?_; intro w6 h6 g6; have hx6 : Ext w5 w6 := ((Ext.refl w5).push _).grown g6 (fun k hk => by cases hk; exact Nat.le_refl _); replace c0 := hx6.keep c0)
    have f0 : w6.cell? ⟨w5.heap.size, 0, none⟩ = some c1 := cells_of h6 0
    have f1 : w6.cell? ⟨w5.heap.size, 1, none⟩ = some c2 := cells_of h6 1
    have f2 : w6.cell? ⟨w5.heap.size, 2, none⟩ = some c3 := cells_of h6 2
    replace hy' := Lib.hid ((kA (d + 1)).mv hy'.out (hx6.mv _))
    replace hE1 := hE1.trans hx6
    clear h6 g6 hx6
    refine find_c (d := d) (X := []) (ts := ts) (hs'.out.mv (hE1.mv _) (by simp [kTd])) (Old.nil _) _ (fun w7 e1 e2 e3 u' hu hE5 hy2 => ?_) (fun hno => by rw [hl'.out] at hno; cases hno)
    obtain rfl : u = u' := by rw [hl'.out] at hu; exact Option.some.inj hu
    obtain ⟨a1, a2, a3, he, q1, q2, q3⟩ := kA_three hy2
    obtain ⟨rfl, rfl, rfl⟩ : e1 = a1 ∧ e2 = a2 ∧ e3 = a3 := by simpa using he
    have hy2' := Lib.hid hy2
    clear hy2 he hu
    replace c0 := hE5.keep c0
    replace f0 := hE5.keep f0
    replace f1 := hE5.keep f1
    replace f2 := hE5.keep f2
    replace hy' := Lib.hid ((kA (d + 1)).mv hy'.out (hE5.mv _))
    replace hE1 := hE1.trans hE5
    clear hE5
    dsimp only
    obtain ⟨ko, kc, db, doff, rfl, k1, k2, k3, k4⟩ := id hs'.out.ex
    rw [kTd_4] at k4
    have hk3 := Lib.hid k3
    have hk4 := Lib.hid k4
    clear k1 k3 k4
    go_wp2_with (refine wpL_storeRow (cells := #[e1, e2, e3]) rfl 42 _ _ rfl Try.size42 rfl rfl (alloc_new _ _ rfl) rfl (by simp [q1, q2, q3]) ?_; intro w8 h8 g8; have hx8 : Ext w7 w8 := ((Ext.refl w7).push _).grown g8 (fun k hk => by cases hk; exact Nat.le_refl _); replace c0 := hx8.keep c0)
    replace f0 := hx8.keep f0
    replace f1 := hx8.keep f1
    replace f2 := hx8.keep f2
    have g0 : w8.cell? ⟨w7.heap.size, 0, none⟩ = some e1 := cells_of h8 0
    have g1 : w8.cell? ⟨w7.heap.size, 1, none⟩ = some e2 := cells_of h8 1
    have g2 : w8.cell? ⟨w7.heap.size, 2, none⟩ = some e3 := cells_of h8 2
    replace hy' := Lib.hid ((kA (d + 1)).mv hy'.out (hx8.mv _))
    replace hy2' := Lib.hid ((kA (d + 1)).mv hy2'.out (hx8.mv _))
    replace hE1 := hE1.trans hx8
    clear h8 g8 hx8 c0
    go_loopw [9, 44] (fun v i wr => ∃ k : Nat, k ≤ ts.length ∧ i = .int .i64 k ∧ v = .bool ((ts.take k).any fun t => decide (t.name = name)) ∧ Ext w8 wr) (fun _ i _ => ts.length - (intOf i).toNat)
    case atStart => exact ⟨0, Nat.zero_le _, rfl, rfl, Ext.refl _⟩
    case round =>
      obtain ⟨k, hk, rfl, rfl, hEr⟩ := hrel
      by_cases hlt : k < ts.length
      · obtain ⟨cs', hc, hcs⟩ := hk4.out k hlt
        obtain ⟨rfl, hdX⟩ := hk3.out (by omega)
        obtain ⟨ac, rfl, hat, -⟩ := hcs
        obtain ⟨t1, t2, t3, rfl, n1, n2, n3⟩ := kA_three hat
        have hEq := hE1.trans hEr
        have m0 := hEq.keep (hc 0 (by omega))
        have m1 := hEq.keep (hc 1 (by omega))
        have m2 := hEq.keep (hc 2 (by omega))
        have m3 := hEq.keep (hc 3 (by omega))
        simp only [Nat.add_zero] at m0
        have hi1 : (k : Int) < (ts.length : Int) := by omega
        have hkm : (k : Int) + 1 ≤ 9223372036854775807 := by omega
        have hstep : ((ts.take (k + 1)).any fun t => decide (t.name = name)) = (((ts.take k).any fun t => decide (t.name = name)) || decide ((ts[k]).name = name)) := by rw [List.take_succ_eq_append_getElem hlt, List.any_append]; simp
        have hstep' := Lib.hid hstep
        clear hc hat hstep
        rename World => wr
        generalize ((ts.take k).any fun t => decide (t.name = name)) = fb at *
        have hnb : ((ts[k]).name.toList == name.toList) = decide ((ts[k]).name = name) := by by_cases e : (ts[k]).name = name <;> simp [e, bytes_beq]
        generalize decide ((ts[k]).name = name) = db2 at *
        cases fb <;> cases db2
        all_goals (
          go_wp2_with (refine wpL_storeRow (cells := #[.string (ts[k]).name, t1, t2, t3]) rfl 60 _ _ rfl Try.size60 rfl rfl (alloc_new _ _ rfl) rfl (by simp [n1, n2, n3, str_one]) ?_; intro w9 h9 g9; have hx9 : Ext wr w9 := ((Ext.refl wr).push _).grown g9 (fun k hk => by cases hk; exact Nat.le_refl _); have s0 : w9.cell? ⟨wr.heap.size, 0, none⟩ = some (.string (ts[k]).name) := cells_of h9 0)
          go_roundw
          case rel => exact ⟨k + 1, by omega, by go_num, by rw [hstep'.out]; rfl, hEr.trans hx9⟩
          case measure => simp [intOf]; omega)
      · have ek : k = ts.length := by omega
        subst ek
        have hany : (ts.any fun t => decide (t.name = name)) = true := by rw [← lastTd_any, hl'.out]; rfl
        rw [List.take_of_length_le (Nat.le_refl _), hany]
        have hEq := hE1.trans hEr
        replace f0 := hEr.keep f0
        replace f1 := hEr.keep f1
        replace f2 := hEr.keep f2
        replace g0 := hEr.keep g0
        replace g1 := hEr.keep g1
        replace g2 := hEr.keep g2
        clear hany hlt hk
        go_wp2_with fail
        refine sameAtom_c (d := d + 1) (cs := [c1, c2, c3]) (ds := [e1, e2, e3]) ((kA (d + 1)).mv hy'.out (hEr.mv _)) ((kA (d + 1)).mv hy2'.out (hEr.mv _)) _ ?_
        rw [alike_refl]
        intro w10 hE10
        dsimp only
        go_wp2_with fail
        exact hR'.out _ (hEq.trans hE10)
  | none =>
    have hl' := Lib.hid hl
    refine implResolve_c (d := d) (X := []) (ts := ts) (hs'.out.mv (hE1.mv _) (by simp [kTd])) (Old.nil _) hnm'.out _ (fun w5 c1 c2 c3 u' hu hE5 hy => by rw [hl'.out] at hu; cases hu) (fun _ w5 c1 c2 c3 o1 o2 o3 hE5 => ?_)
    clear hl
    replace c0 := hE5.keep c0
    replace hE1 := hE1.trans hE5
    clear hE5
    dsimp only
    go_wp2_with (refine wpL_storeRow (cells := #[c1, c2, c3]) rfl 42 _ _ rfl Try.size42 rfl rfl (alloc_new _ _ rfl) rfl (by simp [o1, o2, o3]) ?_; intro w6 h6 g6; have hx6 : Ext w5 w6 := ((Ext.refl w5).push _).grown g6 (fun k hk => by cases hk; exact Nat.le_refl _); replace c0 := hx6.keep c0)
    have f0 : w6.cell? ⟨w5.heap.size, 0, none⟩ = some c1 := cells_of h6 0
    have f1 : w6.cell? ⟨w5.heap.size, 1, none⟩ = some c2 := cells_of h6 1
    have f2 : w6.cell? ⟨w5.heap.size, 2, none⟩ = some c3 := cells_of h6 2
    replace hE1 := hE1.trans hx6
    clear h6 g6 hx6
    refine find_c (d := d) (X := []) (ts := ts) (hs'.out.mv (hE1.mv _) (by simp [kTd])) (Old.nil _) _ (fun w7 e1 e2 e3 u' hu hE5 hy => by rw [hl'.out] at hu; cases hu) (fun _ w7 e1 e2 e3 q1 q2 q3 hE5 => ?_)
    replace c0 := hE5.keep c0
    replace f0 := hE5.keep f0
    replace f1 := hE5.keep f1
    replace f2 := hE5.keep f2
    replace hE1 := hE1.trans hE5
    clear hE5
    dsimp only
    obtain ⟨ko, kc, db, doff, rfl, k1, k2, k3, k4⟩ := id hs'.out.ex
    rw [kTd_4] at k4
    have hk3 := Lib.hid k3
    have hk4 := Lib.hid k4
    clear k1 k3 k4
    go_wp2_with (refine wpL_storeRow (cells := #[e1, e2, e3]) rfl 42 _ _ rfl Try.size42 rfl rfl (alloc_new _ _ rfl) rfl (by simp [q1, q2, q3]) ?_; intro w8 h8 g8; have hx8 : Ext w7 w8 := ((Ext.refl w7).push _).grown g8 (fun k hk => by cases hk; exact Nat.le_refl _); replace c0 := hx8.keep c0)
    replace f0 := hx8.keep f0
    replace f1 := hx8.keep f1
    replace f2 := hx8.keep f2
    have g0 : w8.cell? ⟨w7.heap.size, 0, none⟩ = some e1 := cells_of h8 0
    have g1 : w8.cell? ⟨w7.heap.size, 1, none⟩ = some e2 := cells_of h8 1
    have g2 : w8.cell? ⟨w7.heap.size, 2, none⟩ = some e3 := cells_of h8 2
    replace hE1 := hE1.trans hx8
    clear h8 g8 hx8 c0
    go_loopw [9, 44] (fun v i wr => ∃ k : Nat, k ≤ ts.length ∧ i = .int .i64 k ∧ v = .bool ((ts.take k).any fun t => decide (t.name = name)) ∧ Ext w8 wr) (fun _ i _ => ts.length - (intOf i).toNat)
    case atStart => exact ⟨0, Nat.zero_le _, rfl, rfl, Ext.refl _⟩
    case round =>
      obtain ⟨k, hk, rfl, rfl, hEr⟩ := hrel
      by_cases hlt : k < ts.length
      · obtain ⟨cs', hc, hcs⟩ := hk4.out k hlt
        obtain ⟨rfl, hdX⟩ := hk3.out (by omega)
        obtain ⟨ac, rfl, hat, -⟩ := hcs
        obtain ⟨t1, t2, t3, rfl, n1, n2, n3⟩ := kA_three hat
        have hEq := hE1.trans hEr
        have m0 := hEq.keep (hc 0 (by omega))
        have m1 := hEq.keep (hc 1 (by omega))
        have m2 := hEq.keep (hc 2 (by omega))
        have m3 := hEq.keep (hc 3 (by omega))
        simp only [Nat.add_zero] at m0
        have hi1 : (k : Int) < (ts.length : Int) := by omega
        have hkm : (k : Int) + 1 ≤ 9223372036854775807 := by omega
        have hstep : ((ts.take (k + 1)).any fun t => decide (t.name = name)) = (((ts.take k).any fun t => decide (t.name = name)) || decide ((ts[k]).name = name)) := by rw [List.take_succ_eq_append_getElem hlt, List.any_append]; simp
        have hstep' := Lib.hid hstep
        clear hc hat hstep
        rename World => wr
        generalize ((ts.take k).any fun t => decide (t.name = name)) = fb at *
        have hnb : ((ts[k]).name.toList == name.toList) = decide ((ts[k]).name = name) := by by_cases e : (ts[k]).name = name <;> simp [e, bytes_beq]
        generalize decide ((ts[k]).name = name) = db2 at *
        cases fb <;> cases db2
        all_goals (
          go_wp2_with (refine wpL_storeRow (cells := #[.string (ts[k]).name, t1, t2, t3]) rfl 60 _ _ rfl Try.size60 rfl rfl (alloc_new _ _ rfl) rfl (by simp [n1, n2, n3, str_one]) ?_; intro w9 h9 g9; have hx9 : Ext wr w9 := ((Ext.refl wr).push _).grown g9 (fun k hk => by cases hk; exact Nat.le_refl _); have s0 : w9.cell? ⟨wr.heap.size, 0, none⟩ = some (.string (ts[k]).name) := cells_of h9 0)
          go_roundw
          case rel => exact ⟨k + 1, by omega, by go_num, by rw [hstep'.out]; rfl, hEr.trans hx9⟩
          case measure => simp [intOf]; omega)
      · have ek : k = ts.length := by omega
        subst ek
        have hany : (ts.any fun t => decide (t.name = name)) = false := by rw [← lastTd_any, hl'.out]; rfl
        rw [List.take_of_length_le (Nat.le_refl _), hany]
        have hEq := hE1.trans hEr
        replace f0 := hEr.keep f0
        replace f1 := hEr.keep f1
        replace f2 := hEr.keep f2
        replace g0 := hEr.keep g0
        replace g1 := hEr.keep g1
        replace g2 := hEr.keep g2
        clear hany hlt hk
        go_wp2_with fail
        exact hR'.out _ hEq

set_option maxRecDepth 100000 in
theorem fnResolveNamed_walk : LawWalk 7 Try.f7 := by
  intro H enc W base args ds ps hA _ hw hval
  rw [Try.params7] at hA hw hval
  obtain ⟨v0, v1, d0, d1, p0, p1, hargs, rfl, rfl, h0, h1⟩ := trodAll_two hA
  obtain ⟨args⟩ := args
  obtain rfl : args = [v0, v1] := by simpa using hargs
  obtain ⟨cs, rfl, hcs⟩ := okWide_struct Try.underlying54 (hval 0 54 v0 rfl rfl)
  obtain ⟨word, rfl⟩ := okWide_string Try.underlying9 (hval 1 9 v1 rfl rfl)
  obtain ⟨fuel0, h0⟩ := h0
  obtain ⟨fuel1, h1⟩ := h1
  simp only [DataW.weightsEach, List.all_append, Bool.and_eq_true] at hw
  obtain ⟨v, d, ts, hv, hts⟩ := read_schema h0 hw.1
  obtain ⟨s, hs, hsz⟩ := read_str h1 hw.2.1
  obtain rfl : word = s := by simpa [Value.cells] using hs
  obtain ⟨cs⟩ := cs
  obtain rfl : cs = [v] := by simpa [Value.cells] using hv
  exact fnResolveNamed_law (d := d) hts hsz

set_option maxRecDepth 100000 in
theorem fnResolveNamed_lifted (os : Os) (started : os.Started) (H : Type) (enc : TypeId × Value → H) :
    ReturnsInHanded {} Try.checked os 7 .any (Rows.fnResolveNamedSpec.pre6 enc Try.prog Try.f7 Rows.fnResolveNamedRow.domain false) (Rows.fnResolveNamedSpec.post enc Try.prog Try.f7 false true false false) :=
  law_lift (s := Rows.fnResolveNamedSpec) started (by kernel_rfl) Try.func7 rfl rfl
    (by rw [Try.params7]; intro t ht; simp at ht; rcases ht with rfl | rfl <;> exact ⟨by kernel_rfl, of_decide_eq_true (by kernel_rfl)⟩)
    (by rw [Try.params7]; intro ds hd; match ds, hd with | [a, b], _ => rfl)
    (ChangeSpec.witness6 (enc := enc) (C := Try.checked) false ⟨#[], #[.agg #[.slice none 0 0], .string ⟨#[]⟩], []⟩ 8 (by kernel_rfl) (by kernel_rfl) (by kernel_rfl) (by kernel_rfl))
    fnResolveNamed_walk

theorem FnResolveNamed_holds : Rows.FnResolveNamedSaid :=
  OpenClaim.holds_of_wide 7 Try.f7 rfl rfl rfl rfl rfl rfl rfl ⟨rfl, rfl, rfl, rfl, rfl⟩ rfl rfl rfl rfl rfl (by kernel_rfl) Try.func7 (by kernel_rfl)
    (of_decide_eq_true (by kernel_rfl)) (by unfold Func.isWrapper; first | (rw [if_pos (by decide +kernel)]; kernel_rfl) | (rw [if_neg (by decide +kernel)]; exact ⟨rfl, rfl⟩))
    (fun os started H enc _ => fnResolveNamed_lifted os started H enc)

end Go.Proofs.Ytmihdlbcjiaibaa
