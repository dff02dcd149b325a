/- value.EqualsUsing. (printed by gen_equals.py) -/
import Derived.Test.YtihapgangilncaaGreatKGEqM
namespace Go.Proofs.YtihapgangilncaaGreat
open Go.RowKit
set_option linter.unusedSimpArgs false

theorem beq_bytes (m n : ByteArray) : (m == n) = (m.toList == n.toList) := by
  by_cases h : m = n
  · simp [h]
  · rw [beq_eq_false_iff_ne.2 h, eq_comm, beq_eq_false_iff_ne]
    exact fun e => h (toList_inj e)

theorem T.float_of {t : T} (h : t.isFloat = true) : ∃ f, t = .float f := by cases t <;> simp_all [T.isFloat]
theorem T.int_of {t : T} (h : t.isInt = true) : ∃ f, t = .int f := by cases t <;> simp_all [T.isInt]
theorem T.str_of {t : T} (h : t.isString = true) : ∃ f, t = .str f := by cases t <;> simp_all [T.isString]
theorem T.bool_of {t : T} (h : t.isBool = true) : ∃ f, t = .bool f := by cases t <;> simp_all [T.isBool]
theorem T.list_of {t : T} (h : t.isList = true) : ∃ f, t = .list f := by cases t <;> simp_all [T.isList]
theorem T.map_of {t : T} (h : t.isMap = true) : ∃ k f, t = .map k f := by cases t <;> simp_all [T.isMap]
theorem T.null_of {t : T} (h : t.isNull = true) : t = .null := by cases t <;> simp_all [T.isNull]

/-- what is asked of the parts of the second value -/
def EqIH (b : T) : Prop := match b with
  | .list l => ∀ i (h : i < l.length), EqC l[i]
  | .map ks l => ∀ i (h : i < (ks.zip l).length), EqC (ks.zip l)[i].2
  | _ => True

set_option maxRecDepth 100000 in
set_option maxHeartbeats 8000000 in
set_option pp.maxSteps 1000000 in
set_option pp.deepTerms true in
theorem equals_step {b : T} (ih : EqIH b) : EqC b := by
  intro w X Y a va vb al ha hb hal R hR
  obtain ⟨ab, rfl⟩ := hal
  obtain ⟨pa, x, rfl, ha2, -, ha1⟩ := ha.ex
  obtain ⟨pb, y, rfl, hb2, -, hb1⟩ := hb.ex
  have hca := cells_of ha2 0
  have hcb := cells_of hb2 0
  simp only [List.getElem?_toArray, List.getElem?_cons_zero] at hca hcb
  have ha' := Lib.hid ha1
  have hb' := Lib.hid hb1
  have hA := Ext.refl w
  have hR' := Lib.hid hR
  have ih' := Lib.hid ih
  clear hR ha2 hb2 ha hb ha1 hb1 ih
  go_enter_defers Tryz.func203, Tryz.ntmps203
  go_wp2_with fail
  refine isFloat_c ha'.out _ ?_
  cases hafloat : T.isFloat a
  · have kafloat := Lib.hid hafloat
    clear hafloat
    intro wn hEn; replace hca := hEn.keep hca; replace hcb := hEn.keep hcb; replace hA := hA.trans hEn; clear hEn; dsimp only; go_wp2_with fail
    refine isFloat_c hb'.out _ ?_
    cases hbfloat : T.isFloat b
    · have kbfloat := Lib.hid hbfloat
      clear hbfloat
      intro wn hEn; replace hca := hEn.keep hca; replace hcb := hEn.keep hcb; replace hA := hA.trans hEn; clear hEn; dsimp only; go_wp2_with fail
      refine isInt_c ha'.out _ ?_
      cases haint : T.isInt a
      · have kaint := Lib.hid haint
        clear haint
        intro wn hEn; replace hca := hEn.keep hca; replace hcb := hEn.keep hcb; replace hA := hA.trans hEn; clear hEn; dsimp only; go_wp2_with fail
        refine isInt_c hb'.out _ ?_
        cases hbint : T.isInt b
        · have kbint := Lib.hid hbint
          clear hbint
          intro wn hEn; replace hca := hEn.keep hca; replace hcb := hEn.keep hcb; replace hA := hA.trans hEn; clear hEn; dsimp only; go_wp2_with fail
          refine isString_c ha'.out _ ?_
          cases hastr : T.isString a
          · have kastr := Lib.hid hastr
            clear hastr
            intro wn hEn; replace hca := hEn.keep hca; replace hcb := hEn.keep hcb; replace hA := hA.trans hEn; clear hEn; dsimp only; go_wp2_with fail
            refine isString_c hb'.out _ ?_
            cases hbstr : T.isString b
            · have kbstr := Lib.hid hbstr
              clear hbstr
              intro wn hEn; replace hca := hEn.keep hca; replace hcb := hEn.keep hcb; replace hA := hA.trans hEn; clear hEn; dsimp only; go_wp2_with fail
              refine isBool_c ha'.out _ ?_
              cases habool : T.isBool a
              · have kabool := Lib.hid habool
                clear habool
                intro wn hEn; replace hca := hEn.keep hca; replace hcb := hEn.keep hcb; replace hA := hA.trans hEn; clear hEn; dsimp only; go_wp2_with fail
                refine isBool_c hb'.out _ ?_
                cases hbbool : T.isBool b
                · have kbbool := Lib.hid hbbool
                  clear hbbool
                  intro wn hEn; replace hca := hEn.keep hca; replace hcb := hEn.keep hcb; replace hA := hA.trans hEn; clear hEn; dsimp only; go_wp2_with fail
                  refine isList_c ha'.out _ ?_
                  cases halist : T.isList a
                  · have kalist := Lib.hid halist
                    clear halist
                    intro wn hEn; replace hca := hEn.keep hca; replace hcb := hEn.keep hcb; replace hA := hA.trans hEn; clear hEn; dsimp only; go_wp2_with fail
                    refine isList_c hb'.out _ ?_
                    cases hblist : T.isList b
                    · have kblist := Lib.hid hblist
                      clear hblist
                      intro wn hEn; replace hca := hEn.keep hca; replace hcb := hEn.keep hcb; replace hA := hA.trans hEn; clear hEn; dsimp only; go_wp2_with fail
                      refine isMap_c ha'.out _ ?_
                      cases hamap : T.isMap a
                      · have kamap := Lib.hid hamap
                        clear hamap
                        intro wn hEn; replace hca := hEn.keep hca; replace hcb := hEn.keep hcb; replace hA := hA.trans hEn; clear hEn; dsimp only; go_wp2_with fail
                        refine isMap_c hb'.out _ ?_
                        cases hbmap : T.isMap b
                        · have kbmap := Lib.hid hbmap
                          clear hbmap
                          intro wn hEn; replace hca := hEn.keep hca; replace hcb := hEn.keep hcb; replace hA := hA.trans hEn; clear hEn; dsimp only; go_wp2_with fail
                          refine isNull_c ha'.out _ ?_
                          cases hanull : T.isNull a
                          · have kanull := Lib.hid hanull
                            clear hanull
                            intro wn hEn; replace hca := hEn.keep hca; replace hcb := hEn.keep hcb; replace hA := hA.trans hEn; clear hEn; dsimp only; go_wp2_with fail
                            refine isNull_c hb'.out _ ?_
                            cases hbnull : T.isNull b
                            · have kbnull := Lib.hid hbnull
                              clear hbnull
                              intro wn hEn; replace hca := hEn.keep hca; replace hcb := hEn.keep hcb; replace hA := hA.trans hEn; clear hEn; dsimp only; go_wp2_with fail
                              refine leaves_free (by simp [results, Tryz.results203, go_sem]; try rfl) (hR'.out.bool ?_ _ hA) _ (by simp [freeD])
                              have zkafloat := kafloat.out
                              have zkbfloat := kbfloat.out
                              have zkaint := kaint.out
                              have zkbint := kbint.out
                              have zkastr := kastr.out
                              have zkbstr := kbstr.out
                              have zkabool := kabool.out
                              have zkbbool := kbbool.out
                              have zkalist := kalist.out
                              have zkblist := kblist.out
                              have zkamap := kamap.out
                              have zkbmap := kbmap.out
                              have zkanull := kanull.out
                              have zkbnull := kbnull.out
                              (cases a <;> cases b <;> simp_all [eqT, feq, toF, T.isNull, T.isFloat, T.isInt, T.isString, T.isBool, T.isList, T.isMap])
                            · obtain rfl := T.null_of hbnull
                              clear hbnull
                              intro wn hEn; replace hca := hEn.keep hca; replace hcb := hEn.keep hcb; replace hA := hA.trans hEn; clear hEn; dsimp only; go_wp2_with fail
                              refine leaves_free (by simp [results, Tryz.results203, go_sem]; try rfl) (hR'.out.bool ?_ _ hA) _ (by simp [freeD])
                              have zkafloat := kafloat.out
                              have zkbfloat := kbfloat.out
                              have zkaint := kaint.out
                              have zkbint := kbint.out
                              have zkastr := kastr.out
                              have zkbstr := kbstr.out
                              have zkabool := kabool.out
                              have zkbbool := kbbool.out
                              have zkalist := kalist.out
                              have zkblist := kblist.out
                              have zkamap := kamap.out
                              have zkbmap := kbmap.out
                              have zkanull := kanull.out
                              (cases a <;> simp_all [eqT, feq, toF, T.isNull, T.isFloat, T.isInt, T.isString, T.isBool, T.isList, T.isMap])
                          · obtain rfl := T.null_of hanull
                            clear hanull
                            intro wn hEn; replace hca := hEn.keep hca; replace hcb := hEn.keep hcb; replace hA := hA.trans hEn; clear hEn; dsimp only; go_wp2_with fail
                            refine isNull_c hb'.out _ ?_
                            cases hbnull : T.isNull b
                            · have kbnull := Lib.hid hbnull
                              clear hbnull
                              intro wn hEn; replace hca := hEn.keep hca; replace hcb := hEn.keep hcb; replace hA := hA.trans hEn; clear hEn; dsimp only; go_wp2_with fail
                              refine leaves_free (by simp [results, Tryz.results203, go_sem]; try rfl) (hR'.out.bool ?_ _ hA) _ (by simp [freeD])
                              have zkafloat := kafloat.out
                              have zkbfloat := kbfloat.out
                              have zkaint := kaint.out
                              have zkbint := kbint.out
                              have zkastr := kastr.out
                              have zkbstr := kbstr.out
                              have zkabool := kabool.out
                              have zkbbool := kbbool.out
                              have zkalist := kalist.out
                              have zkblist := kblist.out
                              have zkamap := kamap.out
                              have zkbmap := kbmap.out
                              have zkbnull := kbnull.out
                              (cases b <;> simp_all [eqT, feq, toF, T.isNull, T.isFloat, T.isInt, T.isString, T.isBool, T.isList, T.isMap])
                            · obtain rfl := T.null_of hbnull
                              clear hbnull
                              intro wn hEn; replace hca := hEn.keep hca; replace hcb := hEn.keep hcb; replace hA := hA.trans hEn; clear hEn; dsimp only; go_wp2_with fail
                              refine leaves_free (by simp [results, Tryz.results203, go_sem]; try rfl) (hR'.out.bool ?_ _ hA) _ (by simp [freeD])
                              have zkafloat := kafloat.out
                              have zkbfloat := kbfloat.out
                              have zkaint := kaint.out
                              have zkbint := kbint.out
                              have zkastr := kastr.out
                              have zkbstr := kbstr.out
                              have zkabool := kabool.out
                              have zkbbool := kbbool.out
                              have zkalist := kalist.out
                              have zkblist := kblist.out
                              have zkamap := kamap.out
                              have zkbmap := kbmap.out
                              (simp [eqT, feq, toF, T.isNull]; try exact beq_bytes _ _)
                        · obtain ⟨kn, n, rfl⟩ := T.map_of hbmap
                          clear hbmap
                          intro wn hEn; replace hca := hEn.keep hca; replace hcb := hEn.keep hcb; replace hA := hA.trans hEn; clear hEn; dsimp only; go_wp2_with fail
                          refine leaves_free (by simp [results, Tryz.results203, go_sem]; try rfl) (hR'.out.bool ?_ _ hA) _ (by simp [freeD])
                          have zkafloat := kafloat.out
                          have zkbfloat := kbfloat.out
                          have zkaint := kaint.out
                          have zkbint := kbint.out
                          have zkastr := kastr.out
                          have zkbstr := kbstr.out
                          have zkabool := kabool.out
                          have zkbbool := kbbool.out
                          have zkalist := kalist.out
                          have zkblist := kblist.out
                          have zkamap := kamap.out
                          (cases a <;> simp_all [eqT, feq, toF, T.isNull, T.isFloat, T.isInt, T.isString, T.isBool, T.isList, T.isMap])
                      · obtain ⟨km, m, rfl⟩ := T.map_of hamap
                        clear hamap
                        intro wn hEn; replace hca := hEn.keep hca; replace hcb := hEn.keep hcb; replace hA := hA.trans hEn; clear hEn; dsimp only; go_wp2_with fail
                        refine isMap_c hb'.out _ ?_
                        cases hbmap : T.isMap b
                        · have kbmap := Lib.hid hbmap
                          clear hbmap
                          intro wn hEn; replace hca := hEn.keep hca; replace hcb := hEn.keep hcb; replace hA := hA.trans hEn; clear hEn; dsimp only; go_wp2_with fail
                          refine leaves_free (by simp [results, Tryz.results203, go_sem]; try rfl) (hR'.out.bool ?_ _ hA) _ (by simp [freeD])
                          have zkafloat := kafloat.out
                          have zkbfloat := kbfloat.out
                          have zkaint := kaint.out
                          have zkbint := kbint.out
                          have zkastr := kastr.out
                          have zkbstr := kbstr.out
                          have zkabool := kabool.out
                          have zkbbool := kbbool.out
                          have zkalist := kalist.out
                          have zkblist := kblist.out
                          have zkbmap := kbmap.out
                          (cases b <;> simp_all [eqT, feq, toF, T.isNull, T.isFloat, T.isInt, T.isString, T.isBool, T.isList, T.isMap])
                        · obtain ⟨kn, n, rfl⟩ := T.map_of hbmap
                          clear hbmap
                          intro wn hEn; replace hca := hEn.keep hca; replace hcb := hEn.keep hcb; replace hA := hA.trans hEn; clear hEn; dsimp only; go_wp2_with fail
                          refine asMapUsing_c ha'.out (hA.mv X) _ ?_
                          intro wn v1 hEn hl1; have hl1' := Lib.hid hl1; clear hl1; replace hca := hEn.keep hca; replace hcb := hEn.keep hcb; replace hA := hA.trans hEn; clear hEn; dsimp only; go_wp2_with fail
                          refine asMapUsing_c hb'.out (hA.mv Y) _ ?_
                          intro wn v2 hEn hl2; replace hl1' := Lib.hid (hl1'.out.mv (hEn.mv X)); obtain ⟨s2, rfl, g2⟩ := hl2.ex; obtain ⟨s1, rfl, g1⟩ := hl1'.out.ex; have g1' := Lib.hid g1; have g2' := Lib.hid g2; clear hl2 g1 g2 hl1'; replace hca := hEn.keep hca; replace hcb := hEn.keep hcb; replace hA := hA.trans hEn; clear hEn; dsimp only; go_wp2_with fail
                          refine mapEquals_c ih'.out ⟨ab, rfl⟩ (g1'.out.mv ((Mv.refl _ X).less (by simp))) (g2'.out.mv ((Mv.refl _ Y).less (by simp))) _ ?_
                          intro wn hEn; replace hca := hEn.keep hca; replace hcb := hEn.keep hcb; replace hA := hA.trans hEn; clear hEn; dsimp only; go_wp2_with fail
                          refine leaves_free (by simp [results, Tryz.results203, go_sem]; try rfl) (hR'.out.bool (by simp [eqT]) _ hA) _ (by simp [freeD])
                    · obtain ⟨n, rfl⟩ := T.list_of hblist
                      clear hblist
                      intro wn hEn; replace hca := hEn.keep hca; replace hcb := hEn.keep hcb; replace hA := hA.trans hEn; clear hEn; dsimp only; go_wp2_with fail
                      refine leaves_free (by simp [results, Tryz.results203, go_sem]; try rfl) (hR'.out.bool ?_ _ hA) _ (by simp [freeD])
                      have zkafloat := kafloat.out
                      have zkbfloat := kbfloat.out
                      have zkaint := kaint.out
                      have zkbint := kbint.out
                      have zkastr := kastr.out
                      have zkbstr := kbstr.out
                      have zkabool := kabool.out
                      have zkbbool := kbbool.out
                      have zkalist := kalist.out
                      (cases a <;> simp_all [eqT, feq, toF, T.isNull, T.isFloat, T.isInt, T.isString, T.isBool, T.isList, T.isMap])
                  · obtain ⟨m, rfl⟩ := T.list_of halist
                    clear halist
                    intro wn hEn; replace hca := hEn.keep hca; replace hcb := hEn.keep hcb; replace hA := hA.trans hEn; clear hEn; dsimp only; go_wp2_with fail
                    refine isList_c hb'.out _ ?_
                    cases hblist : T.isList b
                    · have kblist := Lib.hid hblist
                      clear hblist
                      intro wn hEn; replace hca := hEn.keep hca; replace hcb := hEn.keep hcb; replace hA := hA.trans hEn; clear hEn; dsimp only; go_wp2_with fail
                      refine leaves_free (by simp [results, Tryz.results203, go_sem]; try rfl) (hR'.out.bool ?_ _ hA) _ (by simp [freeD])
                      have zkafloat := kafloat.out
                      have zkbfloat := kbfloat.out
                      have zkaint := kaint.out
                      have zkbint := kbint.out
                      have zkastr := kastr.out
                      have zkbstr := kbstr.out
                      have zkabool := kabool.out
                      have zkbbool := kbbool.out
                      have zkblist := kblist.out
                      (cases b <;> simp_all [eqT, feq, toF, T.isNull, T.isFloat, T.isInt, T.isString, T.isBool, T.isList, T.isMap])
                    · obtain ⟨n, rfl⟩ := T.list_of hblist
                      clear hblist
                      intro wn hEn; replace hca := hEn.keep hca; replace hcb := hEn.keep hcb; replace hA := hA.trans hEn; clear hEn; dsimp only; go_wp2_with fail
                      refine asListUsing_c ha'.out (hA.mv X) _ ?_
                      intro wn v1 hEn hl1; have hl1' := Lib.hid hl1; clear hl1; replace hca := hEn.keep hca; replace hcb := hEn.keep hcb; replace hA := hA.trans hEn; clear hEn; dsimp only; go_wp2_with fail
                      refine asListUsing_c hb'.out (hA.mv Y) _ ?_
                      intro wn v2 hEn hl2; replace hl1' := Lib.hid (hl1'.out.mv (hEn.mv X)); obtain ⟨s2, rfl, g2⟩ := hl2.ex; obtain ⟨s1, rfl, g1⟩ := hl1'.out.ex; have g1' := Lib.hid g1; have g2' := Lib.hid g2; clear hl2 g1 g2 hl1'; replace hca := hEn.keep hca; replace hcb := hEn.keep hcb; replace hA := hA.trans hEn; clear hEn; dsimp only; go_wp2_with fail
                      refine listEqualsM_c ih'.out (g1'.out.mv ((Mv.refl _ X).less (by simp))) (g2'.out.mv ((Mv.refl _ Y).less (by simp))) ⟨ab, rfl⟩ _ ?_
                      intro wn hEn; replace hca := hEn.keep hca; replace hcb := hEn.keep hcb; replace hA := hA.trans hEn; clear hEn; dsimp only; go_wp2_with fail
                      refine leaves_free (by simp [results, Tryz.results203, go_sem]; try rfl) (hR'.out.bool (by simp [eqT]) _ hA) _ (by simp [freeD])
                · obtain ⟨n, rfl⟩ := T.bool_of hbbool
                  clear hbbool
                  intro wn hEn; replace hca := hEn.keep hca; replace hcb := hEn.keep hcb; replace hA := hA.trans hEn; clear hEn; dsimp only; go_wp2_with fail
                  refine leaves_free (by simp [results, Tryz.results203, go_sem]; try rfl) (hR'.out.bool ?_ _ hA) _ (by simp [freeD])
                  have zkafloat := kafloat.out
                  have zkbfloat := kbfloat.out
                  have zkaint := kaint.out
                  have zkbint := kbint.out
                  have zkastr := kastr.out
                  have zkbstr := kbstr.out
                  have zkabool := kabool.out
                  (cases a <;> simp_all [eqT, feq, toF, T.isNull, T.isFloat, T.isInt, T.isString, T.isBool, T.isList, T.isMap])
              · obtain ⟨m, rfl⟩ := T.bool_of habool
                clear habool
                intro wn hEn; replace hca := hEn.keep hca; replace hcb := hEn.keep hcb; replace hA := hA.trans hEn; clear hEn; dsimp only; go_wp2_with fail
                refine isBool_c hb'.out _ ?_
                cases hbbool : T.isBool b
                · have kbbool := Lib.hid hbbool
                  clear hbbool
                  intro wn hEn; replace hca := hEn.keep hca; replace hcb := hEn.keep hcb; replace hA := hA.trans hEn; clear hEn; dsimp only; go_wp2_with fail
                  refine leaves_free (by simp [results, Tryz.results203, go_sem]; try rfl) (hR'.out.bool ?_ _ hA) _ (by simp [freeD])
                  have zkafloat := kafloat.out
                  have zkbfloat := kbfloat.out
                  have zkaint := kaint.out
                  have zkbint := kbint.out
                  have zkastr := kastr.out
                  have zkbstr := kbstr.out
                  have zkbbool := kbbool.out
                  (cases b <;> simp_all [eqT, feq, toF, T.isNull, T.isFloat, T.isInt, T.isString, T.isBool, T.isList, T.isMap])
                · obtain ⟨n, rfl⟩ := T.bool_of hbbool
                  clear hbbool
                  intro wn hEn; replace hca := hEn.keep hca; replace hcb := hEn.keep hcb; replace hA := hA.trans hEn; clear hEn; dsimp only; go_wp2_with fail
                  refine asBool_c ha'.out _ ?_
                  intro wn hEn; replace hca := hEn.keep hca; replace hcb := hEn.keep hcb; replace hA := hA.trans hEn; clear hEn; dsimp only; go_wp2_with fail
                  refine asBool_c hb'.out _ ?_
                  intro wn hEn; replace hca := hEn.keep hca; replace hcb := hEn.keep hcb; replace hA := hA.trans hEn; clear hEn; dsimp only; go_wp2_with fail
                  refine leaves_free (by simp [results, Tryz.results203, go_sem]; try rfl) (hR'.out.bool ?_ _ hA) _ (by simp [freeD])
                  have zkafloat := kafloat.out
                  have zkbfloat := kbfloat.out
                  have zkaint := kaint.out
                  have zkbint := kbint.out
                  have zkastr := kastr.out
                  have zkbstr := kbstr.out
                  (simp [eqT, feq, toF, T.isNull]; try exact beq_bytes _ _)
            · obtain ⟨n, rfl⟩ := T.str_of hbstr
              clear hbstr
              intro wn hEn; replace hca := hEn.keep hca; replace hcb := hEn.keep hcb; replace hA := hA.trans hEn; clear hEn; dsimp only; go_wp2_with fail
              refine leaves_free (by simp [results, Tryz.results203, go_sem]; try rfl) (hR'.out.bool ?_ _ hA) _ (by simp [freeD])
              have zkafloat := kafloat.out
              have zkbfloat := kbfloat.out
              have zkaint := kaint.out
              have zkbint := kbint.out
              have zkastr := kastr.out
              (cases a <;> simp_all [eqT, feq, toF, T.isNull, T.isFloat, T.isInt, T.isString, T.isBool, T.isList, T.isMap])
          · obtain ⟨m, rfl⟩ := T.str_of hastr
            clear hastr
            intro wn hEn; replace hca := hEn.keep hca; replace hcb := hEn.keep hcb; replace hA := hA.trans hEn; clear hEn; dsimp only; go_wp2_with fail
            refine isString_c hb'.out _ ?_
            cases hbstr : T.isString b
            · have kbstr := Lib.hid hbstr
              clear hbstr
              intro wn hEn; replace hca := hEn.keep hca; replace hcb := hEn.keep hcb; replace hA := hA.trans hEn; clear hEn; dsimp only; go_wp2_with fail
              refine leaves_free (by simp [results, Tryz.results203, go_sem]; try rfl) (hR'.out.bool ?_ _ hA) _ (by simp [freeD])
              have zkafloat := kafloat.out
              have zkbfloat := kbfloat.out
              have zkaint := kaint.out
              have zkbint := kbint.out
              have zkbstr := kbstr.out
              (cases b <;> simp_all [eqT, feq, toF, T.isNull, T.isFloat, T.isInt, T.isString, T.isBool, T.isList, T.isMap])
            · obtain ⟨n, rfl⟩ := T.str_of hbstr
              clear hbstr
              intro wn hEn; replace hca := hEn.keep hca; replace hcb := hEn.keep hcb; replace hA := hA.trans hEn; clear hEn; dsimp only; go_wp2_with fail
              refine asString_c ha'.out _ ?_
              intro wn hEn; replace hca := hEn.keep hca; replace hcb := hEn.keep hcb; replace hA := hA.trans hEn; clear hEn; dsimp only; go_wp2_with fail
              refine asString_c hb'.out _ ?_
              intro wn hEn; replace hca := hEn.keep hca; replace hcb := hEn.keep hcb; replace hA := hA.trans hEn; clear hEn; dsimp only; go_wp2_with fail
              refine leaves_free (by simp [results, Tryz.results203, go_sem]; try rfl) (hR'.out.bool ?_ _ hA) _ (by simp [freeD])
              have zkafloat := kafloat.out
              have zkbfloat := kbfloat.out
              have zkaint := kaint.out
              have zkbint := kbint.out
              (simp [eqT, feq, toF, T.isNull]; try exact beq_bytes _ _)
        · obtain ⟨n, rfl⟩ := T.int_of hbint
          clear hbint
          intro wn hEn; replace hca := hEn.keep hca; replace hcb := hEn.keep hcb; replace hA := hA.trans hEn; clear hEn; dsimp only; go_wp2_with fail
          refine leaves_free (by simp [results, Tryz.results203, go_sem]; try rfl) (hR'.out.bool ?_ _ hA) _ (by simp [freeD])
          have zkafloat := kafloat.out
          have zkbfloat := kbfloat.out
          have zkaint := kaint.out
          (cases a <;> simp_all [eqT, feq, toF, T.isNull, T.isFloat, T.isInt, T.isString, T.isBool, T.isList, T.isMap])
      · obtain ⟨m, rfl⟩ := T.int_of haint
        clear haint
        intro wn hEn; replace hca := hEn.keep hca; replace hcb := hEn.keep hcb; replace hA := hA.trans hEn; clear hEn; dsimp only; go_wp2_with fail
        refine isInt_c hb'.out _ ?_
        cases hbint : T.isInt b
        · have kbint := Lib.hid hbint
          clear hbint
          intro wn hEn; replace hca := hEn.keep hca; replace hcb := hEn.keep hcb; replace hA := hA.trans hEn; clear hEn; dsimp only; go_wp2_with fail
          refine leaves_free (by simp [results, Tryz.results203, go_sem]; try rfl) (hR'.out.bool ?_ _ hA) _ (by simp [freeD])
          have zkafloat := kafloat.out
          have zkbfloat := kbfloat.out
          have zkbint := kbint.out
          (cases b <;> simp_all [eqT, feq, toF, T.isNull, T.isFloat, T.isInt, T.isString, T.isBool, T.isList, T.isMap])
        · obtain ⟨n, rfl⟩ := T.int_of hbint
          clear hbint
          intro wn hEn; replace hca := hEn.keep hca; replace hcb := hEn.keep hcb; replace hA := hA.trans hEn; clear hEn; dsimp only; go_wp2_with fail
          refine asInt_c ha'.out _ ?_
          intro wn hEn; replace hca := hEn.keep hca; replace hcb := hEn.keep hcb; replace hA := hA.trans hEn; clear hEn; dsimp only; go_wp2_with fail
          refine asInt_c hb'.out _ ?_
          intro wn hEn; replace hca := hEn.keep hca; replace hcb := hEn.keep hcb; replace hA := hA.trans hEn; clear hEn; dsimp only; go_wp2_with fail
          refine leaves_free (by simp [results, Tryz.results203, go_sem]; try rfl) (hR'.out.bool ?_ _ hA) _ (by simp [freeD])
          have zkafloat := kafloat.out
          have zkbfloat := kbfloat.out
          (simp [eqT, feq, toF, T.isNull]; try exact beq_bytes _ _)
    · obtain ⟨n, rfl⟩ := T.float_of hbfloat
      clear hbfloat
      intro wn hEn; replace hca := hEn.keep hca; replace hcb := hEn.keep hcb; replace hA := hA.trans hEn; clear hEn; dsimp only; go_wp2_with fail
      refine isFloat_c ha'.out _ ?_
      rw [kafloat.out]
      intro wn hEn; replace hca := hEn.keep hca; replace hcb := hEn.keep hcb; replace hA := hA.trans hEn; clear hEn; dsimp only; go_wp2_with fail
      refine isInt_c ha'.out _ ?_
      cases haint : T.isInt a
      · have kaint := Lib.hid haint
        clear haint
        intro wn hEn; replace hca := hEn.keep hca; replace hcb := hEn.keep hcb; replace hA := hA.trans hEn; clear hEn; dsimp only; go_wp2_with fail
        refine leaves_free (by simp [results, Tryz.results203, go_sem]; try rfl) (hR'.out.bool ?_ _ hA) _ (by simp [freeD])
        have zkafloat := kafloat.out
        have zkaint := kaint.out
        (cases a <;> simp_all [eqT, feq, toF, T.isNull, T.isFloat, T.isInt, T.isString, T.isBool, T.isList, T.isMap])
      · obtain ⟨m, rfl⟩ := T.int_of haint
        clear haint
        intro wn hEn; replace hca := hEn.keep hca; replace hcb := hEn.keep hcb; replace hA := hA.trans hEn; clear hEn; dsimp only; go_wp2_with fail
        refine asInt_c ha'.out _ ?_
        intro wn hEn; replace hca := hEn.keep hca; replace hcb := hEn.keep hcb; replace hA := hA.trans hEn; clear hEn; dsimp only; go_wp2_with fail
        refine isFloat_c hb'.out _ ?_
        rw [show T.isFloat _ = true from rfl]
        intro wn hEn; replace hca := hEn.keep hca; replace hcb := hEn.keep hcb; replace hA := hA.trans hEn; clear hEn; dsimp only; go_wp2_with fail
        refine asFloat_c hb'.out _ ?_
        intro wn hEn; replace hca := hEn.keep hca; replace hcb := hEn.keep hcb; replace hA := hA.trans hEn; clear hEn; dsimp only; go_wp2_with fail
        refine leaves_free (by simp [results, Tryz.results203, go_sem]; try rfl) (hR'.out.bool ?_ _ hA) _ (by simp [freeD])
        have zkafloat := kafloat.out
        (simp [eqT, feq, toF, T.isNull]; try exact beq_bytes _ _)
  · obtain ⟨m, rfl⟩ := T.float_of hafloat
    clear hafloat
    intro wn hEn; replace hca := hEn.keep hca; replace hcb := hEn.keep hcb; replace hA := hA.trans hEn; clear hEn; dsimp only; go_wp2_with fail
    refine isFloat_c ha'.out _ ?_
    rw [show T.isFloat _ = true from rfl]
    intro wn hEn; replace hca := hEn.keep hca; replace hcb := hEn.keep hcb; replace hA := hA.trans hEn; clear hEn; dsimp only; go_wp2_with fail
    refine asFloat_c ha'.out _ ?_
    intro wn hEn; replace hca := hEn.keep hca; replace hcb := hEn.keep hcb; replace hA := hA.trans hEn; clear hEn; dsimp only; go_wp2_with fail
    refine isFloat_c hb'.out _ ?_
    cases hbfloat : T.isFloat b
    · have kbfloat := Lib.hid hbfloat
      clear hbfloat
      intro wn hEn; replace hca := hEn.keep hca; replace hcb := hEn.keep hcb; replace hA := hA.trans hEn; clear hEn; dsimp only; go_wp2_with fail
      refine isInt_c hb'.out _ ?_
      cases hbint : T.isInt b
      · have kbint := Lib.hid hbint
        clear hbint
        intro wn hEn; replace hca := hEn.keep hca; replace hcb := hEn.keep hcb; replace hA := hA.trans hEn; clear hEn; dsimp only; go_wp2_with fail
        refine leaves_free (by simp [results, Tryz.results203, go_sem]; try rfl) (hR'.out.bool ?_ _ hA) _ (by simp [freeD])
        have zkbfloat := kbfloat.out
        have zkbint := kbint.out
        (cases b <;> simp_all [eqT, feq, toF, T.isNull, T.isFloat, T.isInt, T.isString, T.isBool, T.isList, T.isMap])
      · obtain ⟨n, rfl⟩ := T.int_of hbint
        clear hbint
        intro wn hEn; replace hca := hEn.keep hca; replace hcb := hEn.keep hcb; replace hA := hA.trans hEn; clear hEn; dsimp only; go_wp2_with fail
        refine asInt_c hb'.out _ ?_
        intro wn hEn; replace hca := hEn.keep hca; replace hcb := hEn.keep hcb; replace hA := hA.trans hEn; clear hEn; dsimp only; go_wp2_with fail
        refine leaves_free (by simp [results, Tryz.results203, go_sem]; try rfl) (hR'.out.bool ?_ _ hA) _ (by simp [freeD])
        have zkbfloat := kbfloat.out
        (simp [eqT, feq, toF, T.isNull]; try exact beq_bytes _ _)
    · obtain ⟨n, rfl⟩ := T.float_of hbfloat
      clear hbfloat
      intro wn hEn; replace hca := hEn.keep hca; replace hcb := hEn.keep hcb; replace hA := hA.trans hEn; clear hEn; dsimp only; go_wp2_with fail
      refine asFloat_c hb'.out _ ?_
      intro wn hEn; replace hca := hEn.keep hca; replace hcb := hEn.keep hcb; replace hA := hA.trans hEn; clear hEn; dsimp only; go_wp2_with fail
      refine leaves_free (by simp [results, Tryz.results203, go_sem]; try rfl) (hR'.out.bool ?_ _ hA) _ (by simp [freeD])
      (simp [eqT, feq, toF, T.isNull]; try exact beq_bytes _ _)

theorem equals_c (b : T) : EqC b := by
  induction b using T.ind with
  | null => exact equals_step trivial
  | bool _ => exact equals_step trivial
  | int _ => exact equals_step trivial
  | float _ => exact equals_step trivial
  | str _ => exact equals_step trivial
  | list l ih => exact equals_step (b := .list l) ih
  | map ks l ih => exact equals_step (b := .map ks l) (fun i h => by simpa using ih i (by simp at h; omega))
end Go.Proofs.YtihapgangilncaaGreat
