/- value.CompareUsing. (printed by gen_compare.py) -/
import Derived.Test.YtihapgangilncaaGreatKGCmpZ
namespace Go.Proofs.YtihapgangilncaaGreat
open Go.RowKit
set_option linter.unusedSimpArgs false

theorem stringsCompare_e {w : World} {a b : ByteArray} (R : Ending → World → Prop) (hR : Ends R w (.int .i64 (cmpS a b))) : Calls Tryz.prog 145 #[.string a, .string b] w R := stringsCompare_c R (hR _ (Ext.refl _))

theorem no_kind {a : T} (h1 : a.isFloat = false) (h2 : a.isInt = false) (h3 : a.isString = false) (h4 : a.isBool = false) (h5 : a.isList = false) (h6 : a.isMap = false) (h7 : a.isNull = false) : False := by
  cases a <;> simp_all [T.isFloat, T.isInt, T.isString, T.isBool, T.isList, T.isMap, T.isNull]
theorem rk_2 {a : T} (h0 : a.isFloat = false) (h1 : a.isInt = false) : 0 < a.rk := by
  cases a <;> simp_all [T.rk, T.isFloat, T.isInt, T.isString, T.isBool, T.isList, T.isMap]
theorem rk_3 {a : T} (h0 : a.isFloat = false) (h1 : a.isInt = false) (h2 : a.isString = false) : 1 < a.rk := by
  cases a <;> simp_all [T.rk, T.isFloat, T.isInt, T.isString, T.isBool, T.isList, T.isMap]
theorem rk_4 {a : T} (h0 : a.isFloat = false) (h1 : a.isInt = false) (h2 : a.isString = false) (h3 : a.isBool = false) : 2 < a.rk := by
  cases a <;> simp_all [T.rk, T.isFloat, T.isInt, T.isString, T.isBool, T.isList, T.isMap]
theorem rk_5 {a : T} (h0 : a.isFloat = false) (h1 : a.isInt = false) (h2 : a.isString = false) (h3 : a.isBool = false) (h4 : a.isList = false) : 3 < a.rk := by
  cases a <;> simp_all [T.rk, T.isFloat, T.isInt, T.isString, T.isBool, T.isList, T.isMap]
theorem rk_6 {a : T} (h0 : a.isFloat = false) (h1 : a.isInt = false) (h2 : a.isString = false) (h3 : a.isBool = false) (h4 : a.isList = false) (h5 : a.isMap = false) : 4 < a.rk := by
  cases a <;> simp_all [T.rk, T.isFloat, T.isInt, T.isString, T.isBool, T.isList, T.isMap]

/-- what is asked of the parts of the second value -/
def CmIH (b : T) : Prop := match b with
  | .list l => ∀ i (h : i < l.length), CmC l[i]
  | .map ks l => ∀ i (h : i < (ks.zip l).length), CmC (ks.zip l)[i].2
  | _ => True

set_option maxRecDepth 100000 in
set_option maxHeartbeats 8000000 in
set_option pp.maxSteps 1000000 in
set_option pp.deepTerms true in
theorem compare_step {b : T} (ih : CmIH b) : CmC b := by
  intro w X Y a va vb al ha hb hal R hR
  obtain ⟨ab, rfl⟩ := hal
  obtain ⟨pa, x, rfl, ha2, -, ha1⟩ := ha.ex
  obtain ⟨pb, y, rfl, hb2, -, hb1⟩ := hb.ex
  have hca := cells_of ha2 0
  have hcb := cells_of hb2 0
  simp only [List.getElem?_toArray, List.getElem?_cons_zero] at hca hcb
  have ha' := Lib.hid ha1
  have hb' := Lib.hid hb1
  have hA := Ext.refl w
  have hR' := Lib.hid hR
  have ih' := Lib.hid ih
  clear hR ha2 hb2 ha hb ha1 hb1 ih
  go_enter_defers Tryz.func173, Tryz.ntmps173
  go_wp2_with fail
  refine isFloat_c ha'.out _ ?_
  cases hafloat : T.isFloat a
  · have kafloat := Lib.hid hafloat
    clear hafloat
    intro wn hEn; replace hca := hEn.keep hca; replace hcb := hEn.keep hcb; replace hA := hA.trans hEn; clear hEn; dsimp only; go_wp2_with fail
    refine isFloat_c hb'.out _ ?_
    cases hbfloat : T.isFloat b
    · have kbfloat := Lib.hid hbfloat
      clear hbfloat
      intro wn hEn; replace hca := hEn.keep hca; replace hcb := hEn.keep hcb; replace hA := hA.trans hEn; clear hEn; dsimp only; go_wp2_with fail
      refine isInt_c ha'.out _ ?_
      cases haint : T.isInt a
      · have kaint := Lib.hid haint
        clear haint
        intro wn hEn; replace hca := hEn.keep hca; replace hcb := hEn.keep hcb; replace hA := hA.trans hEn; clear hEn; dsimp only; go_wp2_with fail
        refine isInt_c hb'.out _ ?_
        cases hbint : T.isInt b
        · have kbint := Lib.hid hbint
          clear hbint
          intro wn hEn; replace hca := hEn.keep hca; replace hcb := hEn.keep hcb; replace hA := hA.trans hEn; clear hEn; dsimp only; go_wp2_with fail
          refine isString_c ha'.out _ ?_
          cases hastr : T.isString a
          · have kastr := Lib.hid hastr
            clear hastr
            intro wn hEn; replace hca := hEn.keep hca; replace hcb := hEn.keep hcb; replace hA := hA.trans hEn; clear hEn; dsimp only; go_wp2_with fail
            refine isString_c hb'.out _ ?_
            cases hbstr : T.isString b
            · have kbstr := Lib.hid hbstr
              clear hbstr
              intro wn hEn; replace hca := hEn.keep hca; replace hcb := hEn.keep hcb; replace hA := hA.trans hEn; clear hEn; dsimp only; go_wp2_with fail
              refine isBool_c ha'.out _ ?_
              cases habool : T.isBool a
              · have kabool := Lib.hid habool
                clear habool
                intro wn hEn; replace hca := hEn.keep hca; replace hcb := hEn.keep hcb; replace hA := hA.trans hEn; clear hEn; dsimp only; go_wp2_with fail
                refine isBool_c hb'.out _ ?_
                cases hbbool : T.isBool b
                · have kbbool := Lib.hid hbbool
                  clear hbbool
                  intro wn hEn; replace hca := hEn.keep hca; replace hcb := hEn.keep hcb; replace hA := hA.trans hEn; clear hEn; dsimp only; go_wp2_with fail
                  refine isList_c ha'.out _ ?_
                  cases halist : T.isList a
                  · have kalist := Lib.hid halist
                    clear halist
                    intro wn hEn; replace hca := hEn.keep hca; replace hcb := hEn.keep hcb; replace hA := hA.trans hEn; clear hEn; dsimp only; go_wp2_with fail
                    refine isList_c hb'.out _ ?_
                    cases hblist : T.isList b
                    · have kblist := Lib.hid hblist
                      clear hblist
                      intro wn hEn; replace hca := hEn.keep hca; replace hcb := hEn.keep hcb; replace hA := hA.trans hEn; clear hEn; dsimp only; go_wp2_with fail
                      refine isMap_c ha'.out _ ?_
                      cases hamap : T.isMap a
                      · have kamap := Lib.hid hamap
                        clear hamap
                        intro wn hEn; replace hca := hEn.keep hca; replace hcb := hEn.keep hcb; replace hA := hA.trans hEn; clear hEn; dsimp only; go_wp2_with fail
                        refine isMap_c hb'.out _ ?_
                        cases hbmap : T.isMap b
                        · have kbmap := Lib.hid hbmap
                          clear hbmap
                          intro wn hEn; replace hca := hEn.keep hca; replace hcb := hEn.keep hcb; replace hA := hA.trans hEn; clear hEn; dsimp only; go_wp2_with fail
                          refine isNull_c ha'.out _ ?_
                          cases hanull : T.isNull a
                          · have kanull := Lib.hid hanull
                            clear hanull
                            intro wn hEn; replace hca := hEn.keep hca; replace hcb := hEn.keep hcb; replace hA := hA.trans hEn; clear hEn; dsimp only; go_wp2_with fail
                            refine isNull_c hb'.out _ ?_
                            cases hbnull : T.isNull b
                            · have kbnull := Lib.hid hbnull
                              clear hbnull
                              intro wn hEn; replace hca := hEn.keep hca; replace hcb := hEn.keep hcb; replace hA := hA.trans hEn; clear hEn; dsimp only; go_wp2_with fail
                              exact (no_kind kafloat.out kaint.out kastr.out kabool.out kalist.out kamap.out kanull.out).elim
                            · obtain rfl := T.null_of hbnull
                              clear hbnull
                              intro wn hEn; replace hca := hEn.keep hca; replace hcb := hEn.keep hcb; replace hA := hA.trans hEn; clear hEn; dsimp only; go_wp2_with fail
                              exact (no_kind kafloat.out kaint.out kastr.out kabool.out kalist.out kamap.out kanull.out).elim
                          · obtain rfl := T.null_of hanull
                            clear hanull
                            intro wn hEn; replace hca := hEn.keep hca; replace hcb := hEn.keep hcb; replace hA := hA.trans hEn; clear hEn; dsimp only; go_wp2_with fail
                            refine isNull_c hb'.out _ ?_
                            cases hbnull : T.isNull b
                            · have kbnull := Lib.hid hbnull
                              clear hbnull
                              intro wn hEn; replace hca := hEn.keep hca; replace hcb := hEn.keep hcb; replace hA := hA.trans hEn; clear hEn; dsimp only; go_wp2_with fail
                              exact (no_kind kbfloat.out kbint.out kbstr.out kbbool.out kblist.out kbmap.out kbnull.out).elim
                            · obtain rfl := T.null_of hbnull
                              clear hbnull
                              intro wn hEn; replace hca := hEn.keep hca; replace hcb := hEn.keep hcb; replace hA := hA.trans hEn; clear hEn; dsimp only; go_wp2_with fail
                              refine leaves_free (by simp [results, Tryz.results173, go_sem]; try rfl) (hR'.out.of ?_ _ hA) _ (by simp [freeD])
                              have hv := show cmpT T.null T.null = 0 from cmpT_null
                              rw [hv]
                        · obtain ⟨kn, n, rfl⟩ := T.map_of hbmap
                          clear hbmap
                          intro wn hEn; replace hca := hEn.keep hca; replace hcb := hEn.keep hcb; replace hA := hA.trans hEn; clear hEn; dsimp only; go_wp2_with fail
                          refine leaves_free (by simp [results, Tryz.results173, go_sem]; try rfl) (hR'.out.of ?_ _ hA) _ (by simp [freeD])
                          have hv := show cmpT a (T.map kn n) = 1 from cmpT_gt (rk_6 kafloat.out kaint.out kastr.out kabool.out kalist.out kamap.out)
                          rw [hv]
                      · obtain ⟨km, m, rfl⟩ := T.map_of hamap
                        clear hamap
                        intro wn hEn; replace hca := hEn.keep hca; replace hcb := hEn.keep hcb; replace hA := hA.trans hEn; clear hEn; dsimp only; go_wp2_with fail
                        refine isMap_c hb'.out _ ?_
                        cases hbmap : T.isMap b
                        · have kbmap := Lib.hid hbmap
                          clear hbmap
                          intro wn hEn; replace hca := hEn.keep hca; replace hcb := hEn.keep hcb; replace hA := hA.trans hEn; clear hEn; dsimp only; go_wp2_with fail
                          refine leaves_free (by simp [results, Tryz.results173, go_sem]; try rfl) (hR'.out.of ?_ _ hA) _ (by simp [freeD])
                          have hv := show cmpT (T.map km m) b = -1 from cmpT_lt (rk_6 kbfloat.out kbint.out kbstr.out kbbool.out kblist.out kbmap.out)
                          rw [hv]
                        · obtain ⟨kn, n, rfl⟩ := T.map_of hbmap
                          clear hbmap
                          intro wn hEn; replace hca := hEn.keep hca; replace hcb := hEn.keep hcb; replace hA := hA.trans hEn; clear hEn; dsimp only; go_wp2_with fail
                          refine asMapUsing_c ha'.out (hA.mv X) _ ?_
                          intro wn v1 hEn hl1; have hl1' := Lib.hid hl1; clear hl1; replace hca := hEn.keep hca; replace hcb := hEn.keep hcb; replace hA := hA.trans hEn; clear hEn; dsimp only; go_wp2_with fail
                          refine asMapUsing_c hb'.out (hA.mv Y) _ ?_
                          intro wn v2 hEn hl2; replace hl1' := Lib.hid (hl1'.out.mv (hEn.mv X)); obtain ⟨s2, rfl, g2⟩ := hl2.ex; obtain ⟨s1, rfl, g1⟩ := hl1'.out.ex; have g1' := Lib.hid g1; have g2' := Lib.hid g2; clear hl2 g1 g2 hl1'; replace hca := hEn.keep hca; replace hcb := hEn.keep hcb; replace hA := hA.trans hEn; clear hEn; dsimp only; go_wp2_with fail
                          refine mapCompare_c ih'.out ⟨ab, rfl⟩ (g1'.out.mv ((Mv.refl _ X).less (by simp))) (g2'.out.mv ((Mv.refl _ Y).less (by simp))) _ ?_
                          intro wn hEn; replace hca := hEn.keep hca; replace hcb := hEn.keep hcb; replace hA := hA.trans hEn; clear hEn; dsimp only; go_wp2_with fail
                          refine leaves_free (by simp [results, Tryz.results173, go_sem]; try rfl) (hR'.out.of ?_ _ hA) _ (by simp [freeD])
                          have hv := show cmpT (T.map km m) (T.map kn n) = cmpE cmpT (insAll [] (km.zip m)) (insAll [] (kn.zip n)) from cmpT_map _ _ _ _
                          rw [hv]
                    · obtain ⟨n, rfl⟩ := T.list_of hblist
                      clear hblist
                      intro wn hEn; replace hca := hEn.keep hca; replace hcb := hEn.keep hcb; replace hA := hA.trans hEn; clear hEn; dsimp only; go_wp2_with fail
                      refine leaves_free (by simp [results, Tryz.results173, go_sem]; try rfl) (hR'.out.of ?_ _ hA) _ (by simp [freeD])
                      have hv := show cmpT a (T.list n) = 1 from cmpT_gt (rk_5 kafloat.out kaint.out kastr.out kabool.out kalist.out)
                      rw [hv]
                  · obtain ⟨m, rfl⟩ := T.list_of halist
                    clear halist
                    intro wn hEn; replace hca := hEn.keep hca; replace hcb := hEn.keep hcb; replace hA := hA.trans hEn; clear hEn; dsimp only; go_wp2_with fail
                    refine isList_c hb'.out _ ?_
                    cases hblist : T.isList b
                    · have kblist := Lib.hid hblist
                      clear hblist
                      intro wn hEn; replace hca := hEn.keep hca; replace hcb := hEn.keep hcb; replace hA := hA.trans hEn; clear hEn; dsimp only; go_wp2_with fail
                      refine leaves_free (by simp [results, Tryz.results173, go_sem]; try rfl) (hR'.out.of ?_ _ hA) _ (by simp [freeD])
                      have hv := show cmpT (T.list m) b = -1 from cmpT_lt (rk_5 kbfloat.out kbint.out kbstr.out kbbool.out kblist.out)
                      rw [hv]
                    · obtain ⟨n, rfl⟩ := T.list_of hblist
                      clear hblist
                      intro wn hEn; replace hca := hEn.keep hca; replace hcb := hEn.keep hcb; replace hA := hA.trans hEn; clear hEn; dsimp only; go_wp2_with fail
                      refine asListUsing_c ha'.out (hA.mv X) _ ?_
                      intro wn v1 hEn hl1; have hl1' := Lib.hid hl1; clear hl1; replace hca := hEn.keep hca; replace hcb := hEn.keep hcb; replace hA := hA.trans hEn; clear hEn; dsimp only; go_wp2_with fail
                      refine asListUsing_c hb'.out (hA.mv Y) _ ?_
                      intro wn v2 hEn hl2; replace hl1' := Lib.hid (hl1'.out.mv (hEn.mv X)); obtain ⟨s2, rfl, g2⟩ := hl2.ex; obtain ⟨s1, rfl, g1⟩ := hl1'.out.ex; have g1' := Lib.hid g1; have g2' := Lib.hid g2; clear hl2 g1 g2 hl1'; replace hca := hEn.keep hca; replace hcb := hEn.keep hcb; replace hA := hA.trans hEn; clear hEn; dsimp only; go_wp2_with fail
                      refine listCompare_c ih'.out (g1'.out.mv ((Mv.refl _ X).less (by simp))) (g2'.out.mv ((Mv.refl _ Y).less (by simp))) ⟨ab, rfl⟩ _ ?_
                      intro wn hEn; replace hca := hEn.keep hca; replace hcb := hEn.keep hcb; replace hA := hA.trans hEn; clear hEn; dsimp only; go_wp2_with fail
                      refine leaves_free (by simp [results, Tryz.results173, go_sem]; try rfl) (hR'.out.of ?_ _ hA) _ (by simp [freeD])
                      have hv := show cmpT (T.list m) (T.list n) = cmpTs m n from cmpT_list _ _
                      rw [hv]
                · obtain ⟨n, rfl⟩ := T.bool_of hbbool
                  clear hbbool
                  intro wn hEn; replace hca := hEn.keep hca; replace hcb := hEn.keep hcb; replace hA := hA.trans hEn; clear hEn; dsimp only; go_wp2_with fail
                  refine leaves_free (by simp [results, Tryz.results173, go_sem]; try rfl) (hR'.out.of ?_ _ hA) _ (by simp [freeD])
                  have hv := show cmpT a (T.bool n) = 1 from cmpT_gt (rk_4 kafloat.out kaint.out kastr.out kabool.out)
                  rw [hv]
              · obtain ⟨m, rfl⟩ := T.bool_of habool
                clear habool
                intro wn hEn; replace hca := hEn.keep hca; replace hcb := hEn.keep hcb; replace hA := hA.trans hEn; clear hEn; dsimp only; go_wp2_with fail
                refine isBool_c hb'.out _ ?_
                cases hbbool : T.isBool b
                · have kbbool := Lib.hid hbbool
                  clear hbbool
                  intro wn hEn; replace hca := hEn.keep hca; replace hcb := hEn.keep hcb; replace hA := hA.trans hEn; clear hEn; dsimp only; go_wp2_with fail
                  refine leaves_free (by simp [results, Tryz.results173, go_sem]; try rfl) (hR'.out.of ?_ _ hA) _ (by simp [freeD])
                  have hv := show cmpT (T.bool m) b = -1 from cmpT_lt (rk_4 kbfloat.out kbint.out kbstr.out kbbool.out)
                  rw [hv]
                · obtain ⟨n, rfl⟩ := T.bool_of hbbool
                  clear hbbool
                  intro wn hEn; replace hca := hEn.keep hca; replace hcb := hEn.keep hcb; replace hA := hA.trans hEn; clear hEn; dsimp only; go_wp2_with fail
                  refine asBool_c ha'.out _ ?_
                  intro wn hEn; replace hca := hEn.keep hca; replace hcb := hEn.keep hcb; replace hA := hA.trans hEn; clear hEn; dsimp only; go_wp2_with fail
                  refine asBool_c hb'.out _ ?_
                  intro wn hEn; replace hca := hEn.keep hca; replace hcb := hEn.keep hcb; replace hA := hA.trans hEn; clear hEn; dsimp only; go_wp2_with fail
                  refine boolCompare_c _ ?_
                  intro wn hEn
                  generalize hbv : (if m = n then (0 : Int) else if m = true then 1 else -1) = bv
                  have hbv' := Lib.hid hbv; clear hbv
                  replace hca := hEn.keep hca; replace hcb := hEn.keep hcb; replace hA := hA.trans hEn; clear hEn; dsimp only; go_wp2_with fail
                  refine leaves_free (by simp [results, Tryz.results173, go_sem]; try rfl) (hR'.out.of ?_ _ hA) _ (by simp [freeD])
                  have hv := show cmpT (T.bool m) (T.bool n) = bv from (cmpT_bool _ _).trans hbv'.out
                  rw [hv]
            · obtain ⟨n, rfl⟩ := T.str_of hbstr
              clear hbstr
              intro wn hEn; replace hca := hEn.keep hca; replace hcb := hEn.keep hcb; replace hA := hA.trans hEn; clear hEn; dsimp only; go_wp2_with fail
              refine leaves_free (by simp [results, Tryz.results173, go_sem]; try rfl) (hR'.out.of ?_ _ hA) _ (by simp [freeD])
              have hv := show cmpT a (T.str n) = 1 from cmpT_gt (rk_3 kafloat.out kaint.out kastr.out)
              rw [hv]
          · obtain ⟨m, rfl⟩ := T.str_of hastr
            clear hastr
            intro wn hEn; replace hca := hEn.keep hca; replace hcb := hEn.keep hcb; replace hA := hA.trans hEn; clear hEn; dsimp only; go_wp2_with fail
            refine isString_c hb'.out _ ?_
            cases hbstr : T.isString b
            · have kbstr := Lib.hid hbstr
              clear hbstr
              intro wn hEn; replace hca := hEn.keep hca; replace hcb := hEn.keep hcb; replace hA := hA.trans hEn; clear hEn; dsimp only; go_wp2_with fail
              refine leaves_free (by simp [results, Tryz.results173, go_sem]; try rfl) (hR'.out.of ?_ _ hA) _ (by simp [freeD])
              have hv := show cmpT (T.str m) b = -1 from cmpT_lt (rk_3 kbfloat.out kbint.out kbstr.out)
              rw [hv]
            · obtain ⟨n, rfl⟩ := T.str_of hbstr
              clear hbstr
              intro wn hEn; replace hca := hEn.keep hca; replace hcb := hEn.keep hcb; replace hA := hA.trans hEn; clear hEn; dsimp only; go_wp2_with fail
              refine asString_c ha'.out _ ?_
              intro wn hEn; replace hca := hEn.keep hca; replace hcb := hEn.keep hcb; replace hA := hA.trans hEn; clear hEn; dsimp only; go_wp2_with fail
              refine asString_c hb'.out _ ?_
              intro wn hEn; replace hca := hEn.keep hca; replace hcb := hEn.keep hcb; replace hA := hA.trans hEn; clear hEn; dsimp only; go_wp2_with fail
              refine stringsCompare_e _ ?_
              intro wn hEn; replace hca := hEn.keep hca; replace hcb := hEn.keep hcb; replace hA := hA.trans hEn; clear hEn; dsimp only; go_wp2_with fail
              refine leaves_free (by simp [results, Tryz.results173, go_sem]; try rfl) (hR'.out.of ?_ _ hA) _ (by simp [freeD])
              have hv := show cmpT (T.str m) (T.str n) = cmpS m n from cmpT_str _ _
              rw [hv]
        · obtain ⟨n, rfl⟩ := T.int_of hbint
          clear hbint
          intro wn hEn; replace hca := hEn.keep hca; replace hcb := hEn.keep hcb; replace hA := hA.trans hEn; clear hEn; dsimp only; go_wp2_with fail
          refine leaves_free (by simp [results, Tryz.results173, go_sem]; try rfl) (hR'.out.of ?_ _ hA) _ (by simp [freeD])
          have hv := show cmpT a (T.int n) = 1 from cmpT_gt (rk_2 kafloat.out kaint.out)
          rw [hv]
      · obtain ⟨m, rfl⟩ := T.int_of haint
        clear haint
        intro wn hEn; replace hca := hEn.keep hca; replace hcb := hEn.keep hcb; replace hA := hA.trans hEn; clear hEn; dsimp only; go_wp2_with fail
        refine isInt_c hb'.out _ ?_
        cases hbint : T.isInt b
        · have kbint := Lib.hid hbint
          clear hbint
          intro wn hEn; replace hca := hEn.keep hca; replace hcb := hEn.keep hcb; replace hA := hA.trans hEn; clear hEn; dsimp only; go_wp2_with fail
          refine leaves_free (by simp [results, Tryz.results173, go_sem]; try rfl) (hR'.out.of ?_ _ hA) _ (by simp [freeD])
          have hv := show cmpT (T.int m) b = -1 from cmpT_lt (rk_2 kbfloat.out kbint.out)
          rw [hv]
        · obtain ⟨n, rfl⟩ := T.int_of hbint
          clear hbint
          intro wn hEn; replace hca := hEn.keep hca; replace hcb := hEn.keep hcb; replace hA := hA.trans hEn; clear hEn; dsimp only; go_wp2_with fail
          refine asInt_c ha'.out _ ?_
          intro wn hEn; replace hca := hEn.keep hca; replace hcb := hEn.keep hcb; replace hA := hA.trans hEn; clear hEn; dsimp only; go_wp2_with fail
          refine asInt_c hb'.out _ ?_
          intro wn hEn; replace hca := hEn.keep hca; replace hcb := hEn.keep hcb; replace hA := hA.trans hEn; clear hEn; dsimp only; go_wp2_with fail
          refine intCompare_c _ ?_
          intro wn hEn; replace hca := hEn.keep hca; replace hcb := hEn.keep hcb; replace hA := hA.trans hEn; clear hEn; dsimp only; go_wp2_with fail
          refine leaves_free (by simp [results, Tryz.results173, go_sem]; try rfl) (hR'.out.of ?_ _ hA) _ (by simp [freeD])
          have hv := show cmpT (T.int m) (T.int n) = cmpI m n from cmpT_int _ _
          rw [hv]
    · obtain ⟨n, rfl⟩ := T.float_of hbfloat
      clear hbfloat
      intro wn hEn; replace hca := hEn.keep hca; replace hcb := hEn.keep hcb; replace hA := hA.trans hEn; clear hEn; dsimp only; go_wp2_with fail
      refine isInt_c ha'.out _ ?_
      cases haint : T.isInt a
      · have kaint := Lib.hid haint
        clear haint
        intro wn hEn; replace hca := hEn.keep hca; replace hcb := hEn.keep hcb; replace hA := hA.trans hEn; clear hEn; dsimp only; go_wp2_with fail
        refine leaves_free (by simp [results, Tryz.results173, go_sem]; try rfl) (hR'.out.of ?_ _ hA) _ (by simp [freeD])
        have hv := show cmpT a (T.float n) = 1 from cmpT_gt (rk_2 kafloat.out kaint.out)
        rw [hv]
      · obtain ⟨m, rfl⟩ := T.int_of haint
        clear haint
        intro wn hEn; replace hca := hEn.keep hca; replace hcb := hEn.keep hcb; replace hA := hA.trans hEn; clear hEn; dsimp only; go_wp2_with fail
        refine asInt_c ha'.out _ ?_
        intro wn hEn; replace hca := hEn.keep hca; replace hcb := hEn.keep hcb; replace hA := hA.trans hEn; clear hEn; dsimp only; go_wp2_with fail
        refine asFloat_c hb'.out _ ?_
        intro wn hEn; replace hca := hEn.keep hca; replace hcb := hEn.keep hcb; replace hA := hA.trans hEn; clear hEn; dsimp only; go_wp2_with fail
        refine floatCompare_c _ ?_
        intro wn hEn; replace hca := hEn.keep hca; replace hcb := hEn.keep hcb; replace hA := hA.trans hEn; clear hEn; dsimp only; go_wp2_with fail
        refine leaves_free (by simp [results, Tryz.results173, go_sem]; try rfl) (hR'.out.of ?_ _ hA) _ (by simp [freeD])
        have hv := show cmpT (T.int m) (T.float n) = cmpF (toF m) n from cmpT_if _ _
        rw [hv]
        rfl
  · obtain ⟨m, rfl⟩ := T.float_of hafloat
    clear hafloat
    intro wn hEn; replace hca := hEn.keep hca; replace hcb := hEn.keep hcb; replace hA := hA.trans hEn; clear hEn; dsimp only; go_wp2_with fail
    refine isFloat_c hb'.out _ ?_
    cases hbfloat : T.isFloat b
    · have kbfloat := Lib.hid hbfloat
      clear hbfloat
      intro wn hEn; replace hca := hEn.keep hca; replace hcb := hEn.keep hcb; replace hA := hA.trans hEn; clear hEn; dsimp only; go_wp2_with fail
      refine isInt_c hb'.out _ ?_
      cases hbint : T.isInt b
      · have kbint := Lib.hid hbint
        clear hbint
        intro wn hEn; replace hca := hEn.keep hca; replace hcb := hEn.keep hcb; replace hA := hA.trans hEn; clear hEn; dsimp only; go_wp2_with fail
        refine leaves_free (by simp [results, Tryz.results173, go_sem]; try rfl) (hR'.out.of ?_ _ hA) _ (by simp [freeD])
        have hv := show cmpT (T.float m) b = -1 from cmpT_lt (rk_2 kbfloat.out kbint.out)
        rw [hv]
      · obtain ⟨n, rfl⟩ := T.int_of hbint
        clear hbint
        intro wn hEn; replace hca := hEn.keep hca; replace hcb := hEn.keep hcb; replace hA := hA.trans hEn; clear hEn; dsimp only; go_wp2_with fail
        refine asFloat_c ha'.out _ ?_
        intro wn hEn; replace hca := hEn.keep hca; replace hcb := hEn.keep hcb; replace hA := hA.trans hEn; clear hEn; dsimp only; go_wp2_with fail
        refine asInt_c hb'.out _ ?_
        intro wn hEn; replace hca := hEn.keep hca; replace hcb := hEn.keep hcb; replace hA := hA.trans hEn; clear hEn; dsimp only; go_wp2_with fail
        refine floatCompare_c _ ?_
        intro wn hEn; replace hca := hEn.keep hca; replace hcb := hEn.keep hcb; replace hA := hA.trans hEn; clear hEn; dsimp only; go_wp2_with fail
        refine leaves_free (by simp [results, Tryz.results173, go_sem]; try rfl) (hR'.out.of ?_ _ hA) _ (by simp [freeD])
        have hv := show cmpT (T.float m) (T.int n) = cmpF m (toF n) from cmpT_fi _ _
        rw [hv]
        rfl
    · obtain ⟨n, rfl⟩ := T.float_of hbfloat
      clear hbfloat
      intro wn hEn; replace hca := hEn.keep hca; replace hcb := hEn.keep hcb; replace hA := hA.trans hEn; clear hEn; dsimp only; go_wp2_with fail
      refine asFloat_c ha'.out _ ?_
      intro wn hEn; replace hca := hEn.keep hca; replace hcb := hEn.keep hcb; replace hA := hA.trans hEn; clear hEn; dsimp only; go_wp2_with fail
      refine asFloat_c hb'.out _ ?_
      intro wn hEn; replace hca := hEn.keep hca; replace hcb := hEn.keep hcb; replace hA := hA.trans hEn; clear hEn; dsimp only; go_wp2_with fail
      refine floatCompare_c _ ?_
      intro wn hEn; replace hca := hEn.keep hca; replace hcb := hEn.keep hcb; replace hA := hA.trans hEn; clear hEn; dsimp only; go_wp2_with fail
      refine leaves_free (by simp [results, Tryz.results173, go_sem]; try rfl) (hR'.out.of ?_ _ hA) _ (by simp [freeD])
      have hv := show cmpT (T.float m) (T.float n) = cmpF m n from cmpT_ff _ _
      rw [hv]

theorem compare_c (b : T) : CmC b := by
  induction b using T.ind with
  | null => exact compare_step trivial
  | bool _ => exact compare_step trivial
  | int _ => exact compare_step trivial
  | float _ => exact compare_step trivial
  | str _ => exact compare_step trivial
  | list l ih => exact compare_step (b := .list l) ih
  | map ks l ih => exact compare_step (b := .map ks l) (fun i h => by simpa using ih i (by simp at h; omega))
end Go.Proofs.YtihapgangilncaaGreat
