/- schema.zzDeepEqual: what it computes over trees. -/
import Derived.Test.YtnndacgokehkpaaEqE
namespace Go.Proofs.Ytnndacgokehkpaa
open Go.RowKit
set_option linter.unusedSimpArgs false

mutual
def dpT : T → T → Bool
  | .null, b => b.isNull
  | .bool x, b => match b with | .bool y => x == y | _ => false
  | .int x, b => match b with | .int y => x == y | _ => false
  | .float x, b => match b with | .float y => feq x y | _ => false
  | .str x, b => match b with | .str y => x == y | _ => false
  | .list l, b => match b with | .list m => decide (l.length = m.length) && dpTs l m | _ => false
  | .map ks l, b => match b with | .map js m => decide ((ks.zip l).length = (js.zip m).length) && dpTm ks l (js.zip m) | _ => false
def dpTs : List T → List T → Bool
  | x :: l, y :: m => dpT x y && dpTs l m
  | _, _ => true
def dpTm : List ByteArray → List T → EntsOfT T → Bool
  | k :: ks, x :: l, es => (match getEnt k es with | some y => dpT x y | none => false) && dpTm ks l es
  | _, _, _ => true
end

def inMapD (es : EntsOfT T) (p : ByteArray × T) : Bool := match getEnt p.1 es with
  | some y => dpT p.2 y
  | none => false
theorem dpTm_iff {es : EntsOfT T} : ∀ {ks : List ByteArray} {l : List T}, dpTm ks l es = true ↔ ∀ i (h : i < (ks.zip l).length), inMapD es (ks.zip l)[i] = true
  | [], _ => by simp [dpTm]
  | k :: ks, [] => by simp [dpTm]
  | k :: ks, y :: l => by
    have ih := @dpTm_iff es ks l
    have e : dpTm (k :: ks) (y :: l) es = (inMapD es (k, y) && dpTm ks l es) := by simp [dpTm, inMapD]; try rfl
    rw [e, Bool.and_eq_true, ih]
    constructor
    · rintro ⟨h1, h2⟩ i hi
      cases i with
      | zero => exact h1
      | succ i => exact h2 i (by simpa using hi)
    · intro h
      exact ⟨h 0 (by simp), fun i hi => h (i + 1) (by simpa using hi)⟩
theorem dpTs_iff : ∀ {m l : List T}, m.length = l.length → (dpTs m l = true ↔ ∀ i (h : i < m.length) (h2 : i < l.length), dpT m[i] l[i] = true)
  | [], [], _ => by simp [dpTs]
  | [], _ :: _, h => by simp at h
  | _ :: _, [], h => by simp at h
  | x :: m, y :: l, h => by
    simp only [dpTs, Bool.and_eq_true, dpTs_iff (m := m) (l := l) (by simpa using h)]
    constructor
    · rintro ⟨h1, h2⟩ i hi hi2
      cases i with
      | zero => exact h1
      | succ i => exact h2 i (by simpa using hi) (by simpa using hi2)
    · intro h
      exact ⟨h 0 (by simp) (by simp), fun i hi hi2 => h (i + 1) (by simpa using hi) (by simpa using hi2)⟩

theorem eql_nil_map (r : Nat) (w : World) : (binOp .eql 86 (.map (some r)) (.map none)).run Try.prog w = .ok (.bool false) w := by kernel_rfl
theorem eql_nil_slice (a : Addr) (n c : Nat) (w : World) : (binOp .eql 117 (.slice (some a) n c) (.slice none 0 0)).run Try.prog w = .ok (.bool false) w := by kernel_rfl

def DpC (a : T) : Prop := ∀ (w : World) (X Y : List Nat) (b : T) (x y : Value), IsT w X x a → IsT w Y y b → ∀ R : Ending → World → Prop, Ends R w (.bool (dpT a b)) →
  Calls Try.prog 59 #[x, y] w R

set_option maxRecDepth 100000 in
set_option maxHeartbeats 4000000 in
set_option pp.maxSteps 1000000 in
set_option pp.deepTerms true in
theorem deep_list {l : List T} (ih : ∀ i (h : i < l.length), DpC l[i]) : DpC (.list l) := by
  intro w X Y b x y hx hy R hR
  obtain ⟨v1, rfl, h1⟩ := hx.inv_list
  obtain ⟨b1, f1, k1, rfl, l1, p1, n1, g1⟩ := id h1.ex
  have hR' := Lib.hid hR
  have ih' := Lib.hid ih
  have g1' := Lib.hid g1
  clear hR ih g1 h1 hx
  by_cases hbl : b.isList = true
  · obtain ⟨m, rfl⟩ := T.list_of hbl
    obtain ⟨v2, rfl, h2⟩ := hy.inv_list
    obtain ⟨b2, f2, k2, rfl, l2, p2, n2, g2⟩ := id h2.ex
    have g2' := Lib.hid g2
    clear g2 h2 hy hbl
    by_cases hlen : l.length = m.length
    · have hlen' := Lib.hid hlen
      have hn1 := fun w => eql_nil_slice ⟨b1, f1, none⟩ l.length k1 w
      have hn2 := fun w => eql_nil_slice ⟨b2, f2, none⟩ l.length k2 w
      rw [← hlen]
      clear hlen
      go_enter Try.func59, Try.ntmps59
      go_wp2_with fail
      clear hn1 hn2
      go_loopw [21, 115] (fun _ i wr => ∃ k : Nat, k ≤ l.length ∧ i = .int .i64 k ∧ Ext w wr ∧ Hid (∀ j (h : j < l.length) (h2 : j < m.length), j < k → dpT l[j] m[j] = true)) (fun _ i _ => l.length - (intOf i).toNat)
      case atStart => exact ⟨0, Nat.zero_le _, rfl, Ext.refl _, fun j _ _ hj => by omega⟩
      case round =>
        obtain ⟨k, hk, rfl, hE, hall⟩ := hrel
        by_cases hlt : k < l.length
        · have hlt2 : k < m.length := by have := hlen'.out; omega
          obtain ⟨xa, q0, q1⟩ := g1'.out k hlt
          obtain ⟨ya, r0, r1⟩ := g2'.out k hlt2
          have hkm : (k : Int) + 1 ≤ 9223372036854775807 := by omega
          have x0 := hE.keep q0
          have y0 := hE.keep r0
          have ox := q1.one
          have oy := r1.one
          have q1' := Lib.hid (q1.mv (hE.mv X))
          have r1' := Lib.hid (r1.mv (hE.mv Y))
          clear q0 r0 q1 r1
          have hi1 : (k : Int) < (l.length : Int) := by omega
          have hkl := Lib.hid hlt2
          have hE' := Lib.hid hE
          clear hE
          go_wp2_with fail
          refine wp_region_script [0, 1, 2, 3, 4, 5, 6, 7, 9] [] (fun w' => Ext wr w') [(.pure, 0), (.pure, 1), (.pure, 2), (.read, 3), (.pure, 4), (.pure, 5), (.pure, 6), (.read, 7), (.one, 8), (.pure, 9)] (by kernel_rfl) (by kernel_rfl) ?_
          iterate 3 (apply scr_pure'; (· rfl); (· rfl); (· (intro w'; go_simp; try rfl)); (· (simp [go_sem]; try rfl)))
          (apply scr_read'; (· rfl); (· rfl); (· first | exact hC | exact (Ext.refl _).drew); (· (intro w' hw'; have x0_ := hw'.keep x0; have y0_ := hw'.keep y0; go_simp; try rfl)); (· (simp [go_sem]; try rfl)))
          iterate 3 (apply scr_pure'; (· rfl); (· rfl); (· (intro w'; go_simp; try rfl)); (· (simp [go_sem]; try rfl)))
          (apply scr_read'; (· rfl); (· rfl); (· first | exact hC | exact (Ext.refl _).drew); (· (intro w' hw'; have x0_ := hw'.keep x0; have y0_ := hw'.keep y0; go_simp; try rfl)); (· (simp [go_sem]; try rfl)))
          refine scr_one rfl rfl (fun K hK => ?_)
          go_simp
          refine ih'.out k hlt _ X Y (m[k]'hkl.out) _ _ (q1'.out.mv ((Ext.refl _).drew.mv _)) (r1'.out.mv ((Ext.refl _).drew.mv _)) _ ?_
          intro w3 hE3
          refine hK _ _ (fun h => by simp at h) ?_
          clear hK
          obtain ⟨db, hdb⟩ : ∃ d, dpT l[k] (m[k]'hkl.out) = d := ⟨_, rfl⟩
          rw [hdb]
          have hdb' := Lib.hid hdb
          clear hdb
          cases db
          · (apply scr_pure'; (· rfl); (· rfl); (· (intro w'; go_simp; try rfl)); (· (simp [go_sem]; try rfl)))
            refine scr_end ?_
            simp only [Exit.then]
            go_wp2_with fail
            refine hR'.out.bool ?_ _ (hE'.out.trans ((Ext.refl _).drew.trans hE3))
            have : dpTs l m = false := Bool.eq_false_iff.2 fun h => by
              have := (dpTs_iff hlen'.out).1 h k hlt hkl.out
              rw [hdb'.out] at this
              cases this
            simp only [dpT, this, Bool.and_false]
          · (apply scr_pure'; (· rfl); (· rfl); (· (intro w'; go_simp; try rfl)); (· (simp [go_sem]; try rfl)))
            refine scr_end ?_
            simp only [Exit.then]
            go_wp2_with fail
            go_roundw
            case rel =>
              refine ⟨k + 1, by omega, by go_num, hE'.out.trans ((Ext.refl _).drew.trans hE3), fun j h h2 hj => ?_⟩
              by_cases e : j = k
              · subst e; exact hdb'.out
              · exact hall.out j h h2 (by omega)
            case measure => simp [intOf]; omega
        · have hfin := Lib.hid (show dpT (.list l) (.list m) = true by
            simp only [dpT, decide_eq_true hlen'.out, Bool.true_and]
            exact (dpTs_iff hlen'.out).2 fun i h h2 => hall.out i h h2 (by omega))
          go_wp2_with fail
          exact hR'.out.bool hfin.out _ hE
    · have hlI : ((l.length : Int) == (m.length : Int)) = false := by rw [beq_eq_false_iff_ne]; omega
      have hlen' := Lib.hid hlen
      have hn1 := fun w => eql_nil_slice ⟨b1, f1, none⟩ l.length k1 w
      have hn2 := fun w => eql_nil_slice ⟨b2, f2, none⟩ m.length k2 w
      clear hlen
      go_enter Try.func59, Try.ntmps59
      go_wp2_with fail
      exact hR'.out.bool (by simp [dpT, hlen'.out]) _ (Ext.refl _)
  · cases hy with
    | list => exact absurd rfl hbl
    | _ =>
      go_enter Try.func59, Try.ntmps59
      go_wp2_with fail
      exact hR'.out.bool (by simp [dpT]) _ (Ext.refl _)

set_option maxRecDepth 100000 in
set_option maxHeartbeats 4000000 in
set_option pp.maxSteps 1000000 in
set_option pp.deepTerms true in
theorem deep_map {ks : List ByteArray} {l : List T} (ih : ∀ i (h : i < (ks.zip l).length), DpC ((ks.zip l)[i]).2) : DpC (.map ks l) := by
  intro w X Y b x y hx hy R hR
  obtain ⟨r, rfl, h1, hkl⟩ := hx.inv_map
  obtain ⟨⟨us, hu, hea⟩, -⟩ := id h1
  have hul := hea.length
  have hR' := Lib.hid hR
  have ih' := Lib.hid ih
  have hea' := Lib.hid hea
  clear hR ih h1 hx hkl hea
  by_cases hbl : b.isMap = true
  · obtain ⟨js, m, rfl⟩ := T.map_of hbl
    obtain ⟨r2, rfl, h2, hjm⟩ := hy.inv_map
    obtain ⟨⟨us2, hu2, heb⟩, -⟩ := id h2
    have hul2 := heb.length
    have heb' := Lib.hid heb
    clear heb
    clear h2 hy hbl hjm
    have hl := run_len_ents (P := Try.prog) Try.underlying86 3 hu
    have hn1 := fun w => eql_nil_map r w
    have hn2 := fun w => eql_nil_map r2 w
    have hl2 := run_len_ents (P := Try.prog) Try.underlying86 3 hu2
    by_cases hlen : us.length = us2.length
    · rw [← hlen] at hl2
      have hlen' := Lib.hid hlen
      obtain ⟨ob, hrun, hit⟩ := run_range_ents (P := Try.prog) Try.underlying86 hu
      have hul' := Lib.hid hul
      have hul2' := Lib.hid hul2
      have hu' := Lib.hid hu
      have hu2' := Lib.hid hu2
      clear hlen hul hul2 hu hu2
      go_enter Try.func59, Try.ntmps59
      go_wp2_with fail
      have hsz0 : w.heap.size < (w.alloc ob).heap.size := by simp
      go_loopw [25, 26, 27, 28] (fun _ _ _ _ wr => ∃ (don : List Nat), Ext w wr ∧ w.heap.size < wr.heap.size ∧ IterAt wr w.heap.size r us don ∧ (∀ i ∈ don, i < us.length) ∧ Hid (∀ i ∈ don, ∀ h : i < (ks.zip l).length, inMapD (js.zip m) (ks.zip l)[i] = true))
        (fun _ _ _ _ wr => us.length - seenOf wr w.heap.size)
      case atStart => exact ⟨[], (Ext.refl w).push ob, hsz0, hit, by simp, Lib.hid (fun i hi => by cases hi)⟩
      case round =>
        obtain ⟨don, hE, hsz, hI, hdl, hall⟩ := hrel
        rename World => wr
        clear hit hrun hl hl2 hsz0 hn1 hn2
        go_wp2_with (refine wpL_next rfl _ rfl rfl hI ?_ ?_)
        · intro i hi hni w2 hI2 hg2 hs2
          have hent := run_entry_ents (P := Try.prog) hi hI2
          have hi' : i < (ks.zip l).length := by rw [← hul'.out]; exact hi
          have hE2 : Ext w w2 := hE.grown hg2 (fun k hk => by cases hk; exact Nat.le_refl _)
          obtain ⟨hkey, hval⟩ := hea'.out.get i hi hi'
          have hone := hval.one
          have hlw := run_lookup_ents_ok (P := Try.prog) (w := w2) Try.underlying86 Try.underlying9 (hu2'.out.ext hE2) (us[i]).1 .nilIface (zero_any w2)
          have hmea := Lib.hid hI.seen
          have hval' := Lib.hid (hval.mv (hE2.mv X))
          have hE2' := Lib.hid hE2
          have hnd := Lib.hid hI2.nodup
          have hI2' := Lib.hid hI2
          have hdl' := Lib.hid hdl
          clear hval hE2 hE hI hg2 hs2 hsz hI2 hdl
          rcases heb'.out.find (us[i]).1 with ⟨g1, g2⟩ | ⟨y2, u, g1, g2, g3⟩
          · rw [g1] at hlw
            have hno := Lib.hid (show inMapD (js.zip m) (ks.zip l)[i] = false by unfold inMapD; rw [← hkey, g2])
            clear g1 g2 hkey
            go_wp2_with fail
            refine hR'.out.bool ?_ _ hE2'.out
            have : dpTm ks l (js.zip m) = false := Bool.eq_false_iff.2 fun h => by
              have := dpTm_iff.1 h i hi'
              rw [hno.out] at this
              cases this
            simp only [dpT, this, Bool.and_false]
          · rw [g1] at hlw
            have hin := Lib.hid (show inMapD (js.zip m) (ks.zip l)[i] = dpT ((ks.zip l)[i]).2 u by unfold inMapD; rw [← hkey, g2])
            have ho2 := g3.one
            have g3' := Lib.hid (g3.mv (hE2'.out.mv Y))
            clear g1 g2 g3 hkey
            go_wp2_with fail
            refine ih'.out i hi' _ X Y u _ _ hval'.out g3'.out _ ?_
            rw [← hin.out]
            intro w3 hE3
            have hI3 : IterAt w3 w.heap.size r us (don ++ [i]) := hI2'.out.keep (hE3.below.block _ hI2'.out.lt.1) (hE3.below.block _ hI2'.out.lt.2.1)
            obtain ⟨db, hdb⟩ : ∃ d, inMapD (js.zip m) (ks.zip l)[i] = d := ⟨_, rfl⟩
            rw [hdb]
            have hdb' := Lib.hid hdb
            have hI3' := Lib.hid hI3
            clear hdb hI3 hlw hent
            dsimp only
            cases db
            · go_wp2_with fail
              refine hR'.out.bool ?_ _ (hE2'.out.trans hE3)
              have : dpTm ks l (js.zip m) = false := Bool.eq_false_iff.2 fun h => by
                have := dpTm_iff.1 h i hi'
                rw [hdb'.out] at this
                cases this
              simp only [dpT, this, Bool.and_false]
            · go_wp2_with fail
              go_roundw
              case rel =>
                refine ⟨don ++ [i], hE2'.out.trans hE3, hI3'.out.lt.1, hI3'.out, fun j hj => ?_, Lib.hid fun j hj h => ?_⟩
                · rcases List.mem_append.1 hj with hj | hj
                  · exact hdl'.out j hj
                  · rw [List.mem_singleton] at hj; rw [hj]; exact hi
                · rcases List.mem_append.1 hj with hj | hj
                  · exact hall.out j hj h
                  · rw [List.mem_singleton] at hj; subst hj; exact hdb'.out
              case measure =>
                rw [hI3'.out.seen, hmea.out, List.length_append, List.length_singleton]
                have := nodup_bound us.length _ hI3'.out.nodup (fun j hj => by
                  rcases List.mem_append.1 hj with hj | hj
                  · exact hdl'.out j hj
                  · rw [List.mem_singleton] at hj; rw [hj]; exact hi)
                simp only [List.length_append, List.length_singleton] at this
                omega
        · intro hallIn
          have hfin := Lib.hid (show dpT (.map ks l) (.map js m) = true by
            have e : (ks.zip l).length = (js.zip m).length := by rw [← hul'.out, ← hul2'.out]; exact hlen'.out
            simp only [dpT, decide_eq_true e, Bool.true_and]
            exact dpTm_iff.2 fun i h => hall.out i (hallIn i (by rw [hul'.out]; exact h)) h)
          clear hallIn
          go_wp2_with fail
          exact hR'.out.bool hfin.out _ hE
    · have hlI : ((us.length : Int) == (us2.length : Int)) = false := by rw [beq_eq_false_iff_ne]; omega
      have hq := Lib.hid (show ¬ (ks.zip l).length = (js.zip m).length by rw [← hul, ← hul2]; exact hlen)
      clear hlen hul hul2 hu hu2
      go_enter Try.func59, Try.ntmps59
      go_wp2_with fail
      exact hR'.out.bool (by have := hq.out; simp only [dpT, decide_eq_false this, Bool.false_and]) _ (Ext.refl _)
  · cases hy with
    | map => exact absurd rfl hbl
    | _ =>
      go_enter Try.func59, Try.ntmps59
      go_wp2_with fail
      exact hR'.out.bool (by simp [dpT]) _ (Ext.refl _)

theorem bytes_beq' (s t : ByteArray) : (s.toList == t.toList) = (s == t) := by
  by_cases h : s = t
  · subst h; simp
  · rw [beq_eq_false_iff_ne.2 h]
    exact beq_eq_false_iff_ne.2 fun e => h (toList_inj e)

set_option maxRecDepth 100000 in
set_option maxHeartbeats 8000000 in
theorem deep_scalar {a : T} (hl : a.isList = false) (hm : a.isMap = false) : DpC a := by
  intro w X Y b x y hx hy R hR
  have hR' := Lib.hid hR
  clear hR
  cases hx with
  | list => cases hl
  | map => cases hm
  | _ =>
    cases hy <;>
    (go_enter Try.func59, Try.ntmps59
     go_wp2_with fail
     exact hR'.out.bool (by first | rfl | (simp [dpT, T.isNull, feq]; done) | (simp [dpT, T.isNull, feq]; exact (bytes_beq' _ _).symm)) _ (Ext.refl _))

theorem deep_c (a : T) : DpC a := by
  induction a using T.ind with
  | null => exact deep_scalar rfl rfl
  | bool _ => exact deep_scalar rfl rfl
  | int _ => exact deep_scalar rfl rfl
  | float _ => exact deep_scalar rfl rfl
  | str _ => exact deep_scalar rfl rfl
  | list l ih => exact deep_list ih
  | map ks l ih => exact deep_map (fun i h => by simpa using ih i (by simp at h; omega))
end Go.Proofs.Ytnndacgokehkpaa
