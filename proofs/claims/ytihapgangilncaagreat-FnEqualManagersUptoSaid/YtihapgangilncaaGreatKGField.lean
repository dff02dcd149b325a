/- spec.fieldIndex and spec.WithField. -/
import Derived.Test.YtihapgangilncaaGreatKGPlain
import Derived.Test.YtihapgangilncaaGreatKGStr
import Derived.Deep.QuietTactic
import Derived.BigQuiet
namespace Go.Proofs.YtihapgangilncaaGreat
open Go.RowKit

theorem hasB_get {key : ByteArray} {ks : List ByteArray} {n : Nat} (hn : lowB key ks = n) (h : n < ks.length) : hasB key ks = (ks[n].toList == key.toList) := by
  subst hn
  rw [hasB, dif_pos h, beq_toListBytes]
theorem hasB_out {key : ByteArray} {ks : List ByteArray} {n : Nat} (hn : lowB key ks = n) (h : ks.length ≤ n) : hasB key ks = false := by
  subst hn
  rw [hasB, dif_neg (by omega)]

theorem hasB_lt {key : ByteArray} {ks : List ByteArray} (h : hasB key ks = true) : lowB key ks + 1 ≤ ks.length := by
  rw [hasB] at h
  split at h
  · omega
  · simp at h

set_option maxRecDepth 100000 in
set_option maxHeartbeats 1000000 in
theorem fieldIndex_c {w : World} {X : List Nat} {cs : List Value} {kind n : Int} {f : Nat} {s : ByteArray} {keys : List ByteArray} {l : List V} (hv : IsV w X cs (.mk kind n f s keys l)) (key : ByteArray) (hsort : Rising keys)
    (R : Ending → World → Prop) (hR : Ends R w (.tuple #[.int .i64 (lowB key keys), .bool (hasB key keys)])) :
    Calls Tryz.prog 90 #[.agg cs.toArray, .string key] w R := by
  obtain ⟨ko, kc, o, c, rfl, hwf, hks, hl⟩ := hv.inv
  obtain ⟨_, _, b, off, e, h2, h3, h4, h5⟩ := hks.ex
  cases e
  have hR' := Lib.hid hR
  have hso := Lib.hid hsort.lt
  clear hR hv hks hl hwf hsort
  go_enter Tryz.func90, Tryz.ntmps90
  go_wp2_with fail
  refine abs1 (G := Code.wp _ _ _ _) ?_
  intro w1 hE1 hb1 hs1
  have p4 : w1.cell? ⟨w.heap.size, 4, none⟩ = some (.slice ko keys.length kc) := cells_of hb1 4
  clear hb1
  go_quiet (fail)
  go_wp2_with fail
  have hml : keys.length ≤ 9223372036854775807 := by omega
  go_loopw [6, 7] (fun lo hi wr => ∃ i j : Nat, i ≤ j ∧ j ≤ keys.length ∧ lo = .int .i64 i ∧ hi = .int .i64 j ∧ wr = w1.drewN nq ∧ Hid (∀ m (h : m < keys.length), m < i → slt (keys[m]) key = true) ∧ Hid (∀ m (h : m < keys.length), j ≤ m → slt (keys[m]) key = false))
    (fun lo hi _ => (intOf hi).toNat - (intOf lo).toNat)
  case atStart => exact ⟨0, keys.length, Nat.zero_le _, Nat.le_refl _, rfl, rfl, rfl, fun m _ h => by omega, fun m h h' => by omega⟩
  case round =>
    obtain ⟨i, j, hij, hj, rfl, rfl, rfl, hlo, hhi⟩ := hrel
    by_cases hlt : i < j
    · obtain ⟨rfl, hbX⟩ := h4 (by omega)
      have hm : i + (j - i) / 2 < keys.length := by omega
      have d0 := (hE1.mv X |>.cell hbX (h5 (i + (j - i) / 2) hm).1).1
      clear h4 h5
      go_wp2_with fail
      · have ht : slt (keys[i + (j - i) / 2]) key = true := by assumption
        go_roundw
        case rel =>
          refine ⟨i + (j - i) / 2 + 1, j, by omega, hj, by go_num, rfl, trivial, fun m h hm' => ?_, hhi⟩
          by_cases e : m = i + (j - i) / 2
          · subst e; exact ht
          · exact slt_trans (hso.out m _ (by omega) (by omega)) ht
        case measure => simp [intOf]; omega
      · have ht : slt (keys[i + (j - i) / 2]) key = false := by assumption
        go_roundw
        case rel =>
          refine ⟨i, i + (j - i) / 2, by omega, by omega, rfl, by go_num, trivial, hlo, fun m h hm' => ?_⟩
          by_cases e : m = i + (j - i) / 2
          · subst e; exact ht
          · rw [Bool.eq_false_iff]
            intro h'
            have := slt_trans (hso.out (i + (j - i) / 2) m (by omega) h) h'
            rw [ht] at this
            cases this
        case measure => simp [intOf]; omega
    · obtain rfl : i = j := by omega
      have hlow : lowB key keys = i := lowB_eq key keys i hj hlo (fun h => hhi i h (Nat.le_refl _))
      by_cases hi : i < keys.length
      · obtain ⟨rfl, hbX⟩ := h4 (by omega)
        have d0 := (hE1.mv X |>.cell hbX (h5 i hi).1).1
        have hd : decide ((i : Int) < (keys.length : Int)) = true := by simp; omega
        have hlow' := Lib.hid hlow
        clear h4 h5 hlow
        go_wp2_with fail
        go_quiet (fail)
        go_wp2_with fail
        exact (hR'.out.of (by rw [hasB_get hlow'.out hi, hlow'.out]; rfl)) _ ((hE1.drewN _).drewN _)
      · have hd : decide ((i : Int) < (keys.length : Int)) = false := by simp; omega
        have hlow' := Lib.hid hlow
        clear h4 h5 hlow
        go_wp2_with fail
        go_quiet (fail)
        go_wp2_with fail
        exact (hR'.out.of (by rw [hasB_out hlow'.out (by omega), hlow'.out]; rfl)) _ ((hE1.drewN _).drewN _)

/-- the memory of WithField while it builds its result -/
structure Bx (w wr : World) (mb rb ob : Nat) (Cm Cv : Array Value) (ks ls : Value) (n1 n2 : Nat) (xs1 xs2 : List Value) : Prop where
  ext : Ext w wr
  size : w.heap.size ≤ mb ∧ mb + 1 < rb + 1 ∧ mb + 2 = rb ∧ rb < ob ∧ ob < wr.heap.size
  hm : wr.heap[mb]? = some (.cells Cm 45 (0, 0))
  hv : wr.heap[mb + 1]? = some (.cells Cv 45 (0, 0))
  hr : wr.heap[rb]? = some (.cells #[.int .i64 0, .int .i64 0, .float .f64 0, .string ⟨#[]⟩, .slice none 0 0, .slice none 0 0] 45 (0, 0))
  ho : wr.heap[ob]? = some (.cells #[.int .i64 6, .int .i64 0, .float .f64 0, .string ⟨#[]⟩, ks, ls] 45 (0, 0))
  ok : Own wr 9 1 ks n1 xs1
  ol : Own wr 45 6 ls n2 xs2
  fk : ∀ g, ks.ownBlock = some g → ob < g ∧ ls.ownBlock ≠ some g
  fl : ∀ g, ls.ownBlock = some g → ob < g

theorem Bx.keys {w wr w1 w2 : World} {mb rb ob : Nat} {Cm Cv : Array Value} {ks ks' ls : Value} {n1 n1' n2 : Nat} {xs1 xs1' xs2 : List Value} (h : Bx w wr mb rb ob Cm Cv ks ls n1 n2 xs1 xs2)
    (ho : Own w1 9 1 ks' n1' xs1') (hg : wr.grownBy w1 ks.ownBlock) (hd : ∀ g, ks'.ownBlock = some g → ks.ownBlock = some g ∨ wr.heap.size ≤ g)
    (hh : w2.heap[ob]? = some (.cells #[.int .i64 6, .int .i64 0, .float .f64 0, .string ⟨#[]⟩, ks', ls] 45 (0, 0))) (hg2 : w1.grownBy w2 (some ob)) : Bx w w2 mb rb ob Cm Cv ks' ls n1' n2 xs1' xs2 := by
  obtain ⟨e, ⟨s1, s2, s3, s4, s5⟩, hm, hv, hr, ho', ok, ol, fk, fl⟩ := h
  have hs := hg.size
  have old : ∀ b, b < ob → b < wr.heap.size → w2.heap[b]? = wr.heap[b]? := fun b hb hb' =>
    (hg2.block b (by omega) (by simp; omega)).trans (hg.block b hb' (fun e => by have := (fk b e.symm).1; omega))
  refine ⟨(e.grown hg (fun k hk => by have := (fk k hk).1; omega)).grown hg2 (fun k hk => by simp at hk; omega), ⟨s1, s2, s3, s4, by have := hg2.size; omega⟩, (old _ (by omega) (by omega)).trans hm, (old _ (by omega) (by omega)).trans hv,
    (old _ (by omega) (by omega)).trans hr, hh, ho.keep (fun g hg' => hg2.block g (ho.lt hg') (fun e => ?_)), (ol.keep (fun g hg' => hg.block g (ol.lt hg') (fun e => (fk g e.symm).2 hg'))).keep (fun g hg' => hg2.block g (by have := ol.lt hg'; omega) (fun e => ?_)), fun g hg' => ⟨?_, fun hl => ?_⟩, fl⟩
  · simp at e
    rcases hd g hg' with h | h
    · have := (fk g h).1; omega
    · omega
  · simp at e
    have := fl g hg'
    omega
  · rcases hd g hg' with h | h
    · exact (fk g h).1
    · omega
  · rcases hd g hg' with h | h
    · exact (fk g h).2 hl
    · have := ol.lt hl; omega

theorem Bx.vals {w wr w1 w2 : World} {mb rb ob : Nat} {Cm Cv : Array Value} {ks ls ls' : Value} {n1 n2 n2' : Nat} {xs1 xs2 xs2' : List Value} (h : Bx w wr mb rb ob Cm Cv ks ls n1 n2 xs1 xs2)
    (ho : Own w1 45 6 ls' n2' xs2') (hg : wr.grownBy w1 ls.ownBlock) (hd : ∀ g, ls'.ownBlock = some g → ls.ownBlock = some g ∨ wr.heap.size ≤ g)
    (hh : w2.heap[ob]? = some (.cells #[.int .i64 6, .int .i64 0, .float .f64 0, .string ⟨#[]⟩, ks, ls'] 45 (0, 0))) (hg2 : w1.grownBy w2 (some ob)) : Bx w w2 mb rb ob Cm Cv ks ls' n1 n2' xs1 xs2' := by
  obtain ⟨e, ⟨s1, s2, s3, s4, s5⟩, hm, hv, hr, ho', ok, ol, fk, fl⟩ := h
  have hs := hg.size
  have old : ∀ b, b < ob → b < wr.heap.size → w2.heap[b]? = wr.heap[b]? := fun b hb hb' =>
    (hg2.block b (by omega) (by simp; omega)).trans (hg.block b hb' (fun e => by have := fl b e.symm; omega))
  refine ⟨(e.grown hg (fun k hk => by have := fl k hk; omega)).grown hg2 (fun k hk => by simp at hk; omega), ⟨s1, s2, s3, s4, by have := hg2.size; omega⟩, (old _ (by omega) (by omega)).trans hm, (old _ (by omega) (by omega)).trans hv,
    (old _ (by omega) (by omega)).trans hr, hh, (ok.keep (fun g hg' => hg.block g (ok.lt hg') (fun e => (fk g hg').2 e.symm))).keep (fun g hg' => hg2.block g (by have := ok.lt hg'; omega) (fun e => ?_)), ho.keep (fun g hg' => hg2.block g (ho.lt hg') (fun e => ?_)), fun g hg' => ⟨(fk g hg').1, fun hl => ?_⟩, fun g hg' => ?_⟩
  · simp at e
    have := (fk g hg').1
    omega
  · simp at e
    rcases hd g hg' with h | h
    · have := fl g h; omega
    · omega
  · rcases hd g hl with h | h
    · exact (fk g hg').2 h
    · have := ok.lt hg'; omega
  · rcases hd g hg' with h | h
    · exact fl g h
    · omega

theorem mem_strings (ss : List ByteArray) : ∀ u ∈ ss.map Value.string, u.oneCell' = true := fun u hu => by
  obtain ⟨s, _, rfl⟩ := List.mem_map.1 hu
  rfl
theorem Tryz.info9 : (Tryz.prog.info? 9).map (fun i => (i.zero, i.size, i.bytes)) = some (some (.string ⟨#[]⟩), 1, 16) := by kernel_rfl
theorem Tryz.info41 : (Tryz.prog.info? 41).map (fun i => (i.zero, i.size, i.bytes)) = some (some (.slice none 0 0), 1, 24) := by kernel_rfl
theorem Tryz.info42 : (Tryz.prog.info? 42).map (fun i => (i.zero, i.size, i.bytes)) = some (some (.slice none 0 0), 1, 24) := by kernel_rfl
theorem Tryz.size45 : (Tryz.prog.info? 45).map (·.size) = some 6 := by kernel_rfl
theorem Tryz.info45 : (Tryz.prog.info? 45).map (fun i => (i.zero, i.size, i.bytes)) = some (some (.agg #[.int .i64 0, .int .i64 0, .float .f64 0, .string ⟨#[]⟩, .slice none 0 0, .slice none 0 0]), 6, 88) := by kernel_rfl

theorem Bx.c4 {w wr : World} {mb rb ob : Nat} {Cm Cv : Array Value} {ks ls : Value} {n1 n2 : Nat} {xs1 xs2 : List Value} (h : Bx w wr mb rb ob Cm Cv ks ls n1 n2 xs1 xs2) : wr.cell? ⟨ob, 4, none⟩ = some ks := cells_of h.ho 4
theorem Bx.c5 {w wr : World} {mb rb ob : Nat} {Cm Cv : Array Value} {ks ls : Value} {n1 n2 : Nat} {xs1 xs2 : List Value} (h : Bx w wr mb rb ob Cm Cv ks ls n1 n2 xs1 xs2) : wr.cell? ⟨ob, 5, none⟩ = some ls := cells_of h.ho 5
/-- the out box behind an append's growth -/
theorem Bx.out {w wr w' : World} {mb rb ob : Nat} {Cm Cv : Array Value} {ks ls : Value} {n1 n2 : Nat} {xs1 xs2 : List Value} (h : Bx w wr mb rb ob Cm Cv ks ls n1 n2 xs1 xs2) {row : Option Nat} (hg : wr.grownBy w' row) (hr : row = ks.ownBlock ∨ row = ls.ownBlock) :
    w'.heap[ob]? = some (.cells #[.int .i64 6, .int .i64 0, .float .f64 0, .string ⟨#[]⟩, ks, ls] 45 (0, 0)) :=
  (hg.block _ h.size.2.2.2.2 (fun e => by
    rcases hr with rfl | rfl
    · have := (h.fk _ e.symm).1; omega
    · have := h.fl _ e.symm; omega)).trans h.ho
theorem store_ok {w : World} {b : Nat} {c : Array Value} {T : TypeId} {off : Nat} (h : w.heap[b]? = some (.cells c T (0, 0))) (ho : off < c.size) : (w.cell? ⟨b, off, none⟩).isSome = true ∧ w.frozen? ⟨b, off, none⟩ = false := by
  refine ⟨by rw [cells_of h off]; simp [ho], by simp [World.frozen?, h]⟩

theorem Bx.done {w w' w16 : World} {X : List Nat} {mb rb ob n1 n2 i' : Nat} {Cm Cv : Array Value} {v1 v2 kv : Value} {xs1 xs2 : List Value} (hB : Bx w w' mb rb ob Cm Cv v1 v2 n1 n2 xs1 xs2) (hw : w'.grownBy w16 (some rb))
    {es : EntsOfT V} {key : ByteArray} {u : V} {x : Cells6} {keys : List ByteArray} {l : List V} {rows : List Cells6} (hk : keys = es.map (·.1)) (hl : l = es.map (·.2)) (hi : i' = lowB key keys + if hasB key keys then 1 else 0)
    (hxs1 : xs1 = (([] ++ (keys.take (lowB key keys)).map Value.string) ++ [Value.string key]) ++ ((keys.drop i').take (keys.length - i')).map Value.string)
    (hxs2 : xs2 = (([] ++ flat6 (rows.take (lowB key keys))) ++ x.list) ++ flat6 ((rows.drop i').take (l.length - i')))
    (hX : Old X w) (hks : IsStrs w X kv keys) (hkey : key.size ≤ 140737488351232) (hrows : All2 (fun x u => IsV w X (Cells6.list x) u) rows l) (hu : IsV w X x.list u) (hlen : (keys.length + 1) * 88 ≤ 140737488351232) :
    Ext w w16 ∧ IsV w16 X [.int .i64 6, .int .i64 0, .float .f64 0, .string ⟨#[]⟩, v1, v2] (.mk 6 0 0 ⟨#[]⟩ ((insK key u es).map (·.1)) ((insK key u es).map (·.2))) := by
  obtain ⟨e, ⟨s1, s2, s3, s4, s5⟩, _, _, _, _, ok, ol, fk, fl⟩ := hB
  have hE : Ext w w16 := e.grown hw (fun k hk => by simp at hk; omega)
  have hrl := hrows.length
  have hll : l.length = keys.length := by rw [hk, hl, List.length_map, List.length_map]
  have e1 : (insK key u es).map (·.1) = keys.take (lowB key keys) ++ key :: keys.drop i' := by
    subst hk hi; rw [insK_eq]; simp
  have e2 : (insK key u es).map (·.2) = l.take (lowB key keys) ++ u :: l.drop i' := by
    subst hk hl hi; rw [insK_eq]; simp
  have x1 : xs1 = (keys.take (lowB key keys) ++ key :: keys.drop i').map Value.string := by
    have q : (keys.drop i').take (keys.length - i') = keys.drop i' := List.take_of_length_le (by rw [List.length_drop]; omega)
    rw [hxs1, q]; simp
  have x2 : xs2 = flat6 (rows.take (lowB key keys) ++ x :: rows.drop i') := by
    have q : (rows.drop i').take (l.length - i') = rows.drop i' := List.take_of_length_le (by rw [List.length_drop]; omega)
    rw [hxs2, q]; simp [flat6]
  have hlow := lowB_le key keys
  have hlo : lowB key keys ≤ i' := by rw [hi]; omega
  have hl1 : (keys.take (lowB key keys) ++ key :: keys.drop i').length ≤ keys.length + 1 := by simp; omega
  have hl2 : (l.take (lowB key keys) ++ u :: l.drop i').length ≤ keys.length + 1 := by simp; omega
  rw [e1, e2]
  refine ⟨hE, IsV.of (by decide) (by decide) (by decide) (by decide) (IsStrs.of_own (n := n1) ?_ (fun g hg hx => ?_) ?_ ?_) (IsVs.of_own (n := n2) (rows := rows.take (lowB key keys) ++ x :: rows.drop i') ?_ ?_ (fun g hg hx => ?_) ?_)⟩
  · exact x1 ▸ ok.keep (fun g hg => hw.block g (ok.lt hg) (fun e => by have := (fk g hg).1; simp at e; omega))
  · have := (fk g hg).1; have := hX g hx; omega
  · exact Nat.le_trans (Nat.mul_le_mul hl1 (by decide : 16 ≤ 88)) hlen
  · intro s hs
    simp only [List.mem_append, List.mem_cons] at hs
    rcases hs with h | rfl | h
    · exact hks.small s (List.mem_of_mem_take h)
    · exact hkey
    · exact hks.small s (List.mem_of_mem_drop h)
  · exact x2 ▸ ol.keep (fun g hg => hw.block g (ol.lt hg) (fun e => by have := fl g hg; simp at e; omega))
  · exact ((hrows.take _).append (.cons hu (hrows.drop _))).imp (fun a b h => h.mv (hE.mv X))
  · have := fl g hg; have := hX g hx; omega
  · exact Nat.le_trans (Nat.mul_le_mul_right 88 hl2) hlen

set_option maxRecDepth 100000 in
set_option maxHeartbeats 800000 in
theorem withField_c {w : World} {X : List Nat} {cs csv : List Value} {kind n : Int} {f : Nat} {s : ByteArray} {es : EntsOfT V} (hv : IsV w X cs (.mk kind n f s (es.map (·.1)) (es.map (·.2)))) (key : ByteArray) (hkey : key.size ≤ 140737488351232) {u : V} (hu : IsV w X csv u)
    (hsort : Rising (es.map (·.1))) (hlen : (es.length + 1) * 88 ≤ 140737488351232) (hX : Old X w)
    (R : Ending → World → Prop) (hR : ∀ w' cs', Ext w w' → IsV w' X cs' (.mk 6 0 0 ⟨#[]⟩ ((insK key u es).map (·.1)) ((insK key u es).map (·.2))) → R (.returned (.agg cs'.toArray)) w') :
    Calls Tryz.prog 46 #[.agg cs.toArray, .string key, .agg csv.toArray] w R := by
  obtain ⟨keys, hkeys⟩ : ∃ keys, keys = es.map (·.1) := ⟨_, rfl⟩
  obtain ⟨l, hll⟩ : ∃ l, l = es.map (·.2) := ⟨_, rfl⟩
  rw [← hkeys, ← hll] at hv
  rw [← hkeys] at hsort
  have hlk : l.length = keys.length := by rw [hkeys, hll, List.length_map, List.length_map]
  have hle : keys.length = es.length := by rw [hkeys, List.length_map]
  have hv0 := Lib.hid hv
  obtain ⟨ko, kc, o, c, rfl, hwf, hks, hl⟩ := hv.inv
  obtain ⟨x, rfl⟩ := hu.shape
  have hnk : lowB key keys ≤ keys.length := lowB_le key keys
  have hlen2 : (keys.length + 1) * 88 ≤ 140737488351232 := by rw [hle]; exact hlen
  clear hlen
  have hone1 : ∀ u ∈ (#[Value.string key] : Array Value).toList, u.oneCell' = true := by simp [Value.oneCell']
  have hone2 : ∀ u ∈ (#[Value.int IntKind.i64 x.kind, Value.int IntKind.i64 x.n, Value.float FloatKind.f64 x.f, Value.string x.s, Value.slice x.ko x.kn x.kc, Value.slice x.o x.m x.c] : Array Value).toList, u.oneCell' = true := by simp [Value.oneCell']
  have hbd1 : (0 + lowB key keys + 1) * 16 ≤ 140737488355328 := bd16 hnk hlen2
  have hbd2 : (0 + lowB key keys + 1) * 88 ≤ 140737488355328 := bd88 hnk hlen2
  have hbd3 : 0 + lowB key keys + 1 ≤ maxLen := bd63 hnk hlen2
  have hR' := Lib.hid hR
  have hu' := Lib.hid hu
  have hX' := Lib.hid hX
  have hso := Lib.hid hsort
  have hks' := Lib.hid hks
  have hl' := Lib.hid hl
  obtain ⟨rows, hrl, hrows, hlc, _, hl88, hpart⟩ := hl.part
  have hrows' := Lib.hid hrows
  have hpart' := Lib.hid hpart
  clear hrows hpart
  have hrk : rows.length = keys.length := hrl.trans hlk
  have hrl' := Lib.hid hrl
  have hrk' := Lib.hid hrk
  have hkeys' := Lib.hid hkeys
  have hll' := Lib.hid hll
  have hlk' := Lib.hid hlk
  have hle' := Lib.hid hle
  clear hR hv hu hX hsort hwf hks hl hkeys hll hlk hle hrl hrk
  simp only [Cells6.list]
  go_enter Tryz.func46, Tryz.ntmps46
  go_wp2_with fail
  refine abs3 (G := fun wr => Calls _ _ _ wr _) ?_
  intro w1 hE1 hb1 hb2 hb3 hs1
  refine fieldIndex_c ((hv0.out).mv (hE1.mv X)) key hso.out _ ?_
  intro w2 hE2
  dsimp only
  go_wp2_with fail
  refine abs1 (G := Code.wp _ _ _ _) ?_
  intro w3 hE3 hb4 hs3
  have hsz2 := hE2.size
  have hm3 : w3.heap[w.heap.size]? = _ := ((hE2.trans hE3).below.block _ (by omega)).trans hb1
  have hv3 : w3.heap[w.heap.size + 1]? = _ := ((hE2.trans hE3).below.block _ (by omega)).trans hb2
  have hr3 : w3.heap[w.heap.size + 2]? = _ := ((hE2.trans hE3).below.block _ (by omega)).trans hb3
  have hB3 : Bx w w3 w.heap.size (w.heap.size + 2) w2.heap.size _ _ (.slice none 0 0) (.slice none 0 0) 0 0 [] [] :=
    ⟨(hE1.trans hE2).trans hE3, ⟨Nat.le_refl _, by omega, rfl, by omega, by omega⟩, hm3, hv3, hr3, hb4, Own.nil _ _ _, Own.nil _ _ _, fun g h => by simp [Value.ownBlock] at h, fun g h => by simp [Value.ownBlock] at h⟩
  have hB := Lib.hid hB3
  have c4 : w3.cell? ⟨w2.heap.size, 4, none⟩ = some (.slice none 0 0) := cells_of hb4 4
  have m4 : w3.cell? ⟨w.heap.size, 4, none⟩ = some (.slice ko keys.length kc) := cells_of hm3 4
  obtain ⟨_, _, kb, koff, e, hkc, hk16, hk4, hk5⟩ := hks'.out.ex
  cases e
  have hk4' := Lib.hid hk4
  have hk5' := Lib.hid hk5
  clear hk4 hk5
  clear hb1 hb2 hb3 hb4 hm3 hv3 hr3 hB3 hE3 hE2 hE1 hs1 hs3 hsz2
  have hnc : lowB key keys ≤ kc := by omega
  obtain ⟨pk1, pk2⟩ := ((hks'.out).mv ((hB.out.ext.drew).mv X)).part 0 (lowB key keys) (Nat.zero_le _) hnk (o' := ko) (.inl ⟨rfl, .inl rfl⟩)
  have hok := (hB.out.ok).ext (Ext.refl w3).drew
  go_still_tail 6, (by kernel_rfl)
  change wpList _ _ _ _ _ w3.drew
  refine wpL_appendG rfl _ _ _ rfl 9 (by kernel_rfl) Tryz.info9 rfl (by decide) hok rfl ko (lowB key keys) kc ((keys.take (lowB key keys)).map Value.string) rfl (by simp; omega) (by simpa using pk1) (by simpa using pk2) (mem_strings _) (by rw [maxLen_eq]; omega) (by omega) ?_
  intro v4 w4 ho4 hg4 hne4 hd4
  have hg4' := World.grownBy.ext_trans (Ext.refl w3).drew hg4
  have hh4 := hB.out.out hg4' (.inl rfl)
  have one4 := ho4.one
  obtain ⟨s4c, s4f⟩ := store_ok (off := 4) hh4 (by simp)
  go_wp2_with (refine wpL_store1 rfl _ _ _ rfl Tryz.info41 rfl rfl one4 s4c s4f ?_; refine abs_set (G := fun wr => wpList _ _ _ _ _ wr) hh4 ?_; intro w5 hh5 hg5 hs5)
  have hB5 := Lib.hid (hB.out.keys ho4 hg4' (fun g hg => (hd4 g hg).imp id (fun e => Nat.le_of_eq e.symm)) hh5 hg5)
  clear hB hok hh5 hg5 hs5 one4 s4c s4f hh4 hg4' hd4 hne4 hg4 ho4 pk1 pk2 hnc c4 m4
  have c5 := hB5.out.c5
  have m5 : w5.cell? ⟨w.heap.size, 5, none⟩ = some (.slice o l.length c) := cells_of hB5.out.hm 5
  have hlk := hlk'.out
  have hnl : lowB key keys ≤ l.length := by omega
  have hnc : lowB key keys ≤ c := by omega
  have hnr : lowB key keys ≤ rows.length := by rw [hrk'.out]; exact hnk
  have hk1 : lowB key keys * 88 ≤ 140737488351232 := by omega
  obtain ⟨pl1, pl2⟩ := hpart'.out 0 (lowB key keys) (Nat.zero_le _) (by omega) o (.inl ⟨rfl, .inl rfl⟩)
  have hol := (hB5.out.ol).ext (Ext.refl w5).drew
  clear hlk
  go_still_tail 6, (by kernel_rfl)
  change wpList _ _ _ _ _ w5.drew
  refine wpL_appendG rfl _ _ _ rfl 45 (by kernel_rfl) Tryz.info45 rfl (by decide) hol rfl o (lowB key keys) c (flat6 (rows.take (lowB key keys))) rfl (by rw [flat6_length, List.length_take, Nat.min_eq_left hnr]) (by simpa using pl1) (fun ad e j u hj => (hB5.out.ext.drew).keep (pl2 ad e j u (by simpa using hj))) (flat6_one _) (by rw [maxLen_eq]; omega) (by omega) ?_
  intro v6 w6 ho6 hg6 hne6 hd6
  have hg6' := World.grownBy.ext_trans (Ext.refl w5).drew hg6
  have hh6 := hB5.out.out hg6' (.inr rfl)
  have one6 := ho6.one
  obtain ⟨s6c, s6f⟩ := store_ok (off := 5) hh6 (by simp)
  go_wp2_with (first
    | (refine wpL_store1 rfl _ _ _ rfl Tryz.info42 rfl rfl one6 s6c s6f ?_
       refine abs_set (G := fun wr => wpList _ _ _ _ _ wr) hh6 ?_
       intro w7 hh7 hg7 hs7
       have hB7 := Lib.hid (hB5.out.vals ho6 hg6' (fun g hg => (hd6 g hg).imp id (fun e => Nat.le_of_eq e.symm)) hh7 hg7)
       clear hB5 hol hh7 hg7 hs7 one6 s6c s6f hh6 hg6' hd6 hne6 hg6 ho6 pl1 pl2
       have c7 := hB7.out.c4)
    | refine wpL_lit1 (v := .string key) rfl 41 _ rfl 9 Tryz.underlying41 Tryz.info9 rfl rfl rfl ?_
    | (at_builtin
       refine wpL_app1 rfl _ _ 41 rfl 9 Tryz.underlying41 Tryz.info9 rfl (by decide) hB7.out.ok rfl rfl rfl hone1 hbd1 hbd3 ?_
       intro v8 w8 ho8 hg8 hne8 hd8
       have one8 := ho8.one
       have hh8 := hB7.out.out hg8 (.inl rfl)
       obtain ⟨s8c, s8f⟩ := store_ok (off := 4) hh8 (by simp))
    | (refine wpL_store1 rfl _ _ _ rfl Tryz.info41 rfl rfl one8 s8c s8f ?_
       refine abs_set (G := fun wr => wpList _ _ _ _ _ wr) hh8 ?_
       intro w9 hh9 hg9 hs9
       have hB9 := Lib.hid (hB7.out.keys ho8 hg8 hd8 hh9 hg9)
       clear hB7 hh9 hg9 hs9 one8 s8c s8f hh8 hg8 hd8 hne8 ho8
       have c9 := hB9.out.c5
       have x0 := cells_of hB9.out.hv 0
       have x1 := cells_of hB9.out.hv 1
       have x2 := cells_of hB9.out.hv 2
       have x3 := cells_of hB9.out.hv 3
       have x4 := cells_of hB9.out.hv 4
       have x5 := cells_of hB9.out.hv 5
       simp only [List.getElem?_toArray, List.getElem?_cons_zero, List.getElem?_cons_succ] at x0 x1 x2 x3 x4 x5)
    | (at_builtin
       refine wpL_app1 rfl _ _ 42 rfl 45 Tryz.underlying42 Tryz.info45 rfl (by decide) hB9.out.ol rfl rfl rfl hone2 hbd2 hbd3 ?_
       intro v10 w10 ho10 hg10 hne10 hd10
       have one10 := ho10.one
       have hh10 := hB9.out.out hg10 (.inr rfl)
       obtain ⟨s10c, s10f⟩ := store_ok (off := 5) hh10 (by simp))
    | (refine wpL_store1 rfl _ _ _ rfl Tryz.info42 rfl rfl one10 s10c s10f ?_
       refine abs_set (G := fun wr => wpList _ _ _ _ _ wr) hh10 ?_
       intro w11 hh11 hg11 hs11
       have hB11 := Lib.hid (hB9.out.vals ho10 hg10 hd10 hh11 hg11)
       clear hB9 hh11 hg11 hs11 one10 s10c s10f hh10 hg10 hd10 hne10 ho10))
  · have hb : hasB key keys = true := by assumption
    obtain ⟨i', hi', hI⟩ : ∃ i' : Nat, ((lowB key keys : Nat) : Int) + 1 = (i' : Int) ∧ i' ≤ keys.length := ⟨lowB key keys + 1, rfl, hasB_lt hb⟩
    have hb' := Lib.hid hb
    have hi2 := Lib.hid hi'
    rw [hi']
    have hIlo : lowB key keys ≤ i' := by omega
    clear hb hi'
    have hIc : i' ≤ kc := by omega
    have hIl : i' ≤ l.length := by rw [hlk'.out]; exact hI
    have hIr : i' ≤ rows.length := by rw [hrk'.out]; exact hI
    have hIcc : i' ≤ c := by omega
    have c11 := hB11.out.c4
    have m11 : w11.cell? ⟨w.heap.size, 4, none⟩ = some (.slice ko keys.length kc) := cells_of hB11.out.hm 4
    have hok := (hB11.out.ok).ext (Ext.refl w11).drew
    obtain ⟨pk1, pk2⟩ := ((hks'.out).mv ((hB11.out.ext.drew).mv X)).part i' keys.length hI (Nat.le_refl _) (o' := if kc = i' then ko else Option.map (fun a => a.add i') ko) (by split <;> simp_all)
    go_still_tail 6, (by kernel_rfl)
    change wpList _ _ _ _ _ w11.drew
    generalize (if kc = i' then ko else Option.map (fun a => a.add i') ko) = oq at pk1 pk2 ⊢
    refine wpL_appendG rfl _ _ _ rfl 9 (by kernel_rfl) Tryz.info9 rfl (by decide) hok rfl oq (keys.length - i') (kc - i') (((keys.drop i').take (keys.length - i')).map Value.string) rfl (by simp) pk1 pk2 (mem_strings _) (by rw [maxLen_eq]; omega) (by omega) ?_
    intro v12 w12 ho12 hg12 hne12 hd12
    have hg12' := World.grownBy.ext_trans (Ext.refl w11).drew hg12
    have hh12 := hB11.out.out hg12' (.inl rfl)
    have one12 := ho12.one
    obtain ⟨s12c, s12f⟩ := store_ok (off := 4) hh12 (by simp)
    go_wp2_with (refine wpL_store1 rfl _ _ _ rfl Tryz.info41 rfl rfl one12 s12c s12f ?_; refine abs_set (G := fun wr => wpList _ _ _ _ _ wr) hh12 ?_; intro w13 hh13 hg13 hs13)
    have hB13 := Lib.hid (hB11.out.keys ho12 hg12' (fun g hg => (hd12 g hg).imp id (fun e => Nat.le_of_eq e.symm)) hh13 hg13)
    clear hB11 hok hh13 hg13 hs13 one12 s12c s12f hh12 hg12' hd12 hne12 hg12 ho12 pk1 pk2 c11 m11
    have c13 := hB13.out.c5
    have m13 : w13.cell? ⟨w.heap.size, 5, none⟩ = some (.slice o l.length c) := cells_of hB13.out.hm 5
    have hol := (hB13.out.ol).ext (Ext.refl w13).drew
    obtain ⟨pl1, pl2⟩ := hpart'.out i' l.length hIl (Nat.le_refl _) (if c = i' then o else Option.map (fun a => a.add (i' * 6)) o) (by split <;> simp_all)
    have hn88 : 0 + lowB key keys + 1 + (l.length - i') ≤ keys.length + 1 := by rw [hlk'.out]; omega
    have hb88 := Nat.le_trans (Nat.mul_le_mul_right 88 hn88) (Nat.le_trans hlen2 (by decide : 140737488351232 ≤ 140737488355328))
    go_still_tail 6, (by kernel_rfl)
    change wpList _ _ _ _ _ w13.drew
    generalize (if c = i' then o else Option.map (fun a => a.add (i' * 6)) o) = oq2 at pl1 pl2 ⊢
    refine wpL_appendG rfl _ _ _ rfl 45 (by kernel_rfl) Tryz.info45 rfl (by decide) hol rfl oq2 (l.length - i') (c - i') (flat6 ((rows.drop i').take (l.length - i'))) rfl (by rw [flat6_length, List.length_take, List.length_drop, hrl'.out, Nat.min_self]) pl1 (fun ad e j u hj => (hB13.out.ext.drew).keep (pl2 ad e j u hj)) (flat6_one _) (by rw [maxLen_eq]; omega) hb88 ?_
    intro v14 w14 ho14 hg14 hne14 hd14
    have hg14' := World.grownBy.ext_trans (Ext.refl w13).drew hg14
    have hh14 := hB13.out.out hg14' (.inr rfl)
    have one14 := ho14.one
    obtain ⟨s14c, s14f⟩ := store_ok (off := 5) hh14 (by simp)
    go_wp2_with (first
      | (refine wpL_store1 rfl _ _ _ rfl Tryz.info42 rfl rfl one14 s14c s14f ?_
         refine abs_set (G := fun wr => wpList _ _ _ _ _ wr) hh14 ?_
         intro w15 hh15 hg15 hs15
         have hB15 := Lib.hid (hB13.out.vals ho14 hg14' (fun g hg => (hd14 g hg).imp id (fun e => Nat.le_of_eq e.symm)) hh15 hg15)
         clear hB13 hol hh15 hg15 hs15 one14 s14c s14f hh14 hg14' hd14 hne14 hg14 ho14 pl1 pl2 c13 m13
         have y0 : w15.cell? ⟨w2.heap.size, 0, none⟩ = some (.int .i64 6) := cells_of hB15.out.ho 0
         have y1 : w15.cell? ⟨w2.heap.size, 1, none⟩ = some (.int .i64 0) := cells_of hB15.out.ho 1
         have y2 : w15.cell? ⟨w2.heap.size, 2, none⟩ = some (.float .f64 0) := cells_of hB15.out.ho 2
         have y3 : w15.cell? ⟨w2.heap.size, 3, none⟩ = some (.string ⟨#[]⟩) := cells_of hB15.out.ho 3
         have y4 := hB15.out.c4
         have y5 := hB15.out.c5
         have onec : (#[Value.int .i64 6, .int .i64 0, .float .f64 0, .string ⟨#[]⟩, v12, v14] : Array Value).all (·.oneCell') = true := by simp [hB15.out.ok.one, hB15.out.ol.one]; simp [Value.oneCell'])
      | (refine wpL_storeRow (cells := #[Value.int .i64 6, .int .i64 0, .float .f64 0, .string ⟨#[]⟩, v12, v14]) rfl _ _ _ rfl Tryz.size45 rfl rfl hB15.out.hr rfl onec ?_
         intro w16 hh16 hg16
         have r0 : w16.cell? ⟨w.heap.size + 1 + 1, 0, none⟩ = some (.int .i64 6) := cells_of hh16 0
         have r1 : w16.cell? ⟨w.heap.size + 1 + 1, 1, none⟩ = some (.int .i64 0) := cells_of hh16 1
         have r2 : w16.cell? ⟨w.heap.size + 1 + 1, 2, none⟩ = some (.float .f64 0) := cells_of hh16 2
         have r3 : w16.cell? ⟨w.heap.size + 1 + 1, 3, none⟩ = some (.string ⟨#[]⟩) := cells_of hh16 3
         have r4 : w16.cell? ⟨w.heap.size + 1 + 1, 4, none⟩ = some v12 := cells_of hh16 4
         have r5 : w16.cell? ⟨w.heap.size + 1 + 1, 5, none⟩ = some v14 := cells_of hh16 5))
    obtain ⟨hE16, hV16⟩ := hB15.out.done hg16 hkeys'.out hll'.out (i' := i') (by rw [hb'.out]; have := hi2.out; simp; omega) rfl rfl hX'.out hks'.out hkey hrows'.out hu'.out hlen2
    go_simp
    refine bodyPost_ret (by simp [results, Tryz.results46, go_sem, r0, r1, r2, r3, r4, r5]; try rfl) rfl ?_
    exact hR'.out _ _ hE16 hV16
  · have hb : hasB key keys = false := by assumption
    obtain ⟨i', hi', hI⟩ : ∃ i' : Nat, i' = lowB key keys ∧ i' ≤ keys.length := ⟨lowB key keys, rfl, hnk⟩
    have hb' := Lib.hid hb
    have hi2 := Lib.hid hi'
    rw [← hi']
    have hIlo : lowB key keys ≤ i' := by omega
    clear hb hi'
    have hIc : i' ≤ kc := by omega
    have hIl : i' ≤ l.length := by rw [hlk'.out]; exact hI
    have hIr : i' ≤ rows.length := by rw [hrk'.out]; exact hI
    have hIcc : i' ≤ c := by omega
    have c11 := hB11.out.c4
    have m11 : w11.cell? ⟨w.heap.size, 4, none⟩ = some (.slice ko keys.length kc) := cells_of hB11.out.hm 4
    have hok := (hB11.out.ok).ext (Ext.refl w11).drew
    obtain ⟨pk1, pk2⟩ := ((hks'.out).mv ((hB11.out.ext.drew).mv X)).part i' keys.length hI (Nat.le_refl _) (o' := if kc = i' then ko else Option.map (fun a => a.add i') ko) (by split <;> simp_all)
    go_still_tail 6, (by kernel_rfl)
    change wpList _ _ _ _ _ w11.drew
    generalize (if kc = i' then ko else Option.map (fun a => a.add i') ko) = oq at pk1 pk2 ⊢
    refine wpL_appendG rfl _ _ _ rfl 9 (by kernel_rfl) Tryz.info9 rfl (by decide) hok rfl oq (keys.length - i') (kc - i') (((keys.drop i').take (keys.length - i')).map Value.string) rfl (by simp) pk1 pk2 (mem_strings _) (by rw [maxLen_eq]; omega) (by omega) ?_
    intro v12 w12 ho12 hg12 hne12 hd12
    have hg12' := World.grownBy.ext_trans (Ext.refl w11).drew hg12
    have hh12 := hB11.out.out hg12' (.inl rfl)
    have one12 := ho12.one
    obtain ⟨s12c, s12f⟩ := store_ok (off := 4) hh12 (by simp)
    go_wp2_with (refine wpL_store1 rfl _ _ _ rfl Tryz.info41 rfl rfl one12 s12c s12f ?_; refine abs_set (G := fun wr => wpList _ _ _ _ _ wr) hh12 ?_; intro w13 hh13 hg13 hs13)
    have hB13 := Lib.hid (hB11.out.keys ho12 hg12' (fun g hg => (hd12 g hg).imp id (fun e => Nat.le_of_eq e.symm)) hh13 hg13)
    clear hB11 hok hh13 hg13 hs13 one12 s12c s12f hh12 hg12' hd12 hne12 hg12 ho12 pk1 pk2 c11 m11
    have c13 := hB13.out.c5
    have m13 : w13.cell? ⟨w.heap.size, 5, none⟩ = some (.slice o l.length c) := cells_of hB13.out.hm 5
    have hol := (hB13.out.ol).ext (Ext.refl w13).drew
    obtain ⟨pl1, pl2⟩ := hpart'.out i' l.length hIl (Nat.le_refl _) (if c = i' then o else Option.map (fun a => a.add (i' * 6)) o) (by split <;> simp_all)
    have hn88 : 0 + lowB key keys + 1 + (l.length - i') ≤ keys.length + 1 := by rw [hlk'.out]; omega
    have hb88 := Nat.le_trans (Nat.mul_le_mul_right 88 hn88) (Nat.le_trans hlen2 (by decide : 140737488351232 ≤ 140737488355328))
    go_still_tail 6, (by kernel_rfl)
    change wpList _ _ _ _ _ w13.drew
    generalize (if c = i' then o else Option.map (fun a => a.add (i' * 6)) o) = oq2 at pl1 pl2 ⊢
    refine wpL_appendG rfl _ _ _ rfl 45 (by kernel_rfl) Tryz.info45 rfl (by decide) hol rfl oq2 (l.length - i') (c - i') (flat6 ((rows.drop i').take (l.length - i'))) rfl (by rw [flat6_length, List.length_take, List.length_drop, hrl'.out, Nat.min_self]) pl1 (fun ad e j u hj => (hB13.out.ext.drew).keep (pl2 ad e j u hj)) (flat6_one _) (by rw [maxLen_eq]; omega) hb88 ?_
    intro v14 w14 ho14 hg14 hne14 hd14
    have hg14' := World.grownBy.ext_trans (Ext.refl w13).drew hg14
    have hh14 := hB13.out.out hg14' (.inr rfl)
    have one14 := ho14.one
    obtain ⟨s14c, s14f⟩ := store_ok (off := 5) hh14 (by simp)
    go_wp2_with (first
      | (refine wpL_store1 rfl _ _ _ rfl Tryz.info42 rfl rfl one14 s14c s14f ?_
         refine abs_set (G := fun wr => wpList _ _ _ _ _ wr) hh14 ?_
         intro w15 hh15 hg15 hs15
         have hB15 := Lib.hid (hB13.out.vals ho14 hg14' (fun g hg => (hd14 g hg).imp id (fun e => Nat.le_of_eq e.symm)) hh15 hg15)
         clear hB13 hol hh15 hg15 hs15 one14 s14c s14f hh14 hg14' hd14 hne14 hg14 ho14 pl1 pl2 c13 m13
         have y0 : w15.cell? ⟨w2.heap.size, 0, none⟩ = some (.int .i64 6) := cells_of hB15.out.ho 0
         have y1 : w15.cell? ⟨w2.heap.size, 1, none⟩ = some (.int .i64 0) := cells_of hB15.out.ho 1
         have y2 : w15.cell? ⟨w2.heap.size, 2, none⟩ = some (.float .f64 0) := cells_of hB15.out.ho 2
         have y3 : w15.cell? ⟨w2.heap.size, 3, none⟩ = some (.string ⟨#[]⟩) := cells_of hB15.out.ho 3
         have y4 := hB15.out.c4
         have y5 := hB15.out.c5
         have onec : (#[Value.int .i64 6, .int .i64 0, .float .f64 0, .string ⟨#[]⟩, v12, v14] : Array Value).all (·.oneCell') = true := by simp [hB15.out.ok.one, hB15.out.ol.one]; simp [Value.oneCell'])
      | (refine wpL_storeRow (cells := #[Value.int .i64 6, .int .i64 0, .float .f64 0, .string ⟨#[]⟩, v12, v14]) rfl _ _ _ rfl Tryz.size45 rfl rfl hB15.out.hr rfl onec ?_
         intro w16 hh16 hg16
         have r0 : w16.cell? ⟨w.heap.size + 1 + 1, 0, none⟩ = some (.int .i64 6) := cells_of hh16 0
         have r1 : w16.cell? ⟨w.heap.size + 1 + 1, 1, none⟩ = some (.int .i64 0) := cells_of hh16 1
         have r2 : w16.cell? ⟨w.heap.size + 1 + 1, 2, none⟩ = some (.float .f64 0) := cells_of hh16 2
         have r3 : w16.cell? ⟨w.heap.size + 1 + 1, 3, none⟩ = some (.string ⟨#[]⟩) := cells_of hh16 3
         have r4 : w16.cell? ⟨w.heap.size + 1 + 1, 4, none⟩ = some v12 := cells_of hh16 4
         have r5 : w16.cell? ⟨w.heap.size + 1 + 1, 5, none⟩ = some v14 := cells_of hh16 5))
    obtain ⟨hE16, hV16⟩ := hB15.out.done hg16 hkeys'.out hll'.out (i' := i') (by rw [hb'.out]; have := hi2.out; simp; omega) rfl rfl hX'.out hks'.out hkey hrows'.out hu'.out hlen2
    go_simp
    refine bodyPost_ret (by simp [results, Tryz.results46, go_sem, r0, r1, r2, r3, r4, r5]; try rfl) rfl ?_
    exact hR'.out _ _ hE16 hV16

end Go.Proofs.YtihapgangilncaaGreat
