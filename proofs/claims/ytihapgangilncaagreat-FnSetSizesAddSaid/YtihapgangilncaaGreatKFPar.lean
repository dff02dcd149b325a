/- Regions that draw their order: operations that may come in any order, each with what it yields and keeps, proved once each (no order is listed). -/
import Derived.Test.YtihapgangilncaaGreatKFOrder
namespace Go.Proofs.YtihapgangilncaaGreat
open Go.RowKit

def dstOf (ops : Array Oper) (i : Nat) : Option Tmp := (ops[i]?).bind (·.dst)
def apartD (ops : Array Oper) (i j : Nat) : Prop := ∀ d, dstOf ops i = some d → dstOf ops j ≠ some d
theorem apartD.symm {ops : Array Oper} {i j : Nat} (h : apartD ops i j) : apartD ops j i := fun d hj hi => h d hi hj

def putL (ops : Array Oper) (vs : Nat → Value) : List Nat → Act → Act
  | [], a => a
  | i :: l, a => putL ops vs l (a.put (dstOf ops i) (vs i))
def setL : List Nat → Array Bool → Array Bool
  | [], b => b
  | i :: l, b => setL l (b.setIfInBounds i true)
def upd (vs : Nat → Value) (i : Nat) (v : Value) : Nat → Value := fun k => if k = i then v else vs k

section
variable {P : Program} {ops : Array Oper} {ho nd : List Nat} {C : World → Prop} {Q : Act → World → Prop} {md : Region.Mode}

theorem putL_append {vs : Nat → Value} : ∀ (l l' : List Nat) (a : Act), putL ops vs (l ++ l') a = putL ops vs l' (putL ops vs l a)
  | [], _, _ => rfl
  | _ :: l, l', _ => putL_append l l' _
theorem setL_append : ∀ (l l' : List Nat) (b : Array Bool), setL (l ++ l') b = setL l' (setL l b)
  | [], _, _ => rfl
  | _ :: l, l', _ => setL_append l l' _
theorem putL_congr {vs vs' : Nat → Value} : ∀ (l : List Nat) (a : Act), (∀ i ∈ l, vs i = vs' i) → putL ops vs l a = putL ops vs' l a
  | [], _, _ => rfl
  | i :: l, a, h => by
    show putL ops vs l (a.put _ (vs i)) = putL ops vs' l (a.put _ (vs' i))
    rw [h i (by simp), putL_congr l _ (fun k hk => h k (by simp [hk]))]
theorem put_size (a : Act) (d : Option Tmp) (v : Value) : (a.put d v).tmps.size = a.tmps.size := by cases d <;> simp [Act.put]
theorem put_defs (a : Act) (d : Option Tmp) (v : Value) : (a.put d v).defers = a.defers := by cases d <;> simp [Act.put]
theorem putL_size {vs : Nat → Value} : ∀ (l : List Nat) (a : Act), (putL ops vs l a).tmps.size = a.tmps.size
  | [], _ => rfl
  | _ :: l, _ => (putL_size l _).trans (put_size _ _ _)
theorem putL_perm {vs : Nat → Value} {l l' : List Nat} (p : l.Perm l') : ∀ (a : Act), l.Pairwise (apartD ops) → putL ops vs l a = putL ops vs l' a := by
  induction p with
  | nil => intro a _; rfl
  | cons x p ih => intro a h; exact ih _ (List.pairwise_cons.1 h).2
  | swap x y l =>
    intro a h
    show putL ops vs l ((a.put _ _).put _ _) = putL ops vs l ((a.put _ _).put _ _)
    rw [Act.put_comm a (vs y) (vs x) ((List.pairwise_cons.1 h).1 x (by simp))]
  | trans p q ih1 ih2 => intro a h; exact (ih1 a h).trans (ih2 a ((p.pairwise_iff (fun h => apartD.symm h)).1 h))
theorem setL_perm {l l' : List Nat} (p : l.Perm l') : ∀ (b : Array Bool), setL l b = setL l' b := by
  induction p with
  | nil => intro a; rfl
  | cons x p ih => intro a; exact ih _
  | swap x y l =>
    intro a
    show setL l ((a.setIfInBounds _ _).setIfInBounds _ _) = setL l ((a.setIfInBounds _ _).setIfInBounds _ _)
    by_cases h : x = y
    · subst h; rfl
    · rw [Array.setIfInBounds_comm _ _ h]
  | trans p q ih1 ih2 => intro a; exact (ih1 a).trans (ih2 a)
theorem setL_getD {b : Bool} {j : Nat} : ∀ (l : List Nat) (a : Array Bool), j ∉ l → (setL l a).getD j b = a.getD j b
  | [], _, _ => rfl
  | i :: l, a, h => by
    show (setL l (a.setIfInBounds i true)).getD j b = _
    rw [setL_getD l _ (fun hk => h (by simp [hk])), getD_set_ne b (fun e => h (by simp [e]))]
theorem setL_true {j : Nat} : ∀ (l : List Nat) (a : Array Bool), (j ∈ l → j < a.size) → (j ∈ l ∨ a.getD j false = true) → (setL l a).getD j false = true
  | [], _, _, h => by rcases h with h | h; exact absurd h (by simp); exact h
  | i :: l, a, hs, h => by
    show (setL l (a.setIfInBounds i true)).getD j false = true
    refine setL_true l _ (fun hj => by rw [Array.size_setIfInBounds]; exact hs (by simp [hj])) ?_
    by_cases hi : j = i
    · subst hi; exact .inr (by simp [hs (by simp)])
    · rcases h with h | h
      · simp only [List.mem_cons] at h; exact .inl (h.resolve_left hi)
      · exact .inr (getD_set_true h)

theorem put_like {a a' : Act} {d : Option Tmp} {u v : Value} (hs : a'.tmps.size = a.tmps.size) (h : a.put d u = a.put d v) : a'.put d u = a'.put d v := by
  cases d with
  | none => rfl
  | some t =>
    simp only [Act.put, Act.mk.injEq, and_true] at h ⊢
    by_cases ht : t < a.tmps.size
    · have := congrArg (fun x : Array Value => x[t]?) h
      simp [ht] at this
      rw [this]
    · have h1 : a'.tmps.size ≤ t := Nat.le_trans (Nat.le_of_eq hs) (Nat.le_of_not_lt ht)
      rw [Array.setIfInBounds_eq_of_size_le h1, Array.setIfInBounds_eq_of_size_le h1]

theorem nodup_le {α : Type} [BEq α] [LawfulBEq α] : ∀ {l G : List α}, l.Nodup → (∀ k ∈ l, k ∈ G) → l.length ≤ G.length
  | [], _, _, _ => Nat.zero_le _
  | x :: l, G, hn, hs => by
    have hx : x ∈ G := hs x (by simp)
    have h := nodup_le (G := G.erase x) (List.nodup_cons.1 hn).2 (fun k hk => (List.mem_erase_of_ne (fun e : k = x => (List.nodup_cons.1 hn).1 (e ▸ hk))).2 (hs k (by simp [hk])))
    rw [List.length_erase_of_mem hx] at h
    have := List.length_pos_of_mem hx
    simp only [List.length_cons]
    omega
theorem nodup_full {α : Type} [BEq α] [LawfulBEq α] {l G : List α} (hn : l.Nodup) (hs : ∀ k ∈ l, k ∈ G) (hl : G.length ≤ l.length) : ∀ k ∈ G, k ∈ l := fun k hk => Classical.byContradiction fun h => by
  have := nodup_le (l := k :: l) (G := G) (List.nodup_cons.2 ⟨h, hn⟩) (fun x hx => by simp only [List.mem_cons] at hx; rcases hx with rfl | hx; exact hk; exact hs x hx)
  simp only [List.length_cons] at this
  omega

/-- operation i at the frame a in the world w: it yields a value v and a world w' with R v w' -/
def opv (P : Program) (ops : Array Oper) (i : Nat) (a : Act) (w : World) (R : Value → World → Prop) : Prop :=
  wpOp P ops NoX i (fun a' w' => ∃ v, a' = a.put (dstOf ops i) v ∧ R v w') a w

theorem opv_congr {i : Nat} {o : Oper} {a a' : Act} {w : World} {R : Value → World → Prop} (hi : ops[i]? = some o) (he : execOp a'.eval o = execOp a.eval o)
    (hw : Region.wanted o (yielded ops a'.tmps) = Region.wanted o (yielded ops a.tmps)) (hs : a'.tmps.size = a.tmps.size) (h : opv P ops i a w R) : opv P ops i a' w R := by
  have hd : dstOf ops i = o.dst := by simp [dstOf, hi]
  unfold opv wpOp at *
  simp only [hi, hd] at *
  rw [hw]
  split
  · rename_i hw
    rw [if_pos hw] at h
    rcases h with h | ⟨_, _, _, h⟩
    · refine .inl ?_
      unfold Oper.wp at *
      rw [he]
      generalize (execOp a.eval o).run P w = r at *
      cases r with
      | ok n w' =>
        cases n <;> simp only [Oper.upon] at h ⊢
        case value u => obtain ⟨v, e, hr⟩ := h; exact ⟨v, put_like hs e, hr⟩
        case skip => obtain ⟨v, e, hr⟩ := h; exact ⟨v, put_like hs e, hr⟩
        case defer d =>
          obtain ⟨v, e, hr⟩ := h
          have := congrArg (fun x : Act => x.defers.length) e
          simp only [put_defs, List.length_cons] at this
          omega
        case enter f args =>
          refine h.mono fun e w'' he => ?_
          cases e with
          | returned u => obtain ⟨v, e, hr⟩ := he; exact ⟨v, put_like hs e, hr⟩
          | panicked c => exact he.elim
          | outgrown => obtain ⟨_, _, h⟩ := he; exact h.elim
        case row row args => exact h.mono fun u w'' he => by obtain ⟨v, e, hr⟩ := he; exact ⟨v, put_like hs e, hr⟩
      | halt x w' => cases x <;> simp only [Oper.upon] at h ⊢ <;> exact h.elim
    · exact h.elim
  · rename_i hw
    rw [if_neg hw] at h
    obtain ⟨v, e, hr⟩ := h
    exact ⟨v, put_like hs e, hr⟩

theorem exec_putL {o : Oper} (hs : ∀ cs b, o.op ≠ .select cs b) {vs : Nat → Value} : ∀ (l : List Nat) (a : Act), (∀ k ∈ l, ∀ d, dstOf ops k = some d → d ∉ o.looksAt ops) →
    execOp (putL ops vs l a).eval o = execOp a.eval o ∧ Region.wanted o (yielded ops (putL ops vs l a).tmps) = Region.wanted o (yielded ops a.tmps)
  | [], _, _ => ⟨rfl, rfl⟩
  | i :: l, a, h => by
    obtain ⟨h1, h2⟩ := exec_putL hs (vs := vs) l (a.put (dstOf ops i) (vs i)) (fun k hk => h k (by simp [hk]))
    exact ⟨h1.trans (execOp_put o hs a _ _ (h i (by simp))), h2.trans (wanted_put o a _ _ (h i (by simp)))⟩

def looks (ops : Array Oper) (o : Oper) (k : Nat) : Bool := match dstOf ops k with
  | some d => (o.looksAt ops).contains d
  | none => false
def depsOf (ops : Array Oper) (G : List Nat) (i : Nat) : List Nat := match ops[i]? with
  | some o => G.filter (looks ops o)
  | none => []

def parB (md : Region.Mode) (ops : Array Oper) (ho G : List Nat) (listed : Array Bool) : Bool :=
  decide G.Nodup && (G.all fun i => !(listed.getD i true) && !ho.contains i) && (G.all fun i => G.all fun k => i == k || (dstOf ops i).isNone || dstOf ops i != dstOf ops k) &&
  (G.all fun i => match ops[i]? with
    | none => false
    | some o => (G.all fun k => !looks ops o k || o.after.any fun e => Region.binds md e && e.on == k) && o.after.all fun e => !Region.binds md e || listed.getD e.on false || (G.contains e.on && decide (e.on < i))) &&
  (List.range ops.size).all fun j => listed.getD j true || G.contains j || match ops[j]? with
    | none => true
    | some o => (G.all fun g => o.after.any fun e => Region.binds md e && e.on == g) || o.after.any fun e => Region.binds md e && !(listed.getD e.on true) && !G.contains e.on

structure Par (md : Region.Mode) (ops : Array Oper) (ho G : List Nat) (listed : Array Bool) : Prop where
  nodup : G.Nodup
  un : ∀ i ∈ G, listed.getD i true = false
  noho : ∀ i ∈ G, i ∉ ho
  apart : ∀ i ∈ G, ∀ j ∈ G, i ≠ j → apartD ops i j
  at_ : ∀ i ∈ G, ∃ o, ops[i]? = some o
  look : ∀ i ∈ G, ∀ o, ops[i]? = some o → ∀ k ∈ G, looks ops o k = true → ∃ e ∈ o.after, Region.binds md e = true ∧ e.on = k
  prec : ∀ i ∈ G, ∀ o, ops[i]? = some o → ∀ e ∈ o.after, Region.binds md e = true → listed.getD e.on false = true ∨ (e.on ∈ G ∧ e.on < i)
  tail : ∀ j o, ops[j]? = some o → listed.getD j true = false → j ∉ G → (∀ g ∈ G, ∃ e ∈ o.after, Region.binds md e = true ∧ e.on = g) ∨ ∃ e ∈ o.after, Region.binds md e = true ∧ listed.getD e.on true = false ∧ e.on ∉ G

theorem par_of {G : List Nat} {listed : Array Bool} (h : parB md ops ho G listed = true) : Par md ops ho G listed := by
  simp only [parB, Bool.and_eq_true, decide_eq_true_eq, List.all_eq_true, Bool.not_eq_true', List.contains_eq_mem, decide_eq_false_iff_not, Bool.or_eq_true, beq_iff_eq, Option.isNone_iff_eq_none, bne_iff_ne, ne_eq, List.mem_range] at h
  obtain ⟨⟨⟨⟨h1, h2⟩, h3⟩, h4⟩, h5⟩ := h
  refine ⟨h1, fun i hi => (h2 i hi).1, fun i hi => (h2 i hi).2, ?_, fun i hi => ?_, fun i hi o ho k hk hl => ?_, fun i hi o ho e he hb => ?_, fun j o hj hl hG => ?_⟩
  · intro a ha b hb hne d hd hd'
    rcases h3 a ha b hb with (h | h) | h
    · exact hne h
    · rw [h] at hd; cases hd
    · exact h (hd.trans hd'.symm)
  · have := h4 i hi
    cases ho : ops[i]? with
    | none => simp [ho] at this
    | some o => exact ⟨o, rfl⟩
  · have := h4 i hi
    simp only [ho, Bool.and_eq_true, List.all_eq_true, Bool.or_eq_true, Bool.not_eq_true', Array.any_eq_true', beq_iff_eq] at this
    rcases this.1 k hk with h | ⟨e, he, h⟩
    · rw [hl] at h; cases h
    · exact ⟨e, he, h⟩
  · have := h4 i hi
    simp only [ho, Bool.and_eq_true, Array.all_eq_true', Bool.or_eq_true, Bool.not_eq_true', decide_eq_true_eq] at this
    rcases this.2 e he with (h | h) | h
    · rw [hb] at h; cases h
    · exact .inl h
    · exact .inr h
  · have hlt : j < ops.size := (Array.getElem?_eq_some_iff.1 hj).1
    rcases h5 j hlt with (h | h) | h
    · rw [hl] at h; cases h
    · exact absurd (by simpa using h) hG
    · simp only [hj, Bool.or_eq_true, List.all_eq_true, Array.any_eq_true', Bool.and_eq_true, beq_iff_eq, Bool.not_eq_true', decide_eq_false_iff_not] at h
      rcases h with h | ⟨e, he, ⟨hb, h1⟩, h2⟩
      · exact .inl h
      · exact .inr ⟨e, he, hb, h1, h2⟩

theorem getD_lt {listed : Array Bool} {i : Nat} (h : listed.getD i true = false) : i < listed.size := by
  rcases Nat.lt_or_ge i listed.size with h' | h'
  · exact h'
  · simp [Array.getElem?_eq_none h'] at h
theorem getD_ff {listed : Array Bool} {i : Nat} (h : listed.getD i true = false) : listed.getD i false = false := by
  have := getD_lt h
  simp [this] at h ⊢
  exact h

theorem wpAnyN_par {G : List Nat} {listed : Array Bool} (hsel : ∀ (j : Nat) (o : Oper) cs c, ops[j]? = some o → o.op ≠ .select cs c) (hP : Par md ops ho G listed) {a0 : Act} {ft : Nat}
    (I : List Nat → (Nat → Value) → World → Prop)
    (step : ∀ i ∈ G, ∀ don vs w, (∀ k ∈ don, k ∈ G) → i ∉ don → (∀ k ∈ depsOf ops G i, k ∈ don) → I don vs w →
      opv P ops i (putL ops vs (depsOf ops G i) a0) w fun v w' => (i ∈ nd → C w') ∧ I (don ++ [i]) (upd vs i v) w')
    (fin : ∀ don vs w, (∀ i ∈ G, i ∈ don) → (∀ i ∈ don, i ∈ G) → I don vs w → wpAnyN P md ops ho nd C Q ft (setL G listed) (putL ops vs G a0) w) :
    ∀ (n : Nat) (don : List Nat) (vs : Nat → Value) (w : World), don.Nodup → (∀ k ∈ don, k ∈ G) → don.length + n = G.length → I don vs w →
      wpAnyN P md ops ho nd C Q (n + ft) (setL don listed) (putL ops vs don a0) w := by
  intro n
  induction n with
  | zero =>
    intro don vs w hnd hsub hlen hI
    have hall : ∀ i ∈ G, i ∈ don := nodup_full hnd hsub (by omega)
    have hp : don.Perm G := (List.perm_ext_iff_of_nodup hnd hP.nodup).2 fun k => ⟨hsub k, hall k⟩
    rw [setL_perm hp, putL_perm hp _ (List.Pairwise.imp_of_mem (fun {a b} ha hb hne => hP.apart a (hsub a ha) b (hsub b hb) hne) hnd), Nat.zero_add]
    exact fin don vs w hall hsub hI
  | succ n ih =>
    intro don vs w hnd hsub hlen hI
    have hlis : ∀ k, k ∈ G → k ∉ don → (setL don listed).getD k true = false := fun k hk hn => by rw [setL_getD don _ hn]; exact hP.un k hk
    have hdon : ∀ k, k ∈ don → (setL don listed).getD k false = true := fun k hk => setL_true don _ (fun _ => getD_lt (hP.un k (hsub k hk))) (.inl hk)
    have hdon' : ∀ k, (setL don listed).getD k false = true → k ∈ G → k ∈ don := fun k hk hG => Classical.byContradiction fun hn => by
      rw [getD_ff (hlis k hG hn)] at hk; cases hk
    have hex : ∀ i, i ∈ G → i ∉ don → Region.ready md ops (setL don listed) ≠ [] := by
      intro i
      induction i using Nat.strongRecOn with
      | _ i ihi =>
        intro hi hn
        obtain ⟨o, ho⟩ := hP.at_ i hi
        by_cases hall : ∀ e ∈ o.after, Region.binds md e = true → (setL don listed).getD e.on false = true
        · intro h0
          have : i ∈ Region.ready md ops (setL don listed) := mem_ready.2 ⟨hlis i hi hn, o, ho, hall⟩
          rw [h0] at this; cases this
        · have : ∃ e ∈ o.after, Region.binds md e = true ∧ ¬ (setL don listed).getD e.on false = true := Classical.byContradiction fun h => hall fun e he hb => Classical.byContradiction fun h2 => h ⟨e, he, hb, h2⟩
          obtain ⟨e, he, hb, hne⟩ := this
          rcases hP.prec i hi o ho e he hb with h | ⟨h, hlt⟩
          · exact absurd (setL_true don _ (fun hd => getD_lt (hP.un _ (hsub _ hd))) (.inr h)) hne
          · exact ihi e.on hlt h (fun hd => hne (hdon _ hd))
    have hone : ∃ i ∈ G, i ∉ don := Classical.byContradiction fun h => by
      have := nodup_le hP.nodup (fun k hk => Classical.byContradiction fun hn => h ⟨k, hk, hn⟩)
      omega
    obtain ⟨i0, hi0, hn0⟩ := hone
    rw [show n + 1 + ft = (n + ft) + 1 from by omega]
    refine ⟨fun h => absurd h (hex i0 hi0 hn0), fun j hj => ?_⟩
    obtain ⟨hjun, o, hjo, hjall⟩ := mem_ready.1 hj
    have hjd : j ∉ don := fun hd => by
      have h1 := hdon j hd
      have := getD_ff hjun
      rw [h1] at this; cases this
    have hjl : listed.getD j true = false := by rw [← setL_getD don listed hjd]; exact hjun
    have hjG : j ∈ G := Classical.byContradiction fun hn => by
      rcases hP.tail j o hjo hjl hn with h | ⟨e, he, hb, h1, h2⟩
      · obtain ⟨e, he, hb, heq⟩ := h i0 hi0
        have := hjall e he hb
        rw [heq] at this
        exact hn0 (hdon' _ this hi0)
      · have := hjall e he hb
        rw [setL_getD don listed (fun hd => h2 (hsub _ hd)), getD_ff h1] at this
        cases this
    have hdeps : depsOf ops G j = G.filter (looks ops o) := by simp [depsOf, hjo]
    have hdd : ∀ k ∈ depsOf ops G j, k ∈ don := fun k hk => by
      rw [hdeps, List.mem_filter] at hk
      obtain ⟨e, he, hb, heq⟩ := hP.look j hjG o hjo k hk.1 hk.2
      have := hjall e he hb
      rw [heq] at this
      exact hdon' _ this hk.1
    have hst := step j hjG don vs w hsub hjd hdd hI
    have hperm : don.Perm (depsOf ops G j ++ don.filter fun k => !(looks ops o k)) := by
      refine (List.perm_ext_iff_of_nodup hnd ?_).2 fun k => ?_
      · refine List.nodup_append.2 ⟨by rw [hdeps]; exact hP.nodup.filter _, hnd.filter _, fun x hx y hy e => ?_⟩
        subst e
        rw [hdeps, List.mem_filter] at hx
        rw [List.mem_filter] at hy
        rw [hx.2] at hy
        exact absurd hy.2 (by simp)
      · rw [List.mem_append, List.mem_filter]
        constructor
        · intro hk
          cases hl : looks ops o k
          · exact .inr ⟨hk, rfl⟩
          · exact .inl (by rw [hdeps, List.mem_filter]; exact ⟨hsub k hk, hl⟩)
        · rintro (h | h)
          · exact hdd k h
          · exact h.1
    have hap : don.Pairwise (apartD ops) := List.Pairwise.imp_of_mem (fun {a b} ha hb hne => hP.apart a (hsub a ha) b (hsub b hb) hne) hnd
    have hfr : putL ops vs don a0 = putL ops vs (don.filter fun k => !(looks ops o k)) (putL ops vs (depsOf ops G j) a0) := by rw [putL_perm hperm a0 hap, putL_append]
    obtain ⟨e1, e2⟩ := exec_putL (vs := vs) (fun cs b => hsel j o cs b hjo) (don.filter fun k => !(looks ops o k)) (putL ops vs (depsOf ops G j) a0) (fun k hk d hd => by
      rw [List.mem_filter] at hk
      have := hk.2
      unfold looks at this
      rw [hd] at this
      simpa using this)
    have hst' : opv P ops j (putL ops vs don a0) w _ := opv_congr hjo (by rw [hfr]; exact e1) (by rw [hfr]; exact e2) (by rw [putL_size, putL_size]) hst
    refine wpOp_mono (fun a' w' h => ?_) hst'
    obtain ⟨v, rfl, hc, hI'⟩ := h
    refine ⟨⟨fun h => absurd h (hP.noho j hjG), hc⟩, ?_⟩
    have hn' : (don ++ [j]).Nodup := List.nodup_append.2 ⟨hnd, by simp, fun x hx y hy e => by simp at hy; subst hy; subst e; exact hjd hx⟩
    have := ih (don ++ [j]) (upd vs j v) w' hn' (fun k hk => by simp only [List.mem_append, List.mem_singleton] at hk; rcases hk with hk | rfl; exact hsub k hk; exact hjG) (by simp; omega) hI'
    have hcg : putL ops (upd vs j v) don a0 = putL ops vs don a0 := putL_congr don a0 (fun k hk => if_neg (fun e : k = j => hjd (e ▸ hk)))
    rw [setL_append, putL_append, hcg] at this
    simpa [setL, putL, upd] using this

def preB (md : Region.Mode) (ops : Array Oper) (ho nd : List Nat) : List (Sk × Nat) → Array Bool → Bool
  | [], _ => true
  | (k, i) :: s, listed => stepB md ops ho nd k i listed && preB md ops ho nd s (listed.setIfInBounds i true)

theorem wpAnyN_of_pre {n : Nat} (hsel : ∀ (j : Nat) (o : Oper) cs c, ops[j]? = some o → o.op ≠ .select cs c) : ∀ (s : List (Sk × Nat)) (listed : Array Bool) (a : Act) (w : World),
    preB md ops ho nd s listed = true → scr P ops nd C (fun a w => wpAnyN P md ops ho nd C Q n (setL (s.map (·.2)) listed) a w) s a w → wpAnyN P md ops ho nd C Q (s.length + n) listed a w
  | [], listed, a, w, hB, h => by simpa [scr, setL] using h
  | (.one, i) :: s, listed, a, w, hB, h => by
    simp only [preB, stepB, Bool.and_eq_true, decide_eq_true_eq, Bool.not_eq_true', List.contains_eq_mem, decide_eq_false_iff_not] at hB
    obtain ⟨⟨hr, hh⟩, hB'⟩ := hB
    rw [show (((Sk.one, i) :: s).length + n) = (s.length + n) + 1 from by simp; omega]
    refine ⟨fun h0 => (by rw [hr] at h0; cases h0), fun j hj => ?_⟩
    rw [hr, List.mem_singleton] at hj
    subst hj
    exact wpOp_mono (fun a' w' h' => ⟨⟨fun h0 => absurd h0 hh, h'.1⟩, wpAnyN_of_pre hsel s _ a' w' hB' h'.2⟩) h
  | (.pure, i) :: s, listed, a, w, hB, h => by
    simp only [preB, stepB, Bool.and_eq_true, Bool.not_eq_true', List.contains_eq_mem, decide_eq_false_iff_not, decide_eq_true_eq] at hB
    obtain ⟨⟨⟨hr, hf⟩, hn⟩, hB'⟩ := hB
    obtain ⟨o, v, hi, hy, h'⟩ := h
    rw [show (((Sk.pure, i) :: s).length + n) = (s.length + n) + 1 from by simp; omega]
    exact wpAnyN_hoist (b := false) hi hsel hn [] (fun j oj _ hj => by cases hj) (fun h => by cases h) (s.length + n) listed a w (Region.free_spec hi hf) hr (fun j hj => by cases hj) (fun h => by cases h) (fun w' _ => hy w')
      (wpAnyN_of_pre hsel s _ _ w hB' h')
  | (.read, i) :: s, listed, a, w, hB, h => by
    simp only [preB, stepB, Bool.and_eq_true, Bool.not_eq_true', List.contains_eq_mem, decide_eq_false_iff_not, decide_eq_true_eq, List.all_eq_true, List.mem_range, Bool.or_eq_true, beq_iff_eq] at hB
    obtain ⟨⟨⟨⟨⟨⟨hr, hf⟩, hn⟩, hD⟩, hDl⟩, hall⟩, hB'⟩ := hB
    obtain ⟨o, v, hi, hc, hy, h'⟩ := h
    rw [show (((Sk.read, i) :: s).length + n) = (s.length + n) + 1 from by simp; omega]
    refine wpAnyN_hoist (b := true) hi hsel hn (descB md ops i) (fun j oj hj hjd => ?_) (fun _ j oj hj hne hjd => ?_) (s.length + n) listed a w (Region.free_spec hi hf) hr (fun j hj => hDl j hj) (fun _ => hc) (fun w' hw => hy w' (hw rfl))
      (wpAnyN_of_pre hsel s _ _ w hB' h')
    · have := hD j hjd
      simp only [hj, Option.map_some, Option.getD_some, Array.any_eq_true', Bool.and_eq_true, Bool.or_eq_true, beq_iff_eq, decide_eq_true_eq] at this
      exact this
    · have hlt : j < ops.size := (Array.getElem?_eq_some_iff.1 hj).1
      rcases hall j hlt with ((h | h) | h) | h
      · exact absurd h hne
      · exact absurd h hjd
      · exact .inl h
      · exact .inr h

theorem scr_imp {Q Q' : Act → World → Prop} : ∀ (s : List (Sk × Nat)) (a : Act) (w : World), scr P ops nd C Q s a w → (∀ a w, Q a w → Q' a w) → scr P ops nd C Q' s a w
  | [], _, _, h, hQ => hQ _ _ h
  | (.pure, _) :: s, _, _, ⟨o, v, h1, h2, h3⟩, hQ => ⟨o, v, h1, h2, scr_imp s _ _ h3 hQ⟩
  | (.read, _) :: s, _, _, ⟨o, v, h1, h2, h3, h4⟩, hQ => ⟨o, v, h1, h2, h3, scr_imp s _ _ h4 hQ⟩
  | (.one, _) :: s, _, _, h, hQ => wpOp_mono (fun a' w' h' => ⟨h'.1, scr_imp s a' w' h'.2 hQ⟩) h

/-- what is said of an operation that may come in any order: the datum that it yields; the block that it makes; the block that it fills -/
inductive Sp where
  | data (F : Value → World → List Nat → Prop)
  | fresh (T : TypeId) (z : Array Value)
  | store (k : Nat) (T : TypeId) (F : Array Value → World → List Nat → Prop)

def Sp.ok : Sp → Prop
  | .data F => ∀ v w X w' Y, Mv w X w' Y → F v w X → F v w' Y
  | .fresh _ _ => True
  | .store _ _ F => ∀ c w X w' Y, Mv w X w' Y → F c w X → F c w' Y

/-- what is known of an operation that has been, where another one looks at its value -/
def Sp.known (s : Sp) (v : Value) (w : World) (X : List Nat) : Prop := match s with
  | .data F => F v w X
  | .fresh _ _ => ∃ b, v = .pointer (some ⟨b, 0, none⟩) ∧ b ∈ X
  | .store _ _ _ => True

def StepOK (P : Program) (ops : Array Oper) (G : List Nat) (sp : Nat → Sp) (w0 : World) (X0 : List Nat) (a0 : Act) (i : Nat) : Prop := match sp i with
  | .data F => ∀ vs w X, Ext w0 w → Mv w0 X0 w X → Old X w → (∀ b ∈ X0, b ∈ X) → (∀ k ∈ depsOf ops G i, (sp k).known (vs k) w X) → opv P ops i (putL ops vs (depsOf ops G i) a0) w fun v w' => Ext w w' ∧ F v w' X
  | .fresh T z => ∀ vs w, Ext w0 w → opv P ops i (putL ops vs (depsOf ops G i) a0) w fun v w' => v = .pointer (some ⟨w.heap.size, 0, none⟩) ∧ w' = w.alloc (.cells z T)
  | .store k T F => ∀ vs w X b, Ext w0 w → Mv w0 X0 w X → Old X w → (∀ b ∈ X0, b ∈ X) → b ∈ X → vs k = .pointer (some ⟨b, 0, none⟩) → (∀ T' z, sp k = .fresh T' z → w.heap[b]? = some (.cells z T' (0, 0))) → (∀ k ∈ depsOf ops G i, (sp k).known (vs k) w X) →
      opv P ops i (putL ops vs (depsOf ops G i) a0) w fun _ w' => ∃ c, w'.heap[b]? = some (.cells c T (0, 0)) ∧ w.grownBy w' (some b) ∧ F c w' X

/-- what is known at the end -/
def Known (sp : Nat → Sp) (don : List Nat) (vs : Nat → Value) (bs : Nat → Nat) (w0 w : World) (X : List Nat) (i : Nat) : Prop := match sp i with
  | .data F => F (vs i) w X
  | .fresh T z => vs i = .pointer (some ⟨bs i, 0, none⟩) ∧ w0.heap.size ≤ bs i ∧ bs i ∈ X ∧ ((∀ s ∈ don, ∀ T' F, sp s ≠ .store i T' F) → w.heap[bs i]? = some (.cells z T (0, 0)))
  | .store k T F => ∃ c, w.heap[bs k]? = some (.cells c T (0, 0)) ∧ F c w X

def isFresh : Sp → Bool
  | .fresh _ _ => true
  | _ => false

structure ParI (sp : Nat → Sp) (w0 : World) (X0 : List Nat) (don : List Nat) (vs : Nat → Value) (w : World) (bs : Nat → Nat) (X : List Nat) : Prop where
  ext : Ext w0 w
  mv : Mv w0 X0 w X
  old : Old X w
  x0 : ∀ b ∈ X0, b ∈ X
  know : ∀ i ∈ don, Known sp don vs bs w0 w X i
  sep : ∀ i ∈ don, ∀ j ∈ don, isFresh (sp i) = true → isFresh (sp j) = true → i ≠ j → bs i ≠ bs j
  cl : ∀ i ∈ don, ∀ k T F, sp i = .store k T F → k ∈ don

theorem wpOp_to {i : Nat} {a : Act} {w : World} {K K' : Act → World → Prop} (hh : wpOp P ops NoX i K a w) (h : ∀ a w, K a w → K' a w) : wpOp P ops NoX i K' a w := wpOp_mono h hh

/-- a store's block is made by an operation that it looks at, by this store alone -/
def SpOk (ops : Array Oper) (G : List Nat) (sp : Nat → Sp) : Prop := ∀ i ∈ G, ∀ k T F, sp i = .store k T F → (∃ z, sp k = .fresh T z) ∧ k ∈ depsOf ops G i ∧ ∀ j ∈ G, ∀ T' F', sp j = .store k T' F' → j = i

theorem Known.more {sp : Nat → Sp} {don : List Nat} {vs : Nat → Value} {bs bs' : Nat → Nat} {w0 w w' : World} {X Y : List Nat} {i : Nat} {v : Value} {j : Nat} (hok : (sp i).ok) (h : Known sp don vs bs w0 w X i) (hij : i ≠ j) (hm : Mv w X w' Y) (hXY : ∀ b ∈ X, b ∈ Y)
    (hbs : bs' i = bs i) (hbk : ∀ k T F, sp i = .store k T F → bs' k = bs k) (hf : ∀ T z, sp i = .fresh T z → (∀ s ∈ don ++ [j], ∀ T' F, sp s ≠ .store i T' F) → w'.heap[bs i]? = w.heap[bs i]?) (hst : ∀ k T F, sp i = .store k T F → w'.heap[bs k]? = w.heap[bs k]?) :
    Known sp (don ++ [j]) (upd vs j v) bs' w0 w' Y i := by
  have hu : upd vs j v i = vs i := if_neg hij
  unfold Known at *
  rw [hu, hbs]
  cases hs : sp i with
  | data F =>
    simp only [hs] at h ⊢
    have hok' := hok
    simp only [hs, Sp.ok] at hok'
    exact hok' _ _ _ _ _ hm h
  | fresh T z =>
    simp only [hs] at h ⊢
    obtain ⟨h1, h2, h3, h4⟩ := h
    exact ⟨h1, h2, hXY _ h3, fun hno => (hf T z hs hno).trans (h4 fun s hs' T' F => hno s (by simp [hs']) T' F)⟩
  | store k T F =>
    simp only [hs] at h ⊢
    obtain ⟨c, h1, h2⟩ := h
    have hok' := hok
    simp only [hs, Sp.ok] at hok'
    exact ⟨c, by rw [hbk k T F hs]; exact (hst k T F hs).trans h1, hok' _ _ _ _ _ hm h2⟩

theorem parI_step {G : List Nat} {sp : Nat → Sp} {w0 : World} {X0 : List Nat} {a0 : Act} (hok : ∀ i ∈ G, (sp i).ok) (hsp : SpOk ops G sp) (hC : ∀ w, Ext w0 w → C w) (hst : ∀ i ∈ G, StepOK P ops G sp w0 X0 a0 i)
    (i : Nat) (hi : i ∈ G) (don : List Nat) (vs : Nat → Value) (w : World) (hsub : ∀ k ∈ don, k ∈ G) (hn : i ∉ don) (hd : ∀ k ∈ depsOf ops G i, k ∈ don) (hI : ∃ bs X, ParI sp w0 X0 don vs w bs X) :
    opv P ops i (putL ops vs (depsOf ops G i) a0) w fun v w' => (i ∈ nd → C w') ∧ ∃ bs X, ParI sp w0 X0 (don ++ [i]) (upd vs i v) w' bs X := by
  obtain ⟨bs, X, H⟩ := hI
  have hkn : ∀ k ∈ depsOf ops G i, (sp k).known (vs k) w X := fun k hk => by
    have h := H.know k (hd k hk)
    unfold Known at h
    unfold Sp.known
    cases hs : sp k with
    | data F => simpa only [hs] using h
    | fresh T z => simp only [hs] at h ⊢; exact ⟨bs k, h.1, h.2.2.1⟩
    | store k T F => trivial
  have hne : ∀ j ∈ don, j ≠ i := fun j hj e => hn (e ▸ hj)
  have hs := hst i hi
  unfold StepOK at hs
  cases hspi : sp i with
  | data F =>
    simp only [hspi] at hs
    refine wpOp_to (hs vs w X H.ext H.mv H.old H.x0 hkn) fun a' w' h => ?_
    obtain ⟨v, e, hE, hF⟩ := h
    have hE2 := H.ext.trans hE
    refine ⟨v, e, fun _ => hC _ hE2, bs, X, hE2, H.mv.trans (hE.mv X), H.old.le hE.size, H.x0, fun j hj => ?_, fun j hj k hk h1 h2 h3 => ?_, fun j hj k T F' hjs => ?_⟩
    · rw [List.mem_append, List.mem_singleton] at hj
      rcases hj with hj | rfl
      · refine (H.know j hj).more (hok j (hsub j hj)) (hne j hj) (hE.mv X) (fun b hb => hb) rfl (fun _ _ _ _ => rfl) (fun T z hz _ => ?_) (fun k T F' hz => ?_)
        · have h := H.know j hj
          simp only [Known, hz] at h
          exact hE.below.block _ (H.old _ h.2.2.1)
        · have h := H.know k (H.cl j hj k T F' hz)
          obtain ⟨z, hz'⟩ := (hsp j (hsub j hj) k T F' hz).1
          simp only [Known, hz'] at h
          exact hE.below.block _ (H.old _ h.2.2.1)
      · simp only [Known, hspi, upd, if_pos]
        exact hF
    · rw [List.mem_append, List.mem_singleton] at hj hk
      rcases hj with hj | rfl
      · rcases hk with hk | rfl
        · exact H.sep j hj k hk h1 h2 h3
        · rw [hspi] at h2; cases h2
      · rw [hspi] at h1; cases h1
    · rw [List.mem_append, List.mem_singleton] at hj
      rcases hj with hj | rfl
      · exact List.mem_append_left _ (H.cl j hj k T F' hjs)
      · rw [hspi] at hjs; cases hjs
  | fresh T z =>
    simp only [hspi] at hs
    refine wpOp_to (hs vs w H.ext) fun a' w' h => ?_
    obtain ⟨v, e, rfl, rfl⟩ := h
    have hE : Ext w (w.alloc (.cells z T)) := Ext.alloc _ _
    have hE2 := H.ext.trans hE
    have hX : Old (w.heap.size :: X) (w.alloc (.cells z T)) := Old.cons (by simp) (H.old.le hE.size)
    have hbs : ∀ j ∈ don, (if j = i then w.heap.size else bs j) = bs j := fun j hj => if_neg (hne j hj)
    refine ⟨_, e, fun _ => hC _ hE2, fun k => if k = i then w.heap.size else bs k, w.heap.size :: X, hE2, (H.mv.trans (hE.mv X)).more H.ext.size, hX, fun b hb => List.mem_cons_of_mem _ (H.x0 b hb), fun j hj => ?_, fun j hj k hk h1 h2 h3 => ?_, fun j hj k T' F' hjs => ?_⟩
    · rw [List.mem_append, List.mem_singleton] at hj
      rcases hj with hj | rfl
      · refine (H.know j hj).more (hok j (hsub j hj)) (hne j hj) ((hE.mv X).more (Nat.le_refl _)) (fun b hb => List.mem_cons_of_mem _ hb) (hbs j hj) (fun k T' F' hz => hbs k (H.cl j hj k T' F' hz)) (fun T' z' hz _ => ?_) (fun k T' F' hz => ?_)
        · have h := H.know j hj
          simp only [Known, hz] at h
          exact hE.below.block _ (H.old _ h.2.2.1)
        · have h := H.know k (H.cl j hj k T' F' hz)
          obtain ⟨z', hz'⟩ := (hsp j (hsub j hj) k T' F' hz).1
          simp only [Known, hz'] at h
          exact hE.below.block _ (H.old _ h.2.2.1)
      · simp only [Known, hspi, upd, if_pos]
        exact ⟨trivial, H.ext.size, by simp, fun _ => by show (w.heap.push _)[_]? = _; rw [push_get, if_pos rfl]⟩
    · rw [List.mem_append, List.mem_singleton] at hj hk
      have hlt : ∀ k ∈ don, isFresh (sp k) = true → bs k < w.heap.size := fun k hk hf => by
        have h := H.know k hk
        cases hs : sp k with
        | data F => rw [hs] at hf; cases hf
        | store k T F => rw [hs] at hf; cases hf
        | fresh T z => simp only [Known, hs] at h; exact H.old _ h.2.2.1
      rcases hj with hj | rfl
      · rcases hk with hk | rfl
        · show (if j = i then w.heap.size else bs j) ≠ if k = i then w.heap.size else bs k
          rw [hbs j hj, hbs k hk]; exact H.sep j hj k hk h1 h2 h3
        · show (if j = k then w.heap.size else bs j) ≠ if k = k then w.heap.size else bs k
          rw [hbs j hj, if_pos rfl]; exact Nat.ne_of_lt (hlt j hj h1)
      · rcases hk with hk | rfl
        · show (if j = j then w.heap.size else bs j) ≠ if k = j then w.heap.size else bs k
          rw [hbs k hk, if_pos rfl]; exact Nat.ne_of_gt (hlt k hk h2)
        · exact absurd rfl h3
    · rw [List.mem_append, List.mem_singleton] at hj
      rcases hj with hj | rfl
      · exact List.mem_append_left _ (H.cl j hj k T' F' hjs)
      · rw [hspi] at hjs; cases hjs
  | store k T F =>
    simp only [hspi] at hs
    obtain ⟨⟨z, hz⟩, hkd, huni⟩ := hsp i hi k T F hspi
    have hkdon := hd k hkd
    have hk := H.know k hkdon
    simp only [Known, hz] at hk
    obtain ⟨hv, hge, hbX, hcell⟩ := hk
    have hcell' := hcell fun s hs' T' F' he => hn (by rw [← huni s (hsub s hs') T' F' he]; exact hs')
    refine wpOp_to (hs vs w X (bs k) H.ext H.mv H.old H.x0 hbX hv (fun T' z' he => by rw [hz] at he; cases he; exact hcell') hkn) fun a' w' h => ?_
    obtain ⟨v, e, c, hc, hg, hF⟩ := h
    have hE2 : Ext w0 w' := H.ext.grown hg (fun j hj => by cases hj; exact hge)
    have hm : Mv w X w' X := (Mv.refl w X).grown hg (fun j hj => by cases hj; exact hbX)
    refine ⟨v, e, fun _ => hC _ hE2, bs, X, hE2, H.mv.trans hm, H.old.le hg.size, H.x0, fun j hj => ?_, fun j hj k' hk' h1 h2 h3 => ?_, fun j hj k' T' F' hjs => ?_⟩
    · rw [List.mem_append, List.mem_singleton] at hj
      have hkeep : ∀ j ∈ don, ∀ T' z', sp j = .fresh T' z' → j ≠ k → w'.heap[bs j]? = w.heap[bs j]? := fun j hj T' z' hjz hjk => by
        have h := H.know j hj
        simp only [Known, hjz] at h
        exact hg.block _ (H.old _ h.2.2.1) (fun e => H.sep j hj k hkdon (by rw [hjz]; rfl) (by rw [hz]; rfl) hjk (Option.some.inj e))
      rcases hj with hj | rfl
      · refine (H.know j hj).more (hok j (hsub j hj)) (hne j hj) hm (fun b hb => hb) rfl (fun _ _ _ _ => rfl) (fun T' z' hz' hno => ?_) (fun k' T' F' hz' => ?_)
        · exact hkeep j hj T' z' hz' fun e => hno i (by simp) T F (by rw [e]; exact hspi)
        · obtain ⟨z', hk'z⟩ := (hsp j (hsub j hj) k' T' F' hz').1
          exact hkeep k' (H.cl j hj k' T' F' hz') T' z' hk'z fun e => hne j hj (huni j (hsub j hj) T' F' (by rw [← e]; exact hz'))
      · simp only [Known, hspi]
        exact ⟨c, hc, hF⟩
    · rw [List.mem_append, List.mem_singleton] at hj hk'
      rcases hj with hj | rfl
      · rcases hk' with hk' | rfl
        · exact H.sep j hj k' hk' h1 h2 h3
        · rw [hspi] at h2; cases h2
      · rw [hspi] at h1; cases h1
    · rw [List.mem_append, List.mem_singleton] at hj
      rcases hj with hj | rfl
      · exact List.mem_append_left _ (H.cl j hj k' T' F' hjs)
      · rw [hspi] at hjs; cases hjs; exact List.mem_append_left _ hkdon

/-- the operations G, in any order, and then the script t -/
def parP (P : Program) (ops : Array Oper) (nd : List Nat) (C : World → Prop) (Q : Act → World → Prop) (G : List Nat) (t : List (Sk × Nat)) (a0 : Act) (w0 : World) : Prop :=
  ∃ (sp : Nat → Sp) (X0 : List Nat), (∀ i ∈ G, (sp i).ok) ∧ SpOk ops G sp ∧ Old X0 w0 ∧ (∀ w, Ext w0 w → C w) ∧ (∀ i ∈ G, StepOK P ops G sp w0 X0 a0 i) ∧
    ∀ (vs : Nat → Value) (w : World) (X : List Nat) (bs : Nat → Nat), Ext w0 w → Mv w0 X0 w X → Old X w → (∀ b ∈ X0, b ∈ X) → (∀ i ∈ G, Known sp G vs bs w0 w X i) → (∀ i ∈ G, ∀ j ∈ G, isFresh (sp i) = true → isFresh (sp j) = true → i ≠ j → bs i ≠ bs j) →
      scr P ops nd C Q t (putL ops vs G a0) w

theorem wp_region_par {id : Nat} {Q : Exit → Act → World → Prop} {a : Act} {w : World} {l : List Oper} (ho nd : List Nat) (C : World → Prop) (s : List (Sk × Nat)) (G : List Nat) (t : List (Sk × Nat)) (hm : P.follows .mixedOrders = true)
    (hB : (Region.noSelect l.toArray && decide (s.length + (G.length + t.length) = l.length) && preB .any l.toArray ho nd s (Array.replicate l.length false) && parB .any l.toArray ho G (setL (s.map (·.2)) (Array.replicate l.length false)) &&
      scriptB .any l.toArray ho nd t (setL G (setL (s.map (·.2)) (Array.replicate l.length false)))) = true)
    (h : scr P l.toArray nd C (parP P l.toArray nd C (fun a w => Q .normal a w) G t) s a w.drew) : (Code.region id l.toArray true).wp P Q a w := by
  simp only [Bool.and_eq_true, decide_eq_true_eq] at hB
  obtain ⟨⟨⟨⟨hsel, hlen⟩, hs⟩, hG⟩, ht⟩ := hB
  refine wp_region_any hm (wpAny_of_N (ho := ho) (nd := nd) (C := C) (Q := fun a w => Q .normal a w) (fun _ _ h => h) _ _ _ _ ?_)
  have hP := par_of hG
  have := wpAnyN_of_pre (md := .any) (ho := ho) (n := G.length + t.length) (Region.noSelect_spec hsel) s (Array.replicate l.length false) a w.drew hs (scr_imp s a w.drew h fun a0 w0 hp => by
    obtain ⟨sp, X0, hok, hsp, hold, hC, hst, hfin⟩ := hp
    exact wpAnyN_par (Region.noSelect_spec hsel) hP (ft := t.length) (fun don vs w => ∃ bs X, ParI sp w0 X0 don vs w bs X) (parI_step hok hsp hC hst)
      (fun don vs w hall hsub hI => by
        obtain ⟨bs, X, H⟩ := hI
        refine wpAnyN_of_scr (Region.noSelect_spec hsel) t _ _ w ht (hfin vs w X bs H.ext H.mv H.old H.x0 (fun i hi => ?_) fun i hi j hj => H.sep i (hall i hi) j (hall j hj))
        have h := H.know i (hall i hi)
        unfold Known at *
        cases hs : sp i with
        | data F => simpa only [hs] using h
        | store k T F => simpa only [hs] using h
        | fresh T z => simp only [hs] at h ⊢; exact ⟨h.1, h.2.1, h.2.2.1, fun hno => h.2.2.2 fun s hs' => hno s (hsub s hs')⟩)
      G.length [] (fun _ => undef) w0 List.nodup_nil (fun k hk => by cases hk) (by simp) ⟨fun _ => 0, X0, { ext := Ext.refl _, mv := Mv.refl _ _, old := hold, x0 := fun b hb => hb, know := (fun i hi => by cases hi), sep := (fun i hi => by cases hi), cl := (fun i hi => by cases hi) }⟩)
  rw [hlen] at this
  simpa using this

/-- *p = v, v of one cell, into a block whose cells are known; the world behind it has a name of its own -/
theorem wpL_storeC {w : World} {rest : List Oper} {o : Oper} {a : Act} {Q : Exit → Act → World → Prop} (hgd : o.guard = none) (t : TypeId) (ad x : Operand) (ho : o.op = .store t ad x) {z : Value} {bytes : Nat} (hi : (P.info? t).map (fun i => (i.zero, i.size, i.bytes)) = some (some z, 1, bytes))
    {b off : Nat} {old new : Array Value} {T : TypeId} {v : Value} (hp : a.eval ad = .pointer (some ⟨b, off, none⟩)) (hx : a.eval x = v) (hv : v.oneCell' = true) (hb : w.heap[b]? = some (.cells old T (0, 0))) (hoff : off < old.size) (hnew : old.setIfInBounds off v = new)
    (h : ∀ w', w'.heap[b]? = some (.cells new T (0, 0)) → w.grownBy w' (some b) → wpList P ops Q rest (a.put o.dst undef) w') : wpList P ops Q (o :: rest) a w := by
  subst hnew
  refine wpL_store1 hgd t ad x ho hi hp hx hv (by rw [cells_of hb off]; simp [hoff]) (frozen_of_row _ _ _ _ _ hb) ?_
  exact abs_set (G := fun wr => wpList P ops Q rest (a.put o.dst undef) wr) hb fun w1 h1 h2 _ => h w1 h1 h2
theorem wp_storeC {w : World} {o : Oper} {a : Act} {K : Act → World → Prop} {Q : Exit → Act → World → Prop} (t : TypeId) (ad x : Operand) (ho : o.op = .store t ad x) {z : Value} {bytes : Nat} (hi : (P.info? t).map (fun i => (i.zero, i.size, i.bytes)) = some (some z, 1, bytes))
    {b off : Nat} {old new : Array Value} {T : TypeId} {v : Value} (hp : a.eval ad = .pointer (some ⟨b, off, none⟩)) (hx : a.eval x = v) (hv : v.oneCell' = true) (hb : w.heap[b]? = some (.cells old T (0, 0))) (hoff : off < old.size) (hnew : old.setIfInBounds off v = new)
    (h : ∀ w', w'.heap[b]? = some (.cells new T (0, 0)) → w.grownBy w' (some b) → K (a.put o.dst undef) w') : o.wp P a w K Q := by
  subst hnew
  refine wp_store1 t ad x ho hi hp hx hv (by rw [cells_of hb off]; simp [hoff]) (frozen_of_row _ _ _ _ _ hb) ?_
  exact abs_set (G := fun wr => K (a.put o.dst undef) wr) hb fun w1 h1 h2 _ => h w1 h1 h2
/-- what stands in other blocks stays where one block is written -/
theorem grown_keep {w w' : World} {b k off : Nat} {v : Value} (hg : w.grownBy w' (some b)) (hc : w.cell? ⟨k, off, none⟩ = some v) (hne : k ≠ b) : w'.cell? ⟨k, off, none⟩ = some v :=
  (((Mv.refl w [b]).grown hg (fun j hj => by cases hj; simp)).cell (by simpa using hne) hc).1

/-- what is to be shown of one operation, its frame written out -/
theorem opv_one {G : List Nat} {i : Nat} {o : Oper} {dl : List Nat} {vs : Nat → Value} {a0 a' : Act} {w : World} {R : Value → World → Prop} (hi : ops[i]? = some o) (hd : depsOf ops G i = dl) (ha : putL ops vs dl a0 = a') (hw : Region.wanted o (yielded ops a'.tmps) = true)
    (h : ∀ K : Act → World → Prop, (∀ v w', R v w' → K (a'.put o.dst v) w') → o.wp P a' w K NoX) : opv P ops i (putL ops vs (depsOf ops G i) a0) w R := by
  subst hd
  subst ha
  have hdst : dstOf ops i = o.dst := by simp [dstOf, hi]
  unfold opv wpOp
  simp only [hi, hdst]
  rw [if_pos hw]
  exact .inl (h _ fun v w' hR => ⟨v, rfl, hR⟩)
theorem deps_mem {G : List Nat} {i k : Nat} (h : (depsOf ops G i).contains k = true) : k ∈ depsOf ops G i := by simpa using h
theorem par_end {G : List Nat} {t : List (Sk × Nat)} {vs : Nat → Value} {a0 a' : Act} {w : World} (ha : putL ops vs G a0 = a') (h : scr P ops nd C Q t a' w) : scr P ops nd C Q t (putL ops vs G a0) w := ha ▸ h
/-- .. of one that yields a value in the world as it is -/
theorem opv_val {G : List Nat} {i : Nat} {o : Oper} {dl : List Nat} {vs : Nat → Value} {a0 a' : Act} {w : World} {R : Value → World → Prop} {v : Value} (hi : ops[i]? = some o) (hd : depsOf ops G i = dl) (ha : putL ops vs dl a0 = a') (hw : Region.wanted o (yielded ops a'.tmps) = true)
    (hy : (execOp a'.eval o).run P w = .ok (.value v) w) (h : R v w) : opv P ops i (putL ops vs (depsOf ops G i) a0) w R :=
  opv_one hi hd ha hw fun K hK => by
    unfold Oper.wp
    rw [hy]
    exact hK v w h
end
end Go.Proofs.YtihapgangilncaaGreat
