/- Regions that draw their order: operations that may come in any order, each with what it yields and keeps, proved once each (no order is listed). -/
import Derived.Test.YtihapgangilncaaGreatKCOrder
namespace Go.Proofs.YtihapgangilncaaGreat
open Go.RowKit

def dstOf (ops : Array Oper) (i : Nat) : Option Tmp := (ops[i]?).bind (·.dst)
def apartD (ops : Array Oper) (i j : Nat) : Prop := ∀ d, dstOf ops i = some d → dstOf ops j ≠ some d
theorem apartD.symm {ops : Array Oper} {i j : Nat} (h : apartD ops i j) : apartD ops j i := fun d hj hi => h d hi hj

def upd (vs : Nat → Value) (i : Nat) (v : Value) : Nat → Value := fun k => if k = i then v else vs k

section
variable {P : Program} {ops : Array Oper} {ho nd : List Nat} {C : World → Prop} {Q : Act → World → Prop} {md : Region.Mode}

theorem nodup_le {α : Type} [BEq α] [LawfulBEq α] : ∀ {l G : List α}, l.Nodup → (∀ k ∈ l, k ∈ G) → l.length ≤ G.length
  | [], _, _, _ => Nat.zero_le _
  | x :: l, G, hn, hs => by
    have hx : x ∈ G := hs x (by simp)
    have h := nodup_le (G := G.erase x) (List.nodup_cons.1 hn).2 (fun k hk => (List.mem_erase_of_ne (fun e : k = x => (List.nodup_cons.1 hn).1 (e ▸ hk))).2 (hs k (by simp [hk])))
    rw [List.length_erase_of_mem hx] at h
    have := List.length_pos_of_mem hx
    simp only [List.length_cons]
    omega
theorem nodup_full {α : Type} [BEq α] [LawfulBEq α] {l G : List α} (hn : l.Nodup) (hs : ∀ k ∈ l, k ∈ G) (hl : G.length ≤ l.length) : ∀ k ∈ G, k ∈ l := fun k hk => Classical.byContradiction fun h => by
  have := nodup_le (l := k :: l) (G := G) (List.nodup_cons.2 ⟨h, hn⟩) (fun x hx => by simp only [List.mem_cons] at hx; rcases hx with rfl | hx; exact hk; exact hs x hx)
  simp only [List.length_cons] at this
  omega

def looks (ops : Array Oper) (o : Oper) (k : Nat) : Bool := match dstOf ops k with
  | some d => (o.looksAt ops).contains d
  | none => false
/-- what is said of an operation that may come in any order: the datum that it yields; the block that it makes; the block that it fills -/
inductive Sp where
  | data (F : Value → World → List Nat → Prop)
  | fresh (T : TypeId) (z : Array Value)
  | store (k : Nat) (T : TypeId) (F : Array Value → World → List Nat → Prop)

def Sp.ok : Sp → Prop
  | .data F => ∀ v w X w' Y, Mv w X w' Y → F v w X → F v w' Y
  | .fresh _ _ => True
  | .store _ _ F => ∀ c w X w' Y, Mv w X w' Y → F c w X → F c w' Y

/-- what is known of an operation that has been, where another one looks at its value -/
def Sp.known (s : Sp) (v : Value) (w : World) (X : List Nat) : Prop := match s with
  | .data F => F v w X
  | .fresh _ _ => ∃ b, v = .pointer (some ⟨b, 0, none⟩) ∧ b ∈ X
  | .store _ _ _ => True

/-- what is known at the end -/
def Known (sp : Nat → Sp) (don : List Nat) (vs : Nat → Value) (bs : Nat → Nat) (w0 w : World) (X : List Nat) (i : Nat) : Prop := match sp i with
  | .data F => F (vs i) w X
  | .fresh T z => vs i = .pointer (some ⟨bs i, 0, none⟩) ∧ w0.heap.size ≤ bs i ∧ bs i ∈ X ∧ ((∀ s ∈ don, ∀ T' F, sp s ≠ .store i T' F) → w.heap[bs i]? = some (.cells z T (0, 0)))
  | .store k T F => ∃ c, w.heap[bs k]? = some (.cells c T (0, 0)) ∧ F c w X

theorem Known.more {sp : Nat → Sp} {don : List Nat} {vs : Nat → Value} {bs bs' : Nat → Nat} {w0 w w' : World} {X Y : List Nat} {i : Nat} {v : Value} {j : Nat} (hok : (sp i).ok) (h : Known sp don vs bs w0 w X i) (hij : i ≠ j) (hm : Mv w X w' Y) (hXY : ∀ b ∈ X, b ∈ Y)
    (hbs : bs' i = bs i) (hbk : ∀ k T F, sp i = .store k T F → bs' k = bs k) (hf : ∀ T z, sp i = .fresh T z → (∀ s ∈ don ++ [j], ∀ T' F, sp s ≠ .store i T' F) → w'.heap[bs i]? = w.heap[bs i]?) (hst : ∀ k T F, sp i = .store k T F → w'.heap[bs k]? = w.heap[bs k]?) :
    Known sp (don ++ [j]) (upd vs j v) bs' w0 w' Y i := by
  have hu : upd vs j v i = vs i := if_neg hij
  unfold Known at *
  rw [hu, hbs]
  cases hs : sp i with
  | data F =>
    simp only [hs] at h ⊢
    have hok' := hok
    simp only [hs, Sp.ok] at hok'
    exact hok' _ _ _ _ _ hm h
  | fresh T z =>
    simp only [hs] at h ⊢
    obtain ⟨h1, h2, h3, h4⟩ := h
    exact ⟨h1, h2, hXY _ h3, fun hno => (hf T z hs hno).trans (h4 fun s hs' T' F => hno s (by simp [hs']) T' F)⟩
  | store k T F =>
    simp only [hs] at h ⊢
    obtain ⟨c, h1, h2⟩ := h
    have hok' := hok
    simp only [hs, Sp.ok] at hok'
    exact ⟨c, by rw [hbk k T F hs]; exact (hst k T F hs).trans h1, hok' _ _ _ _ _ hm h2⟩

/-- *p = v, v of one cell, into a block whose cells are known; the world behind it has a name of its own -/
theorem wpL_storeC {w : World} {rest : List Oper} {o : Oper} {a : Act} {Q : Exit → Act → World → Prop} (hgd : o.guard = none) (t : TypeId) (ad x : Operand) (ho : o.op = .store t ad x) {z : Value} {bytes : Nat} (hi : (P.info? t).map (fun i => (i.zero, i.size, i.bytes)) = some (some z, 1, bytes))
    {b off : Nat} {old new : Array Value} {T : TypeId} {v : Value} (hp : a.eval ad = .pointer (some ⟨b, off, none⟩)) (hx : a.eval x = v) (hv : v.oneCell' = true) (hb : w.heap[b]? = some (.cells old T (0, 0))) (hoff : off < old.size) (hnew : old.setIfInBounds off v = new)
    (h : ∀ w', w'.heap[b]? = some (.cells new T (0, 0)) → w.grownBy w' (some b) → wpList P ops Q rest (a.put o.dst undef) w') : wpList P ops Q (o :: rest) a w := by
  subst hnew
  refine wpL_store1 hgd t ad x ho hi hp hx hv (by rw [cells_of hb off]; simp [hoff]) (frozen_of_row _ _ _ _ _ hb) ?_
  exact abs_set (G := fun wr => wpList P ops Q rest (a.put o.dst undef) wr) hb fun w1 h1 h2 _ => h w1 h1 h2
theorem wp_storeC {w : World} {o : Oper} {a : Act} {K : Act → World → Prop} {Q : Exit → Act → World → Prop} (t : TypeId) (ad x : Operand) (ho : o.op = .store t ad x) {z : Value} {bytes : Nat} (hi : (P.info? t).map (fun i => (i.zero, i.size, i.bytes)) = some (some z, 1, bytes))
    {b off : Nat} {old new : Array Value} {T : TypeId} {v : Value} (hp : a.eval ad = .pointer (some ⟨b, off, none⟩)) (hx : a.eval x = v) (hv : v.oneCell' = true) (hb : w.heap[b]? = some (.cells old T (0, 0))) (hoff : off < old.size) (hnew : old.setIfInBounds off v = new)
    (h : ∀ w', w'.heap[b]? = some (.cells new T (0, 0)) → w.grownBy w' (some b) → K (a.put o.dst undef) w') : o.wp P a w K Q := by
  subst hnew
  refine wp_store1 t ad x ho hi hp hx hv (by rw [cells_of hb off]; simp [hoff]) (frozen_of_row _ _ _ _ _ hb) ?_
  exact abs_set (G := fun wr => K (a.put o.dst undef) wr) hb fun w1 h1 h2 _ => h w1 h1 h2
/-- what stands in other blocks stays where one block is written -/
theorem grown_keep {w w' : World} {b k off : Nat} {v : Value} (hg : w.grownBy w' (some b)) (hc : w.cell? ⟨k, off, none⟩ = some v) (hne : k ≠ b) : w'.cell? ⟨k, off, none⟩ = some v :=
  (((Mv.refl w [b]).grown hg (fun j hj => by cases hj; simp)).cell (by simpa using hne) hc).1

end
end Go.Proofs.YtihapgangilncaaGreat
