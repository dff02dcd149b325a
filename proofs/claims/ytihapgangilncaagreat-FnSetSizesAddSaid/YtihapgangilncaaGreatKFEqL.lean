/- spec.equalPlain and spec.EqualValues. Plain law: two trees made of values are equal just if the plain forms of the values are. -/
import Derived.Test.YtihapgangilncaaGreatKFSame
import Derived.Test.YtihapgangilncaaGreatKFOrder
import Derived.Deep.QuietTactic
import Derived.BigQuiet
import Derived.Test.YtihapgangilncaaGreatKFEqE
import Derived.Test.YtihapgangilncaaGreatKFBack
import Derived.Test.YtihapgangilncaaGreatKFOrderly
namespace Go.Proofs.YtihapgangilncaaGreat
open Go.RowKit

def vnum (k : Int) : Bool := k == 2 || k == 3
def asF (k n : Int) (f : Nat) : Nat := if k = 2 then toF n else f

mutual
def V.eqP : V → V → Bool
  | .mk k n f s ks l, .mk k2 n2 f2 s2 ks2 l2 =>
    if (vnum k && vnum k2) = true then (if k = 2 ∧ k2 = 2 then n == n2 else feq (asF k n f) (asF k2 n2 f2))
    else k == k2 && (n == n2 && (s == s2 && (decide (ks = ks2) && (decide (l.length = l2.length) && V.eqPL l l2))))
def V.eqPL : List V → List V → Bool
  | x :: l, y :: m => V.eqP x y && V.eqPL l m
  | _, _ => true
end

theorem eqP_num {k n k2 n2 : Int} {f f2 : Nat} {s s2 : ByteArray} {ks ks2 : List ByteArray} {l l2 : List V} (h : (vnum k && vnum k2) = true) :
    V.eqP (.mk k n f s ks l) (.mk k2 n2 f2 s2 ks2 l2) = if k = 2 ∧ k2 = 2 then n == n2 else feq (asF k n f) (asF k2 n2 f2) := by simp only [V.eqP]; rw [if_pos h]
theorem eqP_else {k n k2 n2 : Int} {f f2 : Nat} {s s2 : ByteArray} {ks ks2 : List ByteArray} {l l2 : List V} (h : (vnum k && vnum k2) = false) :
    V.eqP (.mk k n f s ks l) (.mk k2 n2 f2 s2 ks2 l2) = (k == k2 && (n == n2 && (s == s2 && (decide (ks = ks2) && (decide (l.length = l2.length) && V.eqPL l l2))))) := by simp only [V.eqP]; rw [if_neg (by rw [h]; simp)]

end Go.Proofs.YtihapgangilncaaGreat
namespace Go.Proofs.YtihapgangilncaaGreat
open Go.RowKit

theorem lookK_at {α : Type} {k : ByteArray} {v : α} : ∀ {es : EntsOfT α}, (es.map (·.1)).Nodup → (k, v) ∈ es → lookK k es = some v
  | e :: es, hn, h => by
    simp only [List.map_cons, List.nodup_cons] at hn
    simp only [lookK]
    rcases List.mem_cons.1 h with rfl | h
    · rw [if_pos rfl]
    · rw [if_neg (fun he : k = e.1 => hn.1 (he ▸ List.mem_map.2 ⟨_, h, rfl⟩))]
      exact lookK_at hn.2 h
theorem sort_keys {α : Type} (P : EntsOfT α) (q : ByteArray) : q ∈ (insAll [] P).map (·.1) ↔ q ∈ (putAll P).map (·.1) := by
  have h := lookK_insAll q P
  constructor
  · intro hm
    refine Classical.byContradiction fun hn => ?_
    rw [lookK_none.2 hn] at h
    exact lookK_none.1 h hm
  · intro hm
    refine Classical.byContradiction fun hn => ?_
    rw [lookK_none.2 hn] at h
    exact lookK_none.1 h.symm hm

inductive T.Wf : T → Prop where
  | null : T.Wf .null
  | bool (b : Bool) : T.Wf (.bool b)
  | int (n : Int) : T.Wf (.int n)
  | float (n : Nat) : T.Wf (.float n)
  | str (n : ByteArray) : T.Wf (.str n)
  | list {l : List T} (h : ∀ i (h : i < l.length), T.Wf l[i]) : T.Wf (.list l)
  | map {keys : List ByteArray} {l : List T} (hn : keys.Nodup) (hl : keys.length = l.length) (h : ∀ i (h : i < l.length), T.Wf l[i]) : T.Wf (.map keys l)

theorem insK_map {α β : Type} (f : α → β) (k : ByteArray) (v : α) : ∀ es : EntsOfT α, (insK k v es).map (fun p => (p.1, f p.2)) = insK k (f v) (es.map fun p => (p.1, f p.2))
  | [] => rfl
  | e :: es => by
    simp only [insK, List.map_cons]
    split
    · rw [List.map_cons, insK_map f k v es]
    · split <;> simp
theorem insAll_map {α β : Type} (f : α → β) (ps : EntsOfT α) : (insAll [] ps).map (fun p => (p.1, f p.2)) = insAll [] (ps.map fun p => (p.1, f p.2)) := by
  induction ps using snoc_ind with
  | h0 => rfl
  | h1 ps p ih => rw [insAll_snoc, insK_map, ih, List.map_append, List.map_cons, List.map_nil, insAll_snoc]

theorem eqP_map (ks ks2 : List ByteArray) (l l2 : List V) : V.eqP (.mk 6 0 0 ⟨#[]⟩ ks l) (.mk 6 0 0 ⟨#[]⟩ ks2 l2) = (decide (ks = ks2) && (decide (l.length = l2.length) && V.eqPL l l2)) := by
  rw [eqP_else (by decide)]; simp
theorem eqP_list (l l2 : List V) : V.eqP (.mk 5 0 0 ⟨#[]⟩ [] l) (.mk 5 0 0 ⟨#[]⟩ [] l2) = (decide (l.length = l2.length) && V.eqPL l l2) := by
  rw [eqP_else (by decide)]; simp

theorem insAll_sub {α : Type} {ps : EntsOfT α} {p : ByteArray × α} (h : p ∈ insAll [] ps) : p ∈ ps := by
  induction ps using snoc_ind with
  | h0 => simp [insAll] at h
  | h1 ps q ih =>
    rw [insAll_snoc] at h
    rcases insK_mem h with rfl | h
    · simp
    · exact List.mem_append_left _ (ih h)

end Go.Proofs.YtihapgangilncaaGreat
