/- spec.SameValue, laws.sameValues: the plain forms of two values are identical. -/
import Derived.Test.YtamcgcncghabhaaIdent
import Derived.Test.YtamcgcncghabhaaSlice
namespace Go.Proofs.Ytamcgcncghabhaa
open Go.RowKit

theorem clean_5' (n : Int) (f : Nat) (s : ByteArray) (keys : List ByteArray) (l : List V) : V.clean (.mk 5 n f s keys l) = .mk 5 0 0 ⟨#[]⟩ [] (V.cleanL l) := by simp [V.clean]
theorem same_list (a b : List V) : (V.clean (.mk 5 0 0 ⟨#[]⟩ [] a)).same (V.clean (.mk 5 0 0 ⟨#[]⟩ [] b)) = V.sameL (V.cleanL a) (V.cleanL b) := by
  rw [clean_5', clean_5']
  simp [V.same]

set_option maxRecDepth 100000 in
set_option maxHeartbeats 1000000 in
theorem listOf_c {w : World} {o : Option Addr} {n c : Nat} (R : Ending → World → Prop) (hR : ∀ w', Ext w w' → R (.returned (.agg #[.int .i64 5, .int .i64 0, .float .f64 0, .string ⟨#[]⟩, .slice none 0 0, .slice o n c])) w') :
    Calls Try.prog 54 #[.slice o n c] w R := by
  have hR' := Lib.hid hR
  clear hR
  go_enter Try.func54, Try.ntmps54
  go_wp2_with fail
  refine bodyPost_ret (by simp [results, Try.results54, go_sem]; try rfl) rfl ?_
  exact hR'.out _ (.alloc _ _)

end Go.Proofs.Ytamcgcncghabhaa
