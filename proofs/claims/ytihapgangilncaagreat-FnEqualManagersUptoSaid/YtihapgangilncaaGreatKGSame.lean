/- spec.identical and spec.SameValue. -/
import Derived.Test.YtihapgangilncaaGreatKGBack
import Derived.Laws.Externs
namespace Go.Proofs.YtihapgangilncaaGreat
open Go.RowKit

mutual
/-- are two values identical -/
def V.same : V → V → Bool
  | .mk k1 n1 f1 s1 ks1 l1, .mk k2 n2 f2 s2 ks2 l2 => decide (k1 = k2) && decide (n1 = n2) && decide (s1 = s2) && decide (f1 = f2) && decide (ks1 = ks2) && V.sameL l1 l2
def V.sameL : List V → List V → Bool
  | [], [] => true
  | v :: l, u :: m => v.same u && V.sameL l m
  | _, _ => false
end
end Go.Proofs.YtihapgangilncaaGreat
