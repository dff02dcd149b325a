/-
  NARROWER THAN 'FOR EVERY INPUT', by the rows' own cells (each row's printed sentence says how): FnScalarFits: loops · FnListItems: loops · FnCopyMap: loops · FnResolveNamed: loops · FnDeduceAtom: loops · FnAtomsEqual: loops · FnEqualPaths: loops.
  DERIVED. THE GIVEN ROWS OF THIS SEAT. 8 by the template 'for every input the law returns true; each argument reads behind the call as it read before'; 0 by the template 'total and deterministic' (their statements: YtmihdlbcjiaibaaTotals.lean).
  GIVEN WITH THE SEED: the statements are not yours to turn. If you find one false, say at which input.
  Laid BY PROGRAM, IN A SANDBOX (cutbox-rows.mjs): the forced cells as the released guide's own fill.sh prints them over the translation f23a3102e025fb35… (all of the seat's roots in one cut). By AI agents, Wed Nov 11 2026. No macro, syntax, notation, axiom, sorry.
-/
import Derived.Test.YtmihdlbcjiaibaaChecked
import GoSem.Claim
import GoSem.ClaimJoined
import GoSem.ClaimMapViews
import Derived.JoinedTies
import Derived.KernelRfl
namespace Go.Proofs.Ytmihdlbcjiaibaa
/- THE CELL 'sum', in the pinned program and in every row, IS THE sha256 OF THE DUMP (.gsa) THAT YtmihdlbcjiaibaaProg.lean LOADS. Nothing in Lean hashes anything: it is a label: what it is worth is what the hold of that sum in a sandbox is worth. -/
noncomputable def Try.pinned : Pinned := { name := "ytmihdlbcjiaibaa", sum := "f23a3102e025fb3540add0443e9c357fe3db119f268d89062da51bb52083a171", checked := Try.checked }
namespace Rows
def none {H : Type} : Left H := { results := [], args := [] }

/-- 'laws.FnCompareInts': WHATEVER THE INPUT: true; the input reads as it did. -/
def fnCompareIntsSpec : ChangeSpec := { name := "fnCompareInts", fn := fun _ => fun
  | [d1, d2] => { results := [.lit (.bool true)], args := [d1, d2] }
  | _ => none }
def fnCompareIntsRow : OpenClaim := { program := "ytmihdlbcjiaibaa", sum := "f23a3102e025fb3540add0443e9c357fe3db119f268d89062da51bb52083a171", func := "pub-coparcener/laws.FnCompareInts", spec := "fnCompareInts", apart := false }
def FnCompareIntsSaid : Prop := fnCompareIntsRow.holds Try.pinned (OpenSpec.ofChange fnCompareIntsSpec)

/-- ITS FALSE NEIGHBOUR: 'it returns false'. Refute it at one input. -/
def fnCompareIntsWrong : ChangeSpec := { name := "fnCompareInts", fn := fun _ => fun
  | [d1, d2] => { results := [.lit (.bool false)], args := [d1, d2] }
  | _ => none }
def FnCompareIntsWrongFalsely : Prop := fnCompareIntsRow.holds Try.pinned (OpenSpec.ofChange fnCompareIntsWrong)

/-- 'laws.FnScalarFits': WHATEVER THE INPUT: true; the input reads as it did. -/
def fnScalarFitsSpec : ChangeSpec := { name := "fnScalarFits", fn := fun _ => fun
  | [d1, d2] => { results := [.lit (.bool true)], args := [d1, d2] }
  | _ => none }
def fnScalarFitsRow : OpenClaim := { program := "ytmihdlbcjiaibaa", sum := "f23a3102e025fb3540add0443e9c357fe3db119f268d89062da51bb52083a171", func := "pub-coparcener/laws.FnScalarFits", spec := "fnScalarFits", unfollowed := true, recurses := true, loops := true, apart := false }
def FnScalarFitsSaid : Prop := fnScalarFitsRow.holds Try.pinned (OpenSpec.ofChange fnScalarFitsSpec)

/-- ITS FALSE NEIGHBOUR: 'it returns false'. Refute it at one input. -/
def fnScalarFitsWrong : ChangeSpec := { name := "fnScalarFits", fn := fun _ => fun
  | [d1, d2] => { results := [.lit (.bool false)], args := [d1, d2] }
  | _ => none }
def FnScalarFitsWrongFalsely : Prop := fnScalarFitsRow.holds Try.pinned (OpenSpec.ofChange fnScalarFitsWrong)

/-- 'laws.FnListItems': WHATEVER THE INPUT: true; the input reads as it did. -/
def fnListItemsSpec : ChangeSpec := { name := "fnListItems", fn := fun _ => fun
  | [d1, d2] => { results := [.lit (.bool true)], args := [d1, d2] }
  | _ => none }
def fnListItemsRow : OpenClaim := { program := "ytmihdlbcjiaibaa", sum := "f23a3102e025fb3540add0443e9c357fe3db119f268d89062da51bb52083a171", func := "pub-coparcener/laws.FnListItems", spec := "fnListItems", inPlace := ["math.Float64bits"], unfollowed := true, recurses := true, loops := true, apart := false }
def FnListItemsSaid : Prop := fnListItemsRow.holds Try.pinned (OpenSpec.ofChange fnListItemsSpec)

/-- ITS FALSE NEIGHBOUR: 'it returns false'. Refute it at one input. -/
def fnListItemsWrong : ChangeSpec := { name := "fnListItems", fn := fun _ => fun
  | [d1, d2] => { results := [.lit (.bool false)], args := [d1, d2] }
  | _ => none }
def FnListItemsWrongFalsely : Prop := fnListItemsRow.holds Try.pinned (OpenSpec.ofChange fnListItemsWrong)

/-- 'laws.FnCopyMap': WHATEVER THE INPUT: true; the input reads as it did. -/
def fnCopyMapSpec : ChangeSpec := { name := "fnCopyMap", fn := fun _ => fun
  | [d1, d2] => { results := [.lit (.bool true)], args := [d1, d2] }
  | _ => none }
def fnCopyMapRow : OpenClaim := { program := "ytmihdlbcjiaibaa", sum := "f23a3102e025fb3540add0443e9c357fe3db119f268d89062da51bb52083a171", func := "pub-coparcener/laws.FnCopyMap", spec := "fnCopyMap", inPlace := ["math.Float64bits"], unfollowed := true, recurses := true, loops := true, apart := false }
def FnCopyMapSaid : Prop := fnCopyMapRow.holds Try.pinned (OpenSpec.ofChange fnCopyMapSpec)

/-- ITS FALSE NEIGHBOUR: 'it returns false'. Refute it at one input. -/
def fnCopyMapWrong : ChangeSpec := { name := "fnCopyMap", fn := fun _ => fun
  | [d1, d2] => { results := [.lit (.bool false)], args := [d1, d2] }
  | _ => none }
def FnCopyMapWrongFalsely : Prop := fnCopyMapRow.holds Try.pinned (OpenSpec.ofChange fnCopyMapWrong)

/-- 'laws.FnResolveNamed': WHATEVER THE INPUT: true; the input reads as it did. -/
def fnResolveNamedSpec : ChangeSpec := { name := "fnResolveNamed", fn := fun _ => fun
  | [d1, d2] => { results := [.lit (.bool true)], args := [d1, d2] }
  | _ => none }
def fnResolveNamedRow : OpenClaim := { program := "ytmihdlbcjiaibaa", sum := "f23a3102e025fb3540add0443e9c357fe3db119f268d89062da51bb52083a171", func := "pub-coparcener/laws.FnResolveNamed", spec := "fnResolveNamed", inPlace := ["math.Float64bits"], unfollowed := true, recurses := true, loops := true, apart := false }
def FnResolveNamedSaid : Prop := fnResolveNamedRow.holds Try.pinned (OpenSpec.ofChange fnResolveNamedSpec)

/-- ITS FALSE NEIGHBOUR: 'it returns false'. Refute it at one input. -/
def fnResolveNamedWrong : ChangeSpec := { name := "fnResolveNamed", fn := fun _ => fun
  | [d1, d2] => { results := [.lit (.bool false)], args := [d1, d2] }
  | _ => none }
def FnResolveNamedWrongFalsely : Prop := fnResolveNamedRow.holds Try.pinned (OpenSpec.ofChange fnResolveNamedWrong)

/-- 'laws.FnDeduceAtom': WHATEVER THE INPUT: true; the input reads as it did. -/
def fnDeduceAtomSpec : ChangeSpec := { name := "fnDeduceAtom", fn := fun _ => fun
  | [d1, d2] => { results := [.lit (.bool true)], args := [d1, d2] }
  | _ => none }
def fnDeduceAtomRow : OpenClaim := { program := "ytmihdlbcjiaibaa", sum := "f23a3102e025fb3540add0443e9c357fe3db119f268d89062da51bb52083a171", func := "pub-coparcener/laws.FnDeduceAtom", spec := "fnDeduceAtom", inPlace := ["math.Float64bits"], unfollowed := true, recurses := true, loops := true, apart := false }
def FnDeduceAtomSaid : Prop := fnDeduceAtomRow.holds Try.pinned (OpenSpec.ofChange fnDeduceAtomSpec)

/-- ITS FALSE NEIGHBOUR: 'it returns false'. Refute it at one input. -/
def fnDeduceAtomWrong : ChangeSpec := { name := "fnDeduceAtom", fn := fun _ => fun
  | [d1, d2] => { results := [.lit (.bool false)], args := [d1, d2] }
  | _ => none }
def FnDeduceAtomWrongFalsely : Prop := fnDeduceAtomRow.holds Try.pinned (OpenSpec.ofChange fnDeduceAtomWrong)

/-- 'laws.FnAtomsEqual': WHATEVER THE INPUT: true; the input reads as it did. -/
def fnAtomsEqualSpec : ChangeSpec := { name := "fnAtomsEqual", fn := fun _ => fun
  | [d1, d2] => { results := [.lit (.bool true)], args := [d1, d2] }
  | _ => none }
def fnAtomsEqualRow : OpenClaim := { program := "ytmihdlbcjiaibaa", sum := "f23a3102e025fb3540add0443e9c357fe3db119f268d89062da51bb52083a171", func := "pub-coparcener/laws.FnAtomsEqual", spec := "fnAtomsEqual", unfollowed := true, recurses := true, loops := true, apart := false }
def FnAtomsEqualSaid : Prop := fnAtomsEqualRow.holds Try.pinned (OpenSpec.ofChange fnAtomsEqualSpec)

/-- ITS FALSE NEIGHBOUR: 'it returns false'. Refute it at one input. -/
def fnAtomsEqualWrong : ChangeSpec := { name := "fnAtomsEqual", fn := fun _ => fun
  | [d1, d2] => { results := [.lit (.bool false)], args := [d1, d2] }
  | _ => none }
def FnAtomsEqualWrongFalsely : Prop := fnAtomsEqualRow.holds Try.pinned (OpenSpec.ofChange fnAtomsEqualWrong)

/-- 'laws.FnEqualPaths': WHATEVER THE INPUT: true; the input reads as it did. -/
def fnEqualPathsSpec : ChangeSpec := { name := "fnEqualPaths", fn := fun _ => fun
  | [d1, d2] => { results := [.lit (.bool true)], args := [d1, d2] }
  | _ => none }
def fnEqualPathsRow : OpenClaim := { program := "ytmihdlbcjiaibaa", sum := "f23a3102e025fb3540add0443e9c357fe3db119f268d89062da51bb52083a171", func := "pub-coparcener/laws.FnEqualPaths", spec := "fnEqualPaths", unfollowed := true, recurses := true, loops := true, apart := false }
def FnEqualPathsSaid : Prop := fnEqualPathsRow.holds Try.pinned (OpenSpec.ofChange fnEqualPathsSpec)

/-- ITS FALSE NEIGHBOUR: 'it returns false'. Refute it at one input. -/
def fnEqualPathsWrong : ChangeSpec := { name := "fnEqualPaths", fn := fun _ => fun
  | [d1, d2] => { results := [.lit (.bool false)], args := [d1, d2] }
  | _ => none }
def FnEqualPathsWrongFalsely : Prop := fnEqualPathsRow.holds Try.pinned (OpenSpec.ofChange fnEqualPathsWrong)

/- THE SECOND FORM. 'bulk': how many values and letters a reading holds, each counted each time it is reached (what is shared counts as often as it is met; a slice's spare places count too). A statement '..UptoSaid' is the law's where the arguments, and the package variables that the reading takes, are together of bulk at most 1048576: NARROWER than '..Said'. Prove '..Said' where nothing that the law and all that it calls make is longer than what came in: it says more and counts as full. Else prove '..UptoSaid'. A law counts once. -/
mutual
def uptoBulk {H : Type} : DataW H → Nat
  | .lit (.string bytes) => bytes.length + 1
  | .lit _ => 1
  | .nil => 1
  | .ptr d => uptoBulk d + 1
  | .slice elems spare => uptoBulkAll elems + uptoBulkAll spare + 1
  | .agg parts => uptoBulkAll parts + 1
  | .iface _ d => uptoBulk d + 1
  | .map entries => uptoBulkEntries entries + 1
  | .held _ => 1
def uptoBulkAll {H : Type} : List (DataW H) → Nat
  | [] => 0
  | d :: r => uptoBulk d + uptoBulkAll r
def uptoBulkEntries {H : Type} : List (Lit × DataW H) → Nat
  | [] => 0
  | x :: r => uptoBulkEntry x + uptoBulkEntries r
def uptoBulkEntry {H : Type} : Lit × DataW H → Nat
  | (.string bytes, d) => bytes.length + uptoBulk d + 1
  | (_, d) => uptoBulk d + 1
 end
def uptoSmall : (H : Type) → List (DataW H) → Bool := fun _ ds => decide (uptoBulkAll ds ≤ 1048576)
def OpenSpec.upto (s : _root_.Go.ChangeSpec) : _root_.Go.OpenSpec := { _root_.Go.OpenSpec.ofChange s with cond := some uptoSmall }

/-- 'laws.FnCompareInts', WHERE WHAT IT READS IS OF BULK AT MOST 1048576: true; the input reads as it did. -/
def fnCompareIntsUptoRow : OpenClaim := { program := "ytmihdlbcjiaibaa", sum := "f23a3102e025fb3540add0443e9c357fe3db119f268d89062da51bb52083a171", func := "pub-coparcener/laws.FnCompareInts", spec := "fnCompareInts", apart := false, narrowed := true }
def FnCompareIntsUptoSaid : Prop := fnCompareIntsUptoRow.holds Try.pinned (OpenSpec.upto fnCompareIntsSpec)

/-- 'laws.FnScalarFits', WHERE WHAT IT READS IS OF BULK AT MOST 1048576: true; the input reads as it did. -/
def fnScalarFitsUptoRow : OpenClaim := { program := "ytmihdlbcjiaibaa", sum := "f23a3102e025fb3540add0443e9c357fe3db119f268d89062da51bb52083a171", func := "pub-coparcener/laws.FnScalarFits", spec := "fnScalarFits", unfollowed := true, recurses := true, loops := true, apart := false, narrowed := true }
def FnScalarFitsUptoSaid : Prop := fnScalarFitsUptoRow.holds Try.pinned (OpenSpec.upto fnScalarFitsSpec)

/-- 'laws.FnListItems', WHERE WHAT IT READS IS OF BULK AT MOST 1048576: true; the input reads as it did. -/
def fnListItemsUptoRow : OpenClaim := { program := "ytmihdlbcjiaibaa", sum := "f23a3102e025fb3540add0443e9c357fe3db119f268d89062da51bb52083a171", func := "pub-coparcener/laws.FnListItems", spec := "fnListItems", inPlace := ["math.Float64bits"], unfollowed := true, recurses := true, loops := true, apart := false, narrowed := true }
def FnListItemsUptoSaid : Prop := fnListItemsUptoRow.holds Try.pinned (OpenSpec.upto fnListItemsSpec)

/-- 'laws.FnCopyMap', WHERE WHAT IT READS IS OF BULK AT MOST 1048576: true; the input reads as it did. -/
def fnCopyMapUptoRow : OpenClaim := { program := "ytmihdlbcjiaibaa", sum := "f23a3102e025fb3540add0443e9c357fe3db119f268d89062da51bb52083a171", func := "pub-coparcener/laws.FnCopyMap", spec := "fnCopyMap", inPlace := ["math.Float64bits"], unfollowed := true, recurses := true, loops := true, apart := false, narrowed := true }
def FnCopyMapUptoSaid : Prop := fnCopyMapUptoRow.holds Try.pinned (OpenSpec.upto fnCopyMapSpec)

/-- 'laws.FnResolveNamed', WHERE WHAT IT READS IS OF BULK AT MOST 1048576: true; the input reads as it did. -/
def fnResolveNamedUptoRow : OpenClaim := { program := "ytmihdlbcjiaibaa", sum := "f23a3102e025fb3540add0443e9c357fe3db119f268d89062da51bb52083a171", func := "pub-coparcener/laws.FnResolveNamed", spec := "fnResolveNamed", inPlace := ["math.Float64bits"], unfollowed := true, recurses := true, loops := true, apart := false, narrowed := true }
def FnResolveNamedUptoSaid : Prop := fnResolveNamedUptoRow.holds Try.pinned (OpenSpec.upto fnResolveNamedSpec)

/-- 'laws.FnDeduceAtom', WHERE WHAT IT READS IS OF BULK AT MOST 1048576: true; the input reads as it did. -/
def fnDeduceAtomUptoRow : OpenClaim := { program := "ytmihdlbcjiaibaa", sum := "f23a3102e025fb3540add0443e9c357fe3db119f268d89062da51bb52083a171", func := "pub-coparcener/laws.FnDeduceAtom", spec := "fnDeduceAtom", inPlace := ["math.Float64bits"], unfollowed := true, recurses := true, loops := true, apart := false, narrowed := true }
def FnDeduceAtomUptoSaid : Prop := fnDeduceAtomUptoRow.holds Try.pinned (OpenSpec.upto fnDeduceAtomSpec)

/-- 'laws.FnAtomsEqual', WHERE WHAT IT READS IS OF BULK AT MOST 1048576: true; the input reads as it did. -/
def fnAtomsEqualUptoRow : OpenClaim := { program := "ytmihdlbcjiaibaa", sum := "f23a3102e025fb3540add0443e9c357fe3db119f268d89062da51bb52083a171", func := "pub-coparcener/laws.FnAtomsEqual", spec := "fnAtomsEqual", unfollowed := true, recurses := true, loops := true, apart := false, narrowed := true }
def FnAtomsEqualUptoSaid : Prop := fnAtomsEqualUptoRow.holds Try.pinned (OpenSpec.upto fnAtomsEqualSpec)

/-- 'laws.FnEqualPaths', WHERE WHAT IT READS IS OF BULK AT MOST 1048576: true; the input reads as it did. -/
def fnEqualPathsUptoRow : OpenClaim := { program := "ytmihdlbcjiaibaa", sum := "f23a3102e025fb3540add0443e9c357fe3db119f268d89062da51bb52083a171", func := "pub-coparcener/laws.FnEqualPaths", spec := "fnEqualPaths", unfollowed := true, recurses := true, loops := true, apart := false, narrowed := true }
def FnEqualPathsUptoSaid : Prop := fnEqualPathsUptoRow.holds Try.pinned (OpenSpec.upto fnEqualPathsSpec)

end Rows
end Go.Proofs.Ytmihdlbcjiaibaa
