/-
  NARROWER THAN 'FOR EVERY INPUT', by the rows' own cells (each row's printed sentence says how): FnCompareValues: loops · FnLessKeys: loops · FnZipSwapped: loops · FnMapSet: loops · FnValuesTurned: loops · FnOneFieldDecides: loops · FnCompareMaps: loops · FnLessElems: loops.
  DERIVED. THE GIVEN ROWS OF THIS SEAT. 8 by the template 'for every input the law returns true; each argument reads behind the call as it read before'; 0 by the template 'total and deterministic' (their statements: YtamcgcncghabhaaTotals.lean).
  GIVEN WITH THE SEED: the statements are not yours to turn. If you find one false, say at which input.
  Laid BY PROGRAM, IN A SANDBOX (cutbox-rows.mjs): the forced cells as the released guide's own fill.sh prints them over the translation a45cf1f83019b6a0… (all of the seat's roots in one cut). By AI agents, Wed Nov 11 2026. No macro, syntax, notation, axiom, sorry.
-/
import Derived.Test.YtamcgcncghabhaaChecked
import GoSem.Claim
import GoSem.ClaimJoined
import GoSem.ClaimMapViews
import Derived.JoinedTies
import Derived.KernelRfl
namespace Go.Proofs.Ytamcgcncghabhaa
/- THE CELL 'sum', in the pinned program and in every row, IS THE sha256 OF THE DUMP (.gsa) THAT YtamcgcncghabhaaProg.lean LOADS. Nothing in Lean hashes anything: it is a label: what it is worth is what the hold of that sum in a sandbox is worth. -/
noncomputable def Try.pinned : Pinned := { name := "ytamcgcncghabhaa", sum := "a45cf1f83019b6a064bc8d287605a56682c56616d62048c4e38792eba50e9246", checked := Try.checked }
namespace Rows
def none {H : Type} : Left H := { results := [], args := [] }

/-- 'laws.FnCompareValues': WHATEVER THE INPUT: true; the input reads as it did. -/
def fnCompareValuesSpec : ChangeSpec := { name := "fnCompareValues", fn := fun _ => fun
  | [d1, d2] => { results := [.lit (.bool true)], args := [d1, d2] }
  | _ => none }
def fnCompareValuesRow : OpenClaim := { program := "ytamcgcncghabhaa", sum := "a45cf1f83019b6a064bc8d287605a56682c56616d62048c4e38792eba50e9246", func := "pub-coparcener/laws.FnCompareValues", spec := "fnCompareValues", inPlace := ["internal/bytealg.abigen_runtime_cmpstring"], unfollowed := true, recurses := true, loops := true, apart := false }
def FnCompareValuesSaid : Prop := fnCompareValuesRow.holds Try.pinned (OpenSpec.ofChange fnCompareValuesSpec)

/-- ITS FALSE NEIGHBOUR: 'it returns false'. Refute it at one input. -/
def fnCompareValuesWrong : ChangeSpec := { name := "fnCompareValues", fn := fun _ => fun
  | [d1, d2] => { results := [.lit (.bool false)], args := [d1, d2] }
  | _ => none }
def FnCompareValuesWrongFalsely : Prop := fnCompareValuesRow.holds Try.pinned (OpenSpec.ofChange fnCompareValuesWrong)

/-- 'laws.FnLessKeys': WHATEVER THE INPUT: true; the input reads as it did. -/
def fnLessKeysSpec : ChangeSpec := { name := "fnLessKeys", fn := fun _ => fun
  | [d1, d2] => { results := [.lit (.bool true)], args := [d1, d2] }
  | _ => none }
def fnLessKeysRow : OpenClaim := { program := "ytamcgcncghabhaa", sum := "a45cf1f83019b6a064bc8d287605a56682c56616d62048c4e38792eba50e9246", func := "pub-coparcener/laws.FnLessKeys", spec := "fnLessKeys", inPlace := ["internal/bytealg.abigen_runtime_cmpstring"], unfollowed := true, recurses := true, loops := true, apart := false }
def FnLessKeysSaid : Prop := fnLessKeysRow.holds Try.pinned (OpenSpec.ofChange fnLessKeysSpec)

/-- ITS FALSE NEIGHBOUR: 'it returns false'. Refute it at one input. -/
def fnLessKeysWrong : ChangeSpec := { name := "fnLessKeys", fn := fun _ => fun
  | [d1, d2] => { results := [.lit (.bool false)], args := [d1, d2] }
  | _ => none }
def FnLessKeysWrongFalsely : Prop := fnLessKeysRow.holds Try.pinned (OpenSpec.ofChange fnLessKeysWrong)

/-- 'laws.FnZipSwapped': WHATEVER THE INPUT: true; the input reads as it did. -/
def fnZipSwappedSpec : ChangeSpec := { name := "fnZipSwapped", fn := fun _ => fun
  | [d1, d2] => { results := [.lit (.bool true)], args := [d1, d2] }
  | _ => none }
def fnZipSwappedRow : OpenClaim := { program := "ytamcgcncghabhaa", sum := "a45cf1f83019b6a064bc8d287605a56682c56616d62048c4e38792eba50e9246", func := "pub-coparcener/laws.FnZipSwapped", spec := "fnZipSwapped", inPlace := ["math.Float64bits"], unfollowed := true, recurses := true, loops := true, apart := false }
def FnZipSwappedSaid : Prop := fnZipSwappedRow.holds Try.pinned (OpenSpec.ofChange fnZipSwappedSpec)

/-- ITS FALSE NEIGHBOUR: 'it returns false'. Refute it at one input. -/
def fnZipSwappedWrong : ChangeSpec := { name := "fnZipSwapped", fn := fun _ => fun
  | [d1, d2] => { results := [.lit (.bool false)], args := [d1, d2] }
  | _ => none }
def FnZipSwappedWrongFalsely : Prop := fnZipSwappedRow.holds Try.pinned (OpenSpec.ofChange fnZipSwappedWrong)

/-- 'laws.FnMapSet': WHATEVER THE INPUT: true; the input reads as it did. -/
def fnMapSetSpec : ChangeSpec := { name := "fnMapSet", fn := fun _ => fun
  | [d1, d2, d3, d4] => { results := [.lit (.bool true)], args := [d1, d2, d3, d4] }
  | _ => none }
def fnMapSetRow : OpenClaim := { program := "ytamcgcncghabhaa", sum := "a45cf1f83019b6a064bc8d287605a56682c56616d62048c4e38792eba50e9246", func := "pub-coparcener/laws.FnMapSet", spec := "fnMapSet", inPlace := ["math.Float64bits"], unfollowed := true, recurses := true, loops := true, apart := false }
def FnMapSetSaid : Prop := fnMapSetRow.holds Try.pinned (OpenSpec.ofChange fnMapSetSpec)

/-- ITS FALSE NEIGHBOUR: 'it returns false'. Refute it at one input. -/
def fnMapSetWrong : ChangeSpec := { name := "fnMapSet", fn := fun _ => fun
  | [d1, d2, d3, d4] => { results := [.lit (.bool false)], args := [d1, d2, d3, d4] }
  | _ => none }
def FnMapSetWrongFalsely : Prop := fnMapSetRow.holds Try.pinned (OpenSpec.ofChange fnMapSetWrong)

/-- 'laws.FnValuesTurned': WHATEVER THE INPUT: true; the input reads as it did. -/
def fnValuesTurnedSpec : ChangeSpec := { name := "fnValuesTurned", fn := fun _ => fun
  | [d1, d2] => { results := [.lit (.bool true)], args := [d1, d2] }
  | _ => none }
def fnValuesTurnedRow : OpenClaim := { program := "ytamcgcncghabhaa", sum := "a45cf1f83019b6a064bc8d287605a56682c56616d62048c4e38792eba50e9246", func := "pub-coparcener/laws.FnValuesTurned", spec := "fnValuesTurned", inPlace := ["internal/bytealg.abigen_runtime_cmpstring"], unfollowed := true, recurses := true, loops := true, apart := false }
def FnValuesTurnedSaid : Prop := fnValuesTurnedRow.holds Try.pinned (OpenSpec.ofChange fnValuesTurnedSpec)

/-- ITS FALSE NEIGHBOUR: 'it returns false'. Refute it at one input. -/
def fnValuesTurnedWrong : ChangeSpec := { name := "fnValuesTurned", fn := fun _ => fun
  | [d1, d2] => { results := [.lit (.bool false)], args := [d1, d2] }
  | _ => none }
def FnValuesTurnedWrongFalsely : Prop := fnValuesTurnedRow.holds Try.pinned (OpenSpec.ofChange fnValuesTurnedWrong)

/-- 'laws.FnOneFieldDecides': WHATEVER THE INPUT: true; the input reads as it did. -/
def fnOneFieldDecidesSpec : ChangeSpec := { name := "fnOneFieldDecides", fn := fun _ => fun
  | [d1, d2, d3, d4] => { results := [.lit (.bool true)], args := [d1, d2, d3, d4] }
  | _ => none }
def fnOneFieldDecidesRow : OpenClaim := { program := "ytamcgcncghabhaa", sum := "a45cf1f83019b6a064bc8d287605a56682c56616d62048c4e38792eba50e9246", func := "pub-coparcener/laws.FnOneFieldDecides", spec := "fnOneFieldDecides", inPlace := ["internal/bytealg.abigen_runtime_cmpstring"], unfollowed := true, recurses := true, loops := true, apart := false }
def FnOneFieldDecidesSaid : Prop := fnOneFieldDecidesRow.holds Try.pinned (OpenSpec.ofChange fnOneFieldDecidesSpec)

/-- ITS FALSE NEIGHBOUR: 'it returns false'. Refute it at one input. -/
def fnOneFieldDecidesWrong : ChangeSpec := { name := "fnOneFieldDecides", fn := fun _ => fun
  | [d1, d2, d3, d4] => { results := [.lit (.bool false)], args := [d1, d2, d3, d4] }
  | _ => none }
def FnOneFieldDecidesWrongFalsely : Prop := fnOneFieldDecidesRow.holds Try.pinned (OpenSpec.ofChange fnOneFieldDecidesWrong)

/-- 'laws.FnCompareMaps': WHATEVER THE INPUT: true; the input reads as it did. -/
def fnCompareMapsSpec : ChangeSpec := { name := "fnCompareMaps", fn := fun _ => fun
  | [d1, d2] => { results := [.lit (.bool true)], args := [d1, d2] }
  | _ => none }
def fnCompareMapsRow : OpenClaim := { program := "ytamcgcncghabhaa", sum := "a45cf1f83019b6a064bc8d287605a56682c56616d62048c4e38792eba50e9246", func := "pub-coparcener/laws.FnCompareMaps", spec := "fnCompareMaps", inPlace := ["internal/bytealg.abigen_runtime_cmpstring"], unfollowed := true, recurses := true, loops := true, apart := false }
def FnCompareMapsSaid : Prop := fnCompareMapsRow.holds Try.pinned (OpenSpec.ofChange fnCompareMapsSpec)

/-- ITS FALSE NEIGHBOUR: 'it returns false'. Refute it at one input. -/
def fnCompareMapsWrong : ChangeSpec := { name := "fnCompareMaps", fn := fun _ => fun
  | [d1, d2] => { results := [.lit (.bool false)], args := [d1, d2] }
  | _ => none }
def FnCompareMapsWrongFalsely : Prop := fnCompareMapsRow.holds Try.pinned (OpenSpec.ofChange fnCompareMapsWrong)

/-- 'laws.FnLessElems': WHATEVER THE INPUT: true; the input reads as it did. -/
def fnLessElemsSpec : ChangeSpec := { name := "fnLessElems", fn := fun _ => fun
  | [d1, d2] => { results := [.lit (.bool true)], args := [d1, d2] }
  | _ => none }
def fnLessElemsRow : OpenClaim := { program := "ytamcgcncghabhaa", sum := "a45cf1f83019b6a064bc8d287605a56682c56616d62048c4e38792eba50e9246", func := "pub-coparcener/laws.FnLessElems", spec := "fnLessElems", inPlace := ["internal/bytealg.abigen_runtime_cmpstring"], unfollowed := true, recurses := true, loops := true, apart := false }
def FnLessElemsSaid : Prop := fnLessElemsRow.holds Try.pinned (OpenSpec.ofChange fnLessElemsSpec)

/-- ITS FALSE NEIGHBOUR: 'it returns false'. Refute it at one input. -/
def fnLessElemsWrong : ChangeSpec := { name := "fnLessElems", fn := fun _ => fun
  | [d1, d2] => { results := [.lit (.bool false)], args := [d1, d2] }
  | _ => none }
def FnLessElemsWrongFalsely : Prop := fnLessElemsRow.holds Try.pinned (OpenSpec.ofChange fnLessElemsWrong)

/- THE SECOND FORM. 'bulk': how many values and letters a reading holds, each counted each time it is reached (what is shared counts as often as it is met; a slice's spare places count too). A statement '..UptoSaid' is the law's where the arguments, and the package variables that the reading takes, are together of bulk at most 1048576: NARROWER than '..Said'. Prove '..Said' where nothing that the law and all that it calls make is longer than what came in: it says more and counts as full. Else prove '..UptoSaid'. A law counts once. -/
mutual
def uptoBulk {H : Type} : DataW H → Nat
  | .lit (.string bytes) => bytes.length + 1
  | .lit _ => 1
  | .nil => 1
  | .ptr d => uptoBulk d + 1
  | .slice elems spare => uptoBulkAll elems + uptoBulkAll spare + 1
  | .agg parts => uptoBulkAll parts + 1
  | .iface _ d => uptoBulk d + 1
  | .map entries => uptoBulkEntries entries + 1
  | .held _ => 1
def uptoBulkAll {H : Type} : List (DataW H) → Nat
  | [] => 0
  | d :: r => uptoBulk d + uptoBulkAll r
def uptoBulkEntries {H : Type} : List (Lit × DataW H) → Nat
  | [] => 0
  | x :: r => uptoBulkEntry x + uptoBulkEntries r
def uptoBulkEntry {H : Type} : Lit × DataW H → Nat
  | (.string bytes, d) => bytes.length + uptoBulk d + 1
  | (_, d) => uptoBulk d + 1
 end
def uptoSmall : (H : Type) → List (DataW H) → Bool := fun _ ds => decide (uptoBulkAll ds ≤ 1048576)
def OpenSpec.upto (s : _root_.Go.ChangeSpec) : _root_.Go.OpenSpec := { _root_.Go.OpenSpec.ofChange s with cond := some uptoSmall }

/-- 'laws.FnCompareValues', WHERE WHAT IT READS IS OF BULK AT MOST 1048576: true; the input reads as it did. -/
def fnCompareValuesUptoRow : OpenClaim := { program := "ytamcgcncghabhaa", sum := "a45cf1f83019b6a064bc8d287605a56682c56616d62048c4e38792eba50e9246", func := "pub-coparcener/laws.FnCompareValues", spec := "fnCompareValues", inPlace := ["internal/bytealg.abigen_runtime_cmpstring"], unfollowed := true, recurses := true, loops := true, apart := false, narrowed := true }
def FnCompareValuesUptoSaid : Prop := fnCompareValuesUptoRow.holds Try.pinned (OpenSpec.upto fnCompareValuesSpec)

/-- 'laws.FnLessKeys', WHERE WHAT IT READS IS OF BULK AT MOST 1048576: true; the input reads as it did. -/
def fnLessKeysUptoRow : OpenClaim := { program := "ytamcgcncghabhaa", sum := "a45cf1f83019b6a064bc8d287605a56682c56616d62048c4e38792eba50e9246", func := "pub-coparcener/laws.FnLessKeys", spec := "fnLessKeys", inPlace := ["internal/bytealg.abigen_runtime_cmpstring"], unfollowed := true, recurses := true, loops := true, apart := false, narrowed := true }
def FnLessKeysUptoSaid : Prop := fnLessKeysUptoRow.holds Try.pinned (OpenSpec.upto fnLessKeysSpec)

/-- 'laws.FnZipSwapped', WHERE WHAT IT READS IS OF BULK AT MOST 1048576: true; the input reads as it did. -/
def fnZipSwappedUptoRow : OpenClaim := { program := "ytamcgcncghabhaa", sum := "a45cf1f83019b6a064bc8d287605a56682c56616d62048c4e38792eba50e9246", func := "pub-coparcener/laws.FnZipSwapped", spec := "fnZipSwapped", inPlace := ["math.Float64bits"], unfollowed := true, recurses := true, loops := true, apart := false, narrowed := true }
def FnZipSwappedUptoSaid : Prop := fnZipSwappedUptoRow.holds Try.pinned (OpenSpec.upto fnZipSwappedSpec)

/-- 'laws.FnMapSet', WHERE WHAT IT READS IS OF BULK AT MOST 1048576: true; the input reads as it did. -/
def fnMapSetUptoRow : OpenClaim := { program := "ytamcgcncghabhaa", sum := "a45cf1f83019b6a064bc8d287605a56682c56616d62048c4e38792eba50e9246", func := "pub-coparcener/laws.FnMapSet", spec := "fnMapSet", inPlace := ["math.Float64bits"], unfollowed := true, recurses := true, loops := true, apart := false, narrowed := true }
def FnMapSetUptoSaid : Prop := fnMapSetUptoRow.holds Try.pinned (OpenSpec.upto fnMapSetSpec)

/-- 'laws.FnValuesTurned', WHERE WHAT IT READS IS OF BULK AT MOST 1048576: true; the input reads as it did. -/
def fnValuesTurnedUptoRow : OpenClaim := { program := "ytamcgcncghabhaa", sum := "a45cf1f83019b6a064bc8d287605a56682c56616d62048c4e38792eba50e9246", func := "pub-coparcener/laws.FnValuesTurned", spec := "fnValuesTurned", inPlace := ["internal/bytealg.abigen_runtime_cmpstring"], unfollowed := true, recurses := true, loops := true, apart := false, narrowed := true }
def FnValuesTurnedUptoSaid : Prop := fnValuesTurnedUptoRow.holds Try.pinned (OpenSpec.upto fnValuesTurnedSpec)

/-- 'laws.FnOneFieldDecides', WHERE WHAT IT READS IS OF BULK AT MOST 1048576: true; the input reads as it did. -/
def fnOneFieldDecidesUptoRow : OpenClaim := { program := "ytamcgcncghabhaa", sum := "a45cf1f83019b6a064bc8d287605a56682c56616d62048c4e38792eba50e9246", func := "pub-coparcener/laws.FnOneFieldDecides", spec := "fnOneFieldDecides", inPlace := ["internal/bytealg.abigen_runtime_cmpstring"], unfollowed := true, recurses := true, loops := true, apart := false, narrowed := true }
def FnOneFieldDecidesUptoSaid : Prop := fnOneFieldDecidesUptoRow.holds Try.pinned (OpenSpec.upto fnOneFieldDecidesSpec)

/-- 'laws.FnCompareMaps', WHERE WHAT IT READS IS OF BULK AT MOST 1048576: true; the input reads as it did. -/
def fnCompareMapsUptoRow : OpenClaim := { program := "ytamcgcncghabhaa", sum := "a45cf1f83019b6a064bc8d287605a56682c56616d62048c4e38792eba50e9246", func := "pub-coparcener/laws.FnCompareMaps", spec := "fnCompareMaps", inPlace := ["internal/bytealg.abigen_runtime_cmpstring"], unfollowed := true, recurses := true, loops := true, apart := false, narrowed := true }
def FnCompareMapsUptoSaid : Prop := fnCompareMapsUptoRow.holds Try.pinned (OpenSpec.upto fnCompareMapsSpec)

/-- 'laws.FnLessElems', WHERE WHAT IT READS IS OF BULK AT MOST 1048576: true; the input reads as it did. -/
def fnLessElemsUptoRow : OpenClaim := { program := "ytamcgcncghabhaa", sum := "a45cf1f83019b6a064bc8d287605a56682c56616d62048c4e38792eba50e9246", func := "pub-coparcener/laws.FnLessElems", spec := "fnLessElems", inPlace := ["internal/bytealg.abigen_runtime_cmpstring"], unfollowed := true, recurses := true, loops := true, apart := false, narrowed := true }
def FnLessElemsUptoSaid : Prop := fnLessElemsUptoRow.holds Try.pinned (OpenSpec.upto fnLessElemsSpec)

end Rows
end Go.Proofs.Ytamcgcncghabhaa
