/-
  NARROWER THAN 'FOR EVERY INPUT', by the rows' own cells (each row's printed sentence says how): FnElemSetCopy: loops · FnMakeSet: loops · FnSetLeaves: loops · FnConflictsOf: loops · FnSetEqual: loops · FnSetSizesAdd: loops · FnEqualManagers: loops · FnSetRebuilt: loops · FnItemElemDefault: loops.
  DERIVED. THE GIVEN ROWS OF THIS SEAT. 9 by the template 'for every input the law returns true; each argument reads behind the call as it read before'; 0 by the template 'total and deterministic' (their statements: YtihapgangilncaaGreatTotals.lean).
  GIVEN WITH THE SEED: the statements are not yours to turn. If you find one false, say at which input.
  Laid BY PROGRAM, IN A SANDBOX (cutbox-rows.mjs): the forced cells as the released guide's own fill.sh prints them over the translation 15e8e4af36f4fbce… (all of the seat's roots in one cut). By AI agents, Wed Nov 11 2026. No macro, syntax, notation, axiom, sorry.
-/
import Derived.Test.YtihapgangilncaaGreatChecked
import GoSem.Claim
import GoSem.ClaimJoined
import GoSem.ClaimMapViews
import Derived.JoinedTies
import Derived.KernelRfl
namespace Go.Proofs.YtihapgangilncaaGreat
/- THE CELL 'sum', in the pinned program and in every row, IS THE sha256 OF THE DUMP (.gsa) THAT YtihapgangilncaaGreatProg.lean LOADS. Nothing in Lean hashes anything: it is a label: what it is worth is what the hold of that sum in a sandbox is worth. -/
noncomputable def Tryz.pinned : Pinned := { name := "ytihapgangilncaagreat", sum := "15e8e4af36f4fbcefd50791ac798ad23ca429320a43cba9e2cc060598713db48", checked := Tryz.checked }
namespace Rows
def none {H : Type} : Left H := { results := [], args := [] }

/-- 'laws.FnElemSetCopy': WHATEVER THE INPUT: true; the input reads as it did. -/
def fnElemSetCopySpec : ChangeSpec := { name := "fnElemSetCopy", fn := fun _ => fun
  | [d1, d2] => { results := [.lit (.bool true)], args := [d1, d2] }
  | _ => none }
def fnElemSetCopyRow : OpenClaim := { program := "ytihapgangilncaagreat", sum := "15e8e4af36f4fbcefd50791ac798ad23ca429320a43cba9e2cc060598713db48", func := "pub-coparcener/laws.FnElemSetCopy", spec := "fnElemSetCopy", inPlace := ["internal/bytealg.abigen_runtime_cmpstring", "slices.overlaps[pub-coparcener/pub/structuredmerge/fieldpath.PathElement]"], unfollowed := true, recurses := true, loops := true, apart := false }
def FnElemSetCopySaid : Prop := fnElemSetCopyRow.holds Tryz.pinned (OpenSpec.ofChange fnElemSetCopySpec)

/-- ITS FALSE NEIGHBOUR: 'it returns false'. Refute it at one input. -/
def fnElemSetCopyWrong : ChangeSpec := { name := "fnElemSetCopy", fn := fun _ => fun
  | [d1, d2] => { results := [.lit (.bool false)], args := [d1, d2] }
  | _ => none }
def FnElemSetCopyWrongFalsely : Prop := fnElemSetCopyRow.holds Tryz.pinned (OpenSpec.ofChange fnElemSetCopyWrong)

/-- 'laws.FnMakeSet': WHATEVER THE INPUT: true; the input reads as it did. -/
def fnMakeSetSpec : ChangeSpec := { name := "fnMakeSet", fn := fun _ => fun
  | [d] => { results := [.lit (.bool true)], args := [d] }
  | _ => none }
def fnMakeSetRow : OpenClaim := { program := "ytihapgangilncaagreat", sum := "15e8e4af36f4fbcefd50791ac798ad23ca429320a43cba9e2cc060598713db48", func := "pub-coparcener/laws.FnMakeSet", spec := "fnMakeSet", inPlace := ["internal/bytealg.abigen_runtime_cmpstring", "slices.overlaps[pub-coparcener/pub/structuredmerge/fieldpath.PathElement]", "slices.overlaps[pub-coparcener/pub/structuredmerge/fieldpath.setNode]"], unfollowed := true, recurses := true, loops := true, apart := false }
def FnMakeSetSaid : Prop := fnMakeSetRow.holds Tryz.pinned (OpenSpec.ofChange fnMakeSetSpec)

/-- ITS FALSE NEIGHBOUR: 'it returns false'. Refute it at one input. -/
def fnMakeSetWrong : ChangeSpec := { name := "fnMakeSet", fn := fun _ => fun
  | [d] => { results := [.lit (.bool false)], args := [d] }
  | _ => none }
def FnMakeSetWrongFalsely : Prop := fnMakeSetRow.holds Tryz.pinned (OpenSpec.ofChange fnMakeSetWrong)

/-- 'laws.FnSetLeaves': WHATEVER THE INPUT: true; the input reads as it did. -/
def fnSetLeavesSpec : ChangeSpec := { name := "fnSetLeaves", fn := fun _ => fun
  | [d] => { results := [.lit (.bool true)], args := [d] }
  | _ => none }
def fnSetLeavesRow : OpenClaim := { program := "ytihapgangilncaagreat", sum := "15e8e4af36f4fbcefd50791ac798ad23ca429320a43cba9e2cc060598713db48", func := "pub-coparcener/laws.FnSetLeaves", spec := "fnSetLeaves", inPlace := ["internal/bytealg.abigen_runtime_cmpstring", "slices.overlaps[pub-coparcener/pub/structuredmerge/fieldpath.PathElement]", "slices.overlaps[pub-coparcener/pub/structuredmerge/fieldpath.setNode]"], unfollowed := true, recurses := true, loops := true, apart := false }
def FnSetLeavesSaid : Prop := fnSetLeavesRow.holds Tryz.pinned (OpenSpec.ofChange fnSetLeavesSpec)

/-- ITS FALSE NEIGHBOUR: 'it returns false'. Refute it at one input. -/
def fnSetLeavesWrong : ChangeSpec := { name := "fnSetLeaves", fn := fun _ => fun
  | [d] => { results := [.lit (.bool false)], args := [d] }
  | _ => none }
def FnSetLeavesWrongFalsely : Prop := fnSetLeavesRow.holds Tryz.pinned (OpenSpec.ofChange fnSetLeavesWrong)

/-- 'laws.FnConflictsOf': WHATEVER THE INPUT: true; the input reads as it did. -/
def fnConflictsOfSpec : ChangeSpec := { name := "fnConflictsOf", fn := fun _ => fun
  | [d] => { results := [.lit (.bool true)], args := [d] }
  | _ => none }
def fnConflictsOfRow : OpenClaim := { program := "ytihapgangilncaagreat", sum := "15e8e4af36f4fbcefd50791ac798ad23ca429320a43cba9e2cc060598713db48", func := "pub-coparcener/laws.FnConflictsOf", spec := "fnConflictsOf", inPlace := ["internal/bytealg.abigen_runtime_cmpstring", "slices.overlaps[pub-coparcener/pub/structuredmerge/fieldpath.PathElement]", "slices.overlaps[pub-coparcener/pub/structuredmerge/fieldpath.setNode]"], unfollowed := true, recurses := true, loops := true, apart := false }
def FnConflictsOfSaid : Prop := fnConflictsOfRow.holds Tryz.pinned (OpenSpec.ofChange fnConflictsOfSpec)

/-- ITS FALSE NEIGHBOUR: 'it returns false'. Refute it at one input. -/
def fnConflictsOfWrong : ChangeSpec := { name := "fnConflictsOf", fn := fun _ => fun
  | [d] => { results := [.lit (.bool false)], args := [d] }
  | _ => none }
def FnConflictsOfWrongFalsely : Prop := fnConflictsOfRow.holds Tryz.pinned (OpenSpec.ofChange fnConflictsOfWrong)

/-- 'laws.FnSetEqual': WHATEVER THE INPUT: true; the input reads as it did. -/
def fnSetEqualSpec : ChangeSpec := { name := "fnSetEqual", fn := fun _ => fun
  | [d1, d2] => { results := [.lit (.bool true)], args := [d1, d2] }
  | _ => none }
def fnSetEqualRow : OpenClaim := { program := "ytihapgangilncaagreat", sum := "15e8e4af36f4fbcefd50791ac798ad23ca429320a43cba9e2cc060598713db48", func := "pub-coparcener/laws.FnSetEqual", spec := "fnSetEqual", inPlace := ["internal/bytealg.abigen_runtime_cmpstring", "slices.overlaps[pub-coparcener/pub/structuredmerge/fieldpath.PathElement]", "slices.overlaps[pub-coparcener/pub/structuredmerge/fieldpath.setNode]"], unfollowed := true, recurses := true, loops := true, apart := false }
def FnSetEqualSaid : Prop := fnSetEqualRow.holds Tryz.pinned (OpenSpec.ofChange fnSetEqualSpec)

/-- ITS FALSE NEIGHBOUR: 'it returns false'. Refute it at one input. -/
def fnSetEqualWrong : ChangeSpec := { name := "fnSetEqual", fn := fun _ => fun
  | [d1, d2] => { results := [.lit (.bool false)], args := [d1, d2] }
  | _ => none }
def FnSetEqualWrongFalsely : Prop := fnSetEqualRow.holds Tryz.pinned (OpenSpec.ofChange fnSetEqualWrong)

/-- 'laws.FnSetSizesAdd': WHATEVER THE INPUT: true; the input reads as it did. -/
def fnSetSizesAddSpec : ChangeSpec := { name := "fnSetSizesAdd", fn := fun _ => fun
  | [d1, d2] => { results := [.lit (.bool true)], args := [d1, d2] }
  | _ => none }
def fnSetSizesAddRow : OpenClaim := { program := "ytihapgangilncaagreat", sum := "15e8e4af36f4fbcefd50791ac798ad23ca429320a43cba9e2cc060598713db48", func := "pub-coparcener/laws.FnSetSizesAdd", spec := "fnSetSizesAdd", inPlace := ["internal/bytealg.abigen_runtime_cmpstring", "slices.overlaps[pub-coparcener/pub/structuredmerge/fieldpath.PathElement]", "slices.overlaps[pub-coparcener/pub/structuredmerge/fieldpath.setNode]"], unfollowed := true, recurses := true, loops := true, apart := false }
def FnSetSizesAddSaid : Prop := fnSetSizesAddRow.holds Tryz.pinned (OpenSpec.ofChange fnSetSizesAddSpec)

/-- ITS FALSE NEIGHBOUR: 'it returns false'. Refute it at one input. -/
def fnSetSizesAddWrong : ChangeSpec := { name := "fnSetSizesAdd", fn := fun _ => fun
  | [d1, d2] => { results := [.lit (.bool false)], args := [d1, d2] }
  | _ => none }
def FnSetSizesAddWrongFalsely : Prop := fnSetSizesAddRow.holds Tryz.pinned (OpenSpec.ofChange fnSetSizesAddWrong)

/-- 'laws.FnEqualManagers': WHATEVER THE INPUT: true; the input reads as it did. -/
def fnEqualManagersSpec : ChangeSpec := { name := "fnEqualManagers", fn := fun _ => fun
  | [d1, d2] => { results := [.lit (.bool true)], args := [d1, d2] }
  | _ => none }
def fnEqualManagersRow : OpenClaim := { program := "ytihapgangilncaagreat", sum := "15e8e4af36f4fbcefd50791ac798ad23ca429320a43cba9e2cc060598713db48", func := "pub-coparcener/laws.FnEqualManagers", spec := "fnEqualManagers", inPlace := ["internal/bytealg.abigen_runtime_cmpstring", "slices.overlaps[pub-coparcener/pub/structuredmerge/fieldpath.PathElement]", "slices.overlaps[pub-coparcener/pub/structuredmerge/fieldpath.setNode]"], unfollowed := true, recurses := true, loops := true, apart := false }
def FnEqualManagersSaid : Prop := fnEqualManagersRow.holds Tryz.pinned (OpenSpec.ofChange fnEqualManagersSpec)

/-- ITS FALSE NEIGHBOUR: 'it returns false'. Refute it at one input. -/
def fnEqualManagersWrong : ChangeSpec := { name := "fnEqualManagers", fn := fun _ => fun
  | [d1, d2] => { results := [.lit (.bool false)], args := [d1, d2] }
  | _ => none }
def FnEqualManagersWrongFalsely : Prop := fnEqualManagersRow.holds Tryz.pinned (OpenSpec.ofChange fnEqualManagersWrong)

/-- 'laws.FnSetRebuilt': WHATEVER THE INPUT: true; the input reads as it did. -/
def fnSetRebuiltSpec : ChangeSpec := { name := "fnSetRebuilt", fn := fun _ => fun
  | [d] => { results := [.lit (.bool true)], args := [d] }
  | _ => none }
def fnSetRebuiltRow : OpenClaim := { program := "ytihapgangilncaagreat", sum := "15e8e4af36f4fbcefd50791ac798ad23ca429320a43cba9e2cc060598713db48", func := "pub-coparcener/laws.FnSetRebuilt", spec := "fnSetRebuilt", inPlace := ["internal/bytealg.abigen_runtime_cmpstring", "slices.overlaps[pub-coparcener/pub/structuredmerge/fieldpath.PathElement]", "slices.overlaps[pub-coparcener/pub/structuredmerge/fieldpath.setNode]"], unfollowed := true, recurses := true, loops := true, apart := false }
def FnSetRebuiltSaid : Prop := fnSetRebuiltRow.holds Tryz.pinned (OpenSpec.ofChange fnSetRebuiltSpec)

/-- ITS FALSE NEIGHBOUR: 'it returns false'. Refute it at one input. -/
def fnSetRebuiltWrong : ChangeSpec := { name := "fnSetRebuilt", fn := fun _ => fun
  | [d] => { results := [.lit (.bool false)], args := [d] }
  | _ => none }
def FnSetRebuiltWrongFalsely : Prop := fnSetRebuiltRow.holds Tryz.pinned (OpenSpec.ofChange fnSetRebuiltWrong)

/-- 'laws.FnItemElemDefault': WHATEVER THE INPUT: true; the input reads as it did. -/
def fnItemElemDefaultSpec : ChangeSpec := { name := "fnItemElemDefault", fn := fun _ => fun
  | [d1, d2, d3, d4] => { results := [.lit (.bool true)], args := [d1, d2, d3, d4] }
  | _ => none }
def fnItemElemDefaultRow : OpenClaim := { program := "ytihapgangilncaagreat", sum := "15e8e4af36f4fbcefd50791ac798ad23ca429320a43cba9e2cc060598713db48", func := "pub-coparcener/laws.FnItemElemDefault", spec := "fnItemElemDefault", unfollowed := true, recurses := true, loops := true, apart := false }
def FnItemElemDefaultSaid : Prop := fnItemElemDefaultRow.holds Tryz.pinned (OpenSpec.ofChange fnItemElemDefaultSpec)

/-- ITS FALSE NEIGHBOUR: 'it returns false'. Refute it at one input. -/
def fnItemElemDefaultWrong : ChangeSpec := { name := "fnItemElemDefault", fn := fun _ => fun
  | [d1, d2, d3, d4] => { results := [.lit (.bool false)], args := [d1, d2, d3, d4] }
  | _ => none }
def FnItemElemDefaultWrongFalsely : Prop := fnItemElemDefaultRow.holds Tryz.pinned (OpenSpec.ofChange fnItemElemDefaultWrong)

/- THE SECOND FORM. 'bulk': how many values and letters a reading holds, each counted each time it is reached (what is shared counts as often as it is met; a slice's spare places count too). A statement '..UptoSaid' is the law's where the arguments, and the package variables that the reading takes, are together of bulk at most 1048576: NARROWER than '..Said'. Prove '..Said' where nothing that the law and all that it calls make is longer than what came in: it says more and counts as full. Else prove '..UptoSaid'. A law counts once. -/
mutual
def uptoBulk {H : Type} : DataW H → Nat
  | .lit (.string bytes) => bytes.length + 1
  | .lit _ => 1
  | .nil => 1
  | .ptr d => uptoBulk d + 1
  | .slice elems spare => uptoBulkAll elems + uptoBulkAll spare + 1
  | .agg parts => uptoBulkAll parts + 1
  | .iface _ d => uptoBulk d + 1
  | .map entries => uptoBulkEntries entries + 1
  | .held _ => 1
def uptoBulkAll {H : Type} : List (DataW H) → Nat
  | [] => 0
  | d :: r => uptoBulk d + uptoBulkAll r
def uptoBulkEntries {H : Type} : List (Lit × DataW H) → Nat
  | [] => 0
  | x :: r => uptoBulkEntry x + uptoBulkEntries r
def uptoBulkEntry {H : Type} : Lit × DataW H → Nat
  | (.string bytes, d) => bytes.length + uptoBulk d + 1
  | (_, d) => uptoBulk d + 1
 end
def uptoSmall : (H : Type) → List (DataW H) → Bool := fun _ ds => decide (uptoBulkAll ds ≤ 1048576)
def OpenSpec.upto (s : _root_.Go.ChangeSpec) : _root_.Go.OpenSpec := { _root_.Go.OpenSpec.ofChange s with cond := some uptoSmall }

/-- 'laws.FnElemSetCopy', WHERE WHAT IT READS IS OF BULK AT MOST 1048576: true; the input reads as it did. -/
def fnElemSetCopyUptoRow : OpenClaim := { program := "ytihapgangilncaagreat", sum := "15e8e4af36f4fbcefd50791ac798ad23ca429320a43cba9e2cc060598713db48", func := "pub-coparcener/laws.FnElemSetCopy", spec := "fnElemSetCopy", inPlace := ["internal/bytealg.abigen_runtime_cmpstring", "slices.overlaps[pub-coparcener/pub/structuredmerge/fieldpath.PathElement]"], unfollowed := true, recurses := true, loops := true, apart := false, narrowed := true }
def FnElemSetCopyUptoSaid : Prop := fnElemSetCopyUptoRow.holds Tryz.pinned (OpenSpec.upto fnElemSetCopySpec)

/-- 'laws.FnMakeSet', WHERE WHAT IT READS IS OF BULK AT MOST 1048576: true; the input reads as it did. -/
def fnMakeSetUptoRow : OpenClaim := { program := "ytihapgangilncaagreat", sum := "15e8e4af36f4fbcefd50791ac798ad23ca429320a43cba9e2cc060598713db48", func := "pub-coparcener/laws.FnMakeSet", spec := "fnMakeSet", inPlace := ["internal/bytealg.abigen_runtime_cmpstring", "slices.overlaps[pub-coparcener/pub/structuredmerge/fieldpath.PathElement]", "slices.overlaps[pub-coparcener/pub/structuredmerge/fieldpath.setNode]"], unfollowed := true, recurses := true, loops := true, apart := false, narrowed := true }
def FnMakeSetUptoSaid : Prop := fnMakeSetUptoRow.holds Tryz.pinned (OpenSpec.upto fnMakeSetSpec)

/-- 'laws.FnSetLeaves', WHERE WHAT IT READS IS OF BULK AT MOST 1048576: true; the input reads as it did. -/
def fnSetLeavesUptoRow : OpenClaim := { program := "ytihapgangilncaagreat", sum := "15e8e4af36f4fbcefd50791ac798ad23ca429320a43cba9e2cc060598713db48", func := "pub-coparcener/laws.FnSetLeaves", spec := "fnSetLeaves", inPlace := ["internal/bytealg.abigen_runtime_cmpstring", "slices.overlaps[pub-coparcener/pub/structuredmerge/fieldpath.PathElement]", "slices.overlaps[pub-coparcener/pub/structuredmerge/fieldpath.setNode]"], unfollowed := true, recurses := true, loops := true, apart := false, narrowed := true }
def FnSetLeavesUptoSaid : Prop := fnSetLeavesUptoRow.holds Tryz.pinned (OpenSpec.upto fnSetLeavesSpec)

/-- 'laws.FnConflictsOf', WHERE WHAT IT READS IS OF BULK AT MOST 1048576: true; the input reads as it did. -/
def fnConflictsOfUptoRow : OpenClaim := { program := "ytihapgangilncaagreat", sum := "15e8e4af36f4fbcefd50791ac798ad23ca429320a43cba9e2cc060598713db48", func := "pub-coparcener/laws.FnConflictsOf", spec := "fnConflictsOf", inPlace := ["internal/bytealg.abigen_runtime_cmpstring", "slices.overlaps[pub-coparcener/pub/structuredmerge/fieldpath.PathElement]", "slices.overlaps[pub-coparcener/pub/structuredmerge/fieldpath.setNode]"], unfollowed := true, recurses := true, loops := true, apart := false, narrowed := true }
def FnConflictsOfUptoSaid : Prop := fnConflictsOfUptoRow.holds Tryz.pinned (OpenSpec.upto fnConflictsOfSpec)

/-- 'laws.FnSetEqual', WHERE WHAT IT READS IS OF BULK AT MOST 1048576: true; the input reads as it did. -/
def fnSetEqualUptoRow : OpenClaim := { program := "ytihapgangilncaagreat", sum := "15e8e4af36f4fbcefd50791ac798ad23ca429320a43cba9e2cc060598713db48", func := "pub-coparcener/laws.FnSetEqual", spec := "fnSetEqual", inPlace := ["internal/bytealg.abigen_runtime_cmpstring", "slices.overlaps[pub-coparcener/pub/structuredmerge/fieldpath.PathElement]", "slices.overlaps[pub-coparcener/pub/structuredmerge/fieldpath.setNode]"], unfollowed := true, recurses := true, loops := true, apart := false, narrowed := true }
def FnSetEqualUptoSaid : Prop := fnSetEqualUptoRow.holds Tryz.pinned (OpenSpec.upto fnSetEqualSpec)

/-- 'laws.FnSetSizesAdd', WHERE WHAT IT READS IS OF BULK AT MOST 1048576: true; the input reads as it did. -/
def fnSetSizesAddUptoRow : OpenClaim := { program := "ytihapgangilncaagreat", sum := "15e8e4af36f4fbcefd50791ac798ad23ca429320a43cba9e2cc060598713db48", func := "pub-coparcener/laws.FnSetSizesAdd", spec := "fnSetSizesAdd", inPlace := ["internal/bytealg.abigen_runtime_cmpstring", "slices.overlaps[pub-coparcener/pub/structuredmerge/fieldpath.PathElement]", "slices.overlaps[pub-coparcener/pub/structuredmerge/fieldpath.setNode]"], unfollowed := true, recurses := true, loops := true, apart := false, narrowed := true }
def FnSetSizesAddUptoSaid : Prop := fnSetSizesAddUptoRow.holds Tryz.pinned (OpenSpec.upto fnSetSizesAddSpec)

/-- 'laws.FnEqualManagers', WHERE WHAT IT READS IS OF BULK AT MOST 1048576: true; the input reads as it did. -/
def fnEqualManagersUptoRow : OpenClaim := { program := "ytihapgangilncaagreat", sum := "15e8e4af36f4fbcefd50791ac798ad23ca429320a43cba9e2cc060598713db48", func := "pub-coparcener/laws.FnEqualManagers", spec := "fnEqualManagers", inPlace := ["internal/bytealg.abigen_runtime_cmpstring", "slices.overlaps[pub-coparcener/pub/structuredmerge/fieldpath.PathElement]", "slices.overlaps[pub-coparcener/pub/structuredmerge/fieldpath.setNode]"], unfollowed := true, recurses := true, loops := true, apart := false, narrowed := true }
def FnEqualManagersUptoSaid : Prop := fnEqualManagersUptoRow.holds Tryz.pinned (OpenSpec.upto fnEqualManagersSpec)

/-- 'laws.FnSetRebuilt', WHERE WHAT IT READS IS OF BULK AT MOST 1048576: true; the input reads as it did. -/
def fnSetRebuiltUptoRow : OpenClaim := { program := "ytihapgangilncaagreat", sum := "15e8e4af36f4fbcefd50791ac798ad23ca429320a43cba9e2cc060598713db48", func := "pub-coparcener/laws.FnSetRebuilt", spec := "fnSetRebuilt", inPlace := ["internal/bytealg.abigen_runtime_cmpstring", "slices.overlaps[pub-coparcener/pub/structuredmerge/fieldpath.PathElement]", "slices.overlaps[pub-coparcener/pub/structuredmerge/fieldpath.setNode]"], unfollowed := true, recurses := true, loops := true, apart := false, narrowed := true }
def FnSetRebuiltUptoSaid : Prop := fnSetRebuiltUptoRow.holds Tryz.pinned (OpenSpec.upto fnSetRebuiltSpec)

/-- 'laws.FnItemElemDefault', WHERE WHAT IT READS IS OF BULK AT MOST 1048576: true; the input reads as it did. -/
def fnItemElemDefaultUptoRow : OpenClaim := { program := "ytihapgangilncaagreat", sum := "15e8e4af36f4fbcefd50791ac798ad23ca429320a43cba9e2cc060598713db48", func := "pub-coparcener/laws.FnItemElemDefault", spec := "fnItemElemDefault", unfollowed := true, recurses := true, loops := true, apart := false, narrowed := true }
def FnItemElemDefaultUptoSaid : Prop := fnItemElemDefaultUptoRow.holds Tryz.pinned (OpenSpec.upto fnItemElemDefaultSpec)

end Rows
end Go.Proofs.YtihapgangilncaaGreat
