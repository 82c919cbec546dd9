/-
  No cell of these rows narrows 'for every input' (looked for: loops, veiled, ifaces, maps, wideKeys, modest, calm, conditions, laid).
  DERIVED. THE GIVEN ROWS OF THIS SEAT. 6 by the template 'for every input the law returns true; each argument reads behind the call as it read before'; 0 by the template 'total and deterministic' (their statements: Qxb6601380aTotals.lean).
  GIVEN WITH THE SEED: the statements are not yours to turn. If you find one false, say at which input.
  Laid BY PROGRAM, IN A SANDBOX (cutbox-rows.mjs): the forced cells as the released guide's own fill.sh prints them over the translation 20f3224059966201… (all of the seat's roots in one cut). By AI agents, Wed Nov 11 2026. No macro, syntax, notation, axiom, sorry.
-/
import Derived.Test.Qxb6601380aChecked
import GoSem.Claim
import GoSem.ClaimJoined
import GoSem.ClaimMapViews
import Derived.JoinedTies
import Derived.KernelRfl
namespace Go.Proofs.Qxb6601380a
/- THE CELL 'sum', in the pinned program and in every row, IS THE sha256 OF THE DUMP (.gsa) THAT Qxb6601380aProg.lean LOADS. Nothing in Lean hashes anything: it is a label: what it is worth is what the hold of that sum in a sandbox is worth. -/
noncomputable def Try.pinned : Pinned := { name := "qxb6601380a", sum := "20f32240599662015748889c6d5659269d6e3a2968a668f8b851fc7d09ef5a70", checked := Try.checked }
namespace Rows
def none {H : Type} : Left H := { results := [], args := [] }

/-- 'zzlaws_internal_store_b1.FnSortFromMatchesMergeSort': WHATEVER THE INPUT: true; the input reads as it did. -/
def fnSortFromMatchesMergeSortSpec : ChangeSpec := { name := "fnSortFromMatchesMergeSort", fn := fun _ => fun
  | [d1, d2] => { results := [.lit (.bool true)], args := [d1, d2] }
  | _ => none }
def fnSortFromMatchesMergeSortRow : OpenClaim := { program := "qxb6601380a", sum := "20f32240599662015748889c6d5659269d6e3a2968a668f8b851fc7d09ef5a70", func := "example.com/enlist/enlist/zzlaws_internal_store_b1.FnSortFromMatchesMergeSort", spec := "fnSortFromMatchesMergeSort", inPlace := ["internal/bytealg.abigen_runtime_cmpstring"], unfollowed := true, recurses := true, apart := false }
def FnSortFromMatchesMergeSortSaid : Prop := fnSortFromMatchesMergeSortRow.holds Try.pinned (OpenSpec.ofChange fnSortFromMatchesMergeSortSpec)

/-- ITS FALSE NEIGHBOUR: 'it returns false'. Refute it at one input. -/
def fnSortFromMatchesMergeSortWrong : ChangeSpec := { name := "fnSortFromMatchesMergeSort", fn := fun _ => fun
  | [d1, d2] => { results := [.lit (.bool false)], args := [d1, d2] }
  | _ => none }
def FnSortFromMatchesMergeSortWrongFalsely : Prop := fnSortFromMatchesMergeSortRow.holds Try.pinned (OpenSpec.ofChange fnSortFromMatchesMergeSortWrong)

/-- 'zzlaws_internal_store_b1.FnSortFromIgnoresSharedPrefix': WHATEVER THE INPUT: true; the input reads as it did. -/
def fnSortFromIgnoresSharedPrefixSpec : ChangeSpec := { name := "fnSortFromIgnoresSharedPrefix", fn := fun _ => fun
  | [d1, d2] => { results := [.lit (.bool true)], args := [d1, d2] }
  | _ => none }
def fnSortFromIgnoresSharedPrefixRow : OpenClaim := { program := "qxb6601380a", sum := "20f32240599662015748889c6d5659269d6e3a2968a668f8b851fc7d09ef5a70", func := "example.com/enlist/enlist/zzlaws_internal_store_b1.FnSortFromIgnoresSharedPrefix", spec := "fnSortFromIgnoresSharedPrefix", inPlace := ["internal/bytealg.abigen_runtime_cmpstring"], unfollowed := true, recurses := true, apart := false }
def FnSortFromIgnoresSharedPrefixSaid : Prop := fnSortFromIgnoresSharedPrefixRow.holds Try.pinned (OpenSpec.ofChange fnSortFromIgnoresSharedPrefixSpec)

/-- ITS FALSE NEIGHBOUR: 'it returns false'. Refute it at one input. -/
def fnSortFromIgnoresSharedPrefixWrong : ChangeSpec := { name := "fnSortFromIgnoresSharedPrefix", fn := fun _ => fun
  | [d1, d2] => { results := [.lit (.bool false)], args := [d1, d2] }
  | _ => none }
def FnSortFromIgnoresSharedPrefixWrongFalsely : Prop := fnSortFromIgnoresSharedPrefixRow.holds Try.pinned (OpenSpec.ofChange fnSortFromIgnoresSharedPrefixWrong)

/-- 'zzlaws_internal_store_b1.FnPutMatchesSortedModel': WHATEVER THE INPUT: true; the input reads as it did. -/
def fnPutMatchesSortedModelSpec : ChangeSpec := { name := "fnPutMatchesSortedModel", fn := fun _ => fun
  | [d1, d2, d3] => { results := [.lit (.bool true)], args := [d1, d2, d3] }
  | _ => none }
def fnPutMatchesSortedModelRow : OpenClaim := { program := "qxb6601380a", sum := "20f32240599662015748889c6d5659269d6e3a2968a668f8b851fc7d09ef5a70", func := "example.com/enlist/enlist/zzlaws_internal_store_b1.FnPutMatchesSortedModel", spec := "fnPutMatchesSortedModel", inPlace := ["internal/bytealg.abigen_runtime_cmpstring", "slices.overlaps[example.com/enlist/enlist/internal/store.sortedEntry]", "slices.overlaps[*example.com/enlist/enlist/internal/store.sortedNode]"], unfollowed := true, recurses := true, apart := false }
def FnPutMatchesSortedModelSaid : Prop := fnPutMatchesSortedModelRow.holds Try.pinned (OpenSpec.ofChange fnPutMatchesSortedModelSpec)

/-- ITS FALSE NEIGHBOUR: 'it returns false'. Refute it at one input. -/
def fnPutMatchesSortedModelWrong : ChangeSpec := { name := "fnPutMatchesSortedModel", fn := fun _ => fun
  | [d1, d2, d3] => { results := [.lit (.bool false)], args := [d1, d2, d3] }
  | _ => none }
def FnPutMatchesSortedModelWrongFalsely : Prop := fnPutMatchesSortedModelRow.holds Try.pinned (OpenSpec.ofChange fnPutMatchesSortedModelWrong)

/-- 'zzlaws_internal_store_b1.FnPutTwiceIsPutOnce': WHATEVER THE INPUT: true; the input reads as it did. -/
def fnPutTwiceIsPutOnceSpec : ChangeSpec := { name := "fnPutTwiceIsPutOnce", fn := fun _ => fun
  | [d1, d2, d3] => { results := [.lit (.bool true)], args := [d1, d2, d3] }
  | _ => none }
def fnPutTwiceIsPutOnceRow : OpenClaim := { program := "qxb6601380a", sum := "20f32240599662015748889c6d5659269d6e3a2968a668f8b851fc7d09ef5a70", func := "example.com/enlist/enlist/zzlaws_internal_store_b1.FnPutTwiceIsPutOnce", spec := "fnPutTwiceIsPutOnce", inPlace := ["internal/bytealg.abigen_runtime_cmpstring", "slices.overlaps[example.com/enlist/enlist/internal/store.sortedEntry]", "slices.overlaps[*example.com/enlist/enlist/internal/store.sortedNode]"], unfollowed := true, recurses := true, apart := false }
def FnPutTwiceIsPutOnceSaid : Prop := fnPutTwiceIsPutOnceRow.holds Try.pinned (OpenSpec.ofChange fnPutTwiceIsPutOnceSpec)

/-- ITS FALSE NEIGHBOUR: 'it returns false'. Refute it at one input. -/
def fnPutTwiceIsPutOnceWrong : ChangeSpec := { name := "fnPutTwiceIsPutOnce", fn := fun _ => fun
  | [d1, d2, d3] => { results := [.lit (.bool false)], args := [d1, d2, d3] }
  | _ => none }
def FnPutTwiceIsPutOnceWrongFalsely : Prop := fnPutTwiceIsPutOnceRow.holds Try.pinned (OpenSpec.ofChange fnPutTwiceIsPutOnceWrong)

/-- 'zzlaws_internal_store_b1.FnRemoveMatchesSortedModel': WHATEVER THE INPUT: true; the input reads as it did. -/
def fnRemoveMatchesSortedModelSpec : ChangeSpec := { name := "fnRemoveMatchesSortedModel", fn := fun _ => fun
  | [d1, d2] => { results := [.lit (.bool true)], args := [d1, d2] }
  | _ => none }
def fnRemoveMatchesSortedModelRow : OpenClaim := { program := "qxb6601380a", sum := "20f32240599662015748889c6d5659269d6e3a2968a668f8b851fc7d09ef5a70", func := "example.com/enlist/enlist/zzlaws_internal_store_b1.FnRemoveMatchesSortedModel", spec := "fnRemoveMatchesSortedModel", inPlace := ["internal/bytealg.abigen_runtime_cmpstring", "slices.overlaps[example.com/enlist/enlist/internal/store.sortedEntry]", "slices.overlaps[*example.com/enlist/enlist/internal/store.sortedNode]"], unfollowed := true, recurses := true, apart := false }
def FnRemoveMatchesSortedModelSaid : Prop := fnRemoveMatchesSortedModelRow.holds Try.pinned (OpenSpec.ofChange fnRemoveMatchesSortedModelSpec)

/-- ITS FALSE NEIGHBOUR: 'it returns false'. Refute it at one input. -/
def fnRemoveMatchesSortedModelWrong : ChangeSpec := { name := "fnRemoveMatchesSortedModel", fn := fun _ => fun
  | [d1, d2] => { results := [.lit (.bool false)], args := [d1, d2] }
  | _ => none }
def FnRemoveMatchesSortedModelWrongFalsely : Prop := fnRemoveMatchesSortedModelRow.holds Try.pinned (OpenSpec.ofChange fnRemoveMatchesSortedModelWrong)

/-- 'zzlaws_internal_store_b1.FnPutThenRemoveRestores': WHATEVER THE INPUT: true; the input reads as it did. -/
def fnPutThenRemoveRestoresSpec : ChangeSpec := { name := "fnPutThenRemoveRestores", fn := fun _ => fun
  | [d1, d2, d3] => { results := [.lit (.bool true)], args := [d1, d2, d3] }
  | _ => none }
def fnPutThenRemoveRestoresRow : OpenClaim := { program := "qxb6601380a", sum := "20f32240599662015748889c6d5659269d6e3a2968a668f8b851fc7d09ef5a70", func := "example.com/enlist/enlist/zzlaws_internal_store_b1.FnPutThenRemoveRestores", spec := "fnPutThenRemoveRestores", inPlace := ["internal/bytealg.abigen_runtime_cmpstring", "slices.overlaps[example.com/enlist/enlist/internal/store.sortedEntry]", "slices.overlaps[*example.com/enlist/enlist/internal/store.sortedNode]"], unfollowed := true, recurses := true, apart := false }
def FnPutThenRemoveRestoresSaid : Prop := fnPutThenRemoveRestoresRow.holds Try.pinned (OpenSpec.ofChange fnPutThenRemoveRestoresSpec)

/-- ITS FALSE NEIGHBOUR: 'it returns false'. Refute it at one input. -/
def fnPutThenRemoveRestoresWrong : ChangeSpec := { name := "fnPutThenRemoveRestores", fn := fun _ => fun
  | [d1, d2, d3] => { results := [.lit (.bool false)], args := [d1, d2, d3] }
  | _ => none }
def FnPutThenRemoveRestoresWrongFalsely : Prop := fnPutThenRemoveRestoresRow.holds Try.pinned (OpenSpec.ofChange fnPutThenRemoveRestoresWrong)

end Rows
end Go.Proofs.Qxb6601380a
