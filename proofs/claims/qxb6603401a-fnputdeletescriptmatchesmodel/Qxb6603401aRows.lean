/-
  No cell of these rows narrows 'for every input' (looked for: loops, veiled, ifaces, maps, wideKeys, modest, calm, conditions, laid).
  DERIVED. THE GIVEN ROWS OF THIS SEAT. 6 by the template 'for every input the law returns true; each argument reads behind the call as it read before'; 0 by the template 'total and deterministic' (their statements: Qxb6603401aTotals.lean).
  GIVEN WITH THE SEED: the statements are not yours to turn. If you find one false, say at which input.
  Laid BY PROGRAM, IN A SANDBOX (cutbox-rows.mjs): the forced cells as the released guide's own fill.sh prints them over the translation ebdb35b78fdad22d… (all of the seat's roots in one cut). By AI agents, Wed Nov 11 2026. No macro, syntax, notation, axiom, sorry.
-/
import Derived.Test.Qxb6603401aChecked
import GoSem.Claim
import GoSem.ClaimJoined
import GoSem.ClaimMapViews
import Derived.JoinedTies
import Derived.KernelRfl
namespace Go.Proofs.Qxb6603401a
/- THE CELL 'sum', in the pinned program and in every row, IS THE sha256 OF THE DUMP (.gsa) THAT Qxb6603401aProg.lean LOADS. Nothing in Lean hashes anything: it is a label: what it is worth is what the hold of that sum in a sandbox is worth. -/
noncomputable def Try.pinned : Pinned := { name := "qxb6603401a", sum := "ebdb35b78fdad22d84a77d33140719cdac57dbdb0e9dae070117d33343a9ff47", checked := Try.checked }
namespace Rows
def none {H : Type} : Left H := { results := [], args := [] }

/-- 'zzlaws_internal_btree_b1.FnPutDeleteScriptMatchesModel': WHATEVER THE INPUT: true; the input reads as it did. -/
def fnPutDeleteScriptMatchesModelSpec : ChangeSpec := { name := "fnPutDeleteScriptMatchesModel", fn := fun _ => fun
  | [d1, d2, d3] => { results := [.lit (.bool true)], args := [d1, d2, d3] }
  | _ => none }
def fnPutDeleteScriptMatchesModelRow : OpenClaim := { program := "qxb6603401a", sum := "ebdb35b78fdad22d84a77d33140719cdac57dbdb0e9dae070117d33343a9ff47", func := "example.com/tandemlog/tandemlog/zzlaws_internal_btree_b1.FnPutDeleteScriptMatchesModel", spec := "fnPutDeleteScriptMatchesModel", inPlace := ["internal/bytealg.abigen_runtime_cmpstring", "slices.overlaps[example.com/tandemlog/tandemlog/internal/btree.item]", "slices.overlaps[*example.com/tandemlog/tandemlog/internal/btree.node]"], unfollowed := true, recurses := true, apart := false }
def FnPutDeleteScriptMatchesModelSaid : Prop := fnPutDeleteScriptMatchesModelRow.holds Try.pinned (OpenSpec.ofChange fnPutDeleteScriptMatchesModelSpec)

/-- ITS FALSE NEIGHBOUR: 'it returns false'. Refute it at one input. -/
def fnPutDeleteScriptMatchesModelWrong : ChangeSpec := { name := "fnPutDeleteScriptMatchesModel", fn := fun _ => fun
  | [d1, d2, d3] => { results := [.lit (.bool false)], args := [d1, d2, d3] }
  | _ => none }
def FnPutDeleteScriptMatchesModelWrongFalsely : Prop := fnPutDeleteScriptMatchesModelRow.holds Try.pinned (OpenSpec.ofChange fnPutDeleteScriptMatchesModelWrong)

/-- 'zzlaws_internal_btree_b1.FnEveryPutAndDeleteKeepsBTreeShape': WHATEVER THE INPUT: true; the input reads as it did. -/
def fnEveryPutAndDeleteKeepsBTreeShapeSpec : ChangeSpec := { name := "fnEveryPutAndDeleteKeepsBTreeShape", fn := fun _ => fun
  | [d1, d2, d3] => { results := [.lit (.bool true)], args := [d1, d2, d3] }
  | _ => none }
def fnEveryPutAndDeleteKeepsBTreeShapeRow : OpenClaim := { program := "qxb6603401a", sum := "ebdb35b78fdad22d84a77d33140719cdac57dbdb0e9dae070117d33343a9ff47", func := "example.com/tandemlog/tandemlog/zzlaws_internal_btree_b1.FnEveryPutAndDeleteKeepsBTreeShape", spec := "fnEveryPutAndDeleteKeepsBTreeShape", inPlace := ["internal/bytealg.abigen_runtime_cmpstring", "slices.overlaps[example.com/tandemlog/tandemlog/internal/btree.item]", "slices.overlaps[*example.com/tandemlog/tandemlog/internal/btree.node]"], unfollowed := true, recurses := true, apart := false }
def FnEveryPutAndDeleteKeepsBTreeShapeSaid : Prop := fnEveryPutAndDeleteKeepsBTreeShapeRow.holds Try.pinned (OpenSpec.ofChange fnEveryPutAndDeleteKeepsBTreeShapeSpec)

/-- ITS FALSE NEIGHBOUR: 'it returns false'. Refute it at one input. -/
def fnEveryPutAndDeleteKeepsBTreeShapeWrong : ChangeSpec := { name := "fnEveryPutAndDeleteKeepsBTreeShape", fn := fun _ => fun
  | [d1, d2, d3] => { results := [.lit (.bool false)], args := [d1, d2, d3] }
  | _ => none }
def FnEveryPutAndDeleteKeepsBTreeShapeWrongFalsely : Prop := fnEveryPutAndDeleteKeepsBTreeShapeRow.holds Try.pinned (OpenSpec.ofChange fnEveryPutAndDeleteKeepsBTreeShapeWrong)

/-- 'zzlaws_internal_btree_b1.FnDeleteOfAbsentKeyChangesNothing': WHATEVER THE INPUT: true; the input reads as it did. -/
def fnDeleteOfAbsentKeyChangesNothingSpec : ChangeSpec := { name := "fnDeleteOfAbsentKeyChangesNothing", fn := fun _ => fun
  | [d1, d2, d3, d4] => { results := [.lit (.bool true)], args := [d1, d2, d3, d4] }
  | _ => none }
def fnDeleteOfAbsentKeyChangesNothingRow : OpenClaim := { program := "qxb6603401a", sum := "ebdb35b78fdad22d84a77d33140719cdac57dbdb0e9dae070117d33343a9ff47", func := "example.com/tandemlog/tandemlog/zzlaws_internal_btree_b1.FnDeleteOfAbsentKeyChangesNothing", spec := "fnDeleteOfAbsentKeyChangesNothing", inPlace := ["internal/bytealg.abigen_runtime_cmpstring", "slices.overlaps[example.com/tandemlog/tandemlog/internal/btree.item]", "slices.overlaps[*example.com/tandemlog/tandemlog/internal/btree.node]"], unfollowed := true, recurses := true, apart := false }
def FnDeleteOfAbsentKeyChangesNothingSaid : Prop := fnDeleteOfAbsentKeyChangesNothingRow.holds Try.pinned (OpenSpec.ofChange fnDeleteOfAbsentKeyChangesNothingSpec)

/-- ITS FALSE NEIGHBOUR: 'it returns false'. Refute it at one input. -/
def fnDeleteOfAbsentKeyChangesNothingWrong : ChangeSpec := { name := "fnDeleteOfAbsentKeyChangesNothing", fn := fun _ => fun
  | [d1, d2, d3, d4] => { results := [.lit (.bool false)], args := [d1, d2, d3, d4] }
  | _ => none }
def FnDeleteOfAbsentKeyChangesNothingWrongFalsely : Prop := fnDeleteOfAbsentKeyChangesNothingRow.holds Try.pinned (OpenSpec.ofChange fnDeleteOfAbsentKeyChangesNothingWrong)

/-- 'zzlaws_internal_btree_b1.FnDeleteUndoesPutOfFreshKey': WHATEVER THE INPUT: true; the input reads as it did. -/
def fnDeleteUndoesPutOfFreshKeySpec : ChangeSpec := { name := "fnDeleteUndoesPutOfFreshKey", fn := fun _ => fun
  | [d1, d2, d3, d4, d5] => { results := [.lit (.bool true)], args := [d1, d2, d3, d4, d5] }
  | _ => none }
def fnDeleteUndoesPutOfFreshKeyRow : OpenClaim := { program := "qxb6603401a", sum := "ebdb35b78fdad22d84a77d33140719cdac57dbdb0e9dae070117d33343a9ff47", func := "example.com/tandemlog/tandemlog/zzlaws_internal_btree_b1.FnDeleteUndoesPutOfFreshKey", spec := "fnDeleteUndoesPutOfFreshKey", inPlace := ["internal/bytealg.abigen_runtime_cmpstring", "slices.overlaps[example.com/tandemlog/tandemlog/internal/btree.item]", "slices.overlaps[*example.com/tandemlog/tandemlog/internal/btree.node]"], unfollowed := true, recurses := true, apart := false }
def FnDeleteUndoesPutOfFreshKeySaid : Prop := fnDeleteUndoesPutOfFreshKeyRow.holds Try.pinned (OpenSpec.ofChange fnDeleteUndoesPutOfFreshKeySpec)

/-- ITS FALSE NEIGHBOUR: 'it returns false'. Refute it at one input. -/
def fnDeleteUndoesPutOfFreshKeyWrong : ChangeSpec := { name := "fnDeleteUndoesPutOfFreshKey", fn := fun _ => fun
  | [d1, d2, d3, d4, d5] => { results := [.lit (.bool false)], args := [d1, d2, d3, d4, d5] }
  | _ => none }
def FnDeleteUndoesPutOfFreshKeyWrongFalsely : Prop := fnDeleteUndoesPutOfFreshKeyRow.holds Try.pinned (OpenSpec.ofChange fnDeleteUndoesPutOfFreshKeyWrong)

/-- 'zzlaws_internal_btree_b1.FnGrowFillsChildAndKeepsContents': WHATEVER THE INPUT: true; the input reads as it did. -/
def fnGrowFillsChildAndKeepsContentsSpec : ChangeSpec := { name := "fnGrowFillsChildAndKeepsContents", fn := fun _ => fun
  | [d1, d2, d3, d4] => { results := [.lit (.bool true)], args := [d1, d2, d3, d4] }
  | _ => none }
def fnGrowFillsChildAndKeepsContentsRow : OpenClaim := { program := "qxb6603401a", sum := "ebdb35b78fdad22d84a77d33140719cdac57dbdb0e9dae070117d33343a9ff47", func := "example.com/tandemlog/tandemlog/zzlaws_internal_btree_b1.FnGrowFillsChildAndKeepsContents", spec := "fnGrowFillsChildAndKeepsContents", inPlace := ["internal/bytealg.abigen_runtime_cmpstring", "slices.overlaps[example.com/tandemlog/tandemlog/internal/btree.item]", "slices.overlaps[*example.com/tandemlog/tandemlog/internal/btree.node]"], unfollowed := true, recurses := true, apart := false }
def FnGrowFillsChildAndKeepsContentsSaid : Prop := fnGrowFillsChildAndKeepsContentsRow.holds Try.pinned (OpenSpec.ofChange fnGrowFillsChildAndKeepsContentsSpec)

/-- ITS FALSE NEIGHBOUR: 'it returns false'. Refute it at one input. -/
def fnGrowFillsChildAndKeepsContentsWrong : ChangeSpec := { name := "fnGrowFillsChildAndKeepsContents", fn := fun _ => fun
  | [d1, d2, d3, d4] => { results := [.lit (.bool false)], args := [d1, d2, d3, d4] }
  | _ => none }
def FnGrowFillsChildAndKeepsContentsWrongFalsely : Prop := fnGrowFillsChildAndKeepsContentsRow.holds Try.pinned (OpenSpec.ofChange fnGrowFillsChildAndKeepsContentsWrong)

/-- 'zzlaws_internal_btree_b1.FnGrowOnAFilledChildIsNoOp': WHATEVER THE INPUT: true; the input reads as it did. -/
def fnGrowOnAFilledChildIsNoOpSpec : ChangeSpec := { name := "fnGrowOnAFilledChildIsNoOp", fn := fun _ => fun
  | [d1, d2, d3, d4] => { results := [.lit (.bool true)], args := [d1, d2, d3, d4] }
  | _ => none }
def fnGrowOnAFilledChildIsNoOpRow : OpenClaim := { program := "qxb6603401a", sum := "ebdb35b78fdad22d84a77d33140719cdac57dbdb0e9dae070117d33343a9ff47", func := "example.com/tandemlog/tandemlog/zzlaws_internal_btree_b1.FnGrowOnAFilledChildIsNoOp", spec := "fnGrowOnAFilledChildIsNoOp", inPlace := ["internal/bytealg.abigen_runtime_cmpstring", "slices.overlaps[example.com/tandemlog/tandemlog/internal/btree.item]", "slices.overlaps[*example.com/tandemlog/tandemlog/internal/btree.node]"], unfollowed := true, recurses := true, apart := false }
def FnGrowOnAFilledChildIsNoOpSaid : Prop := fnGrowOnAFilledChildIsNoOpRow.holds Try.pinned (OpenSpec.ofChange fnGrowOnAFilledChildIsNoOpSpec)

/-- ITS FALSE NEIGHBOUR: 'it returns false'. Refute it at one input. -/
def fnGrowOnAFilledChildIsNoOpWrong : ChangeSpec := { name := "fnGrowOnAFilledChildIsNoOp", fn := fun _ => fun
  | [d1, d2, d3, d4] => { results := [.lit (.bool false)], args := [d1, d2, d3, d4] }
  | _ => none }
def FnGrowOnAFilledChildIsNoOpWrongFalsely : Prop := fnGrowOnAFilledChildIsNoOpRow.holds Try.pinned (OpenSpec.ofChange fnGrowOnAFilledChildIsNoOpWrong)

end Rows
end Go.Proofs.Qxb6603401a
