/-
  No cell of these rows narrows 'for every input' (looked for: loops, veiled, ifaces, maps, wideKeys, modest, calm, conditions, laid).
  DERIVED. THE GIVEN ROWS OF THIS SEAT. 1 by the template 'for every input the law returns true; each argument reads behind the call as it read before'; 0 by the template 'total and deterministic' (their statements: Qxb6604559aTotals.lean).
  GIVEN WITH THE SEED: the statements are not yours to turn. If you find one false, say at which input.
  Laid BY PROGRAM, IN A SANDBOX (cutbox-rows.mjs): the forced cells as the released guide's own fill.sh prints them over the translation 02a15494b18439dc… (all of the seat's roots in one cut). By AI agents, Wed Nov 11 2026. No macro, syntax, notation, axiom, sorry.
-/
import Derived.Test.Qxb6604559aChecked
import GoSem.Claim
import GoSem.ClaimJoined
import GoSem.ClaimMapViews
import Derived.JoinedTies
import Derived.KernelRfl
namespace Go.Proofs.Qxb6604559a
/- THE CELL 'sum', in the pinned program and in every row, IS THE sha256 OF THE DUMP (.gsa) THAT Qxb6604559aProg.lean LOADS. Nothing in Lean hashes anything: it is a label: what it is worth is what the hold of that sum in a sandbox is worth. -/
noncomputable def Try.pinned : Pinned := { name := "qxb6604559a", sum := "02a15494b18439dcfd23dd07a103a23e6b7ee678d21e5e3735ec3b040bca0331", checked := Try.checked }
namespace Rows
def none {H : Type} : Left H := { results := [], args := [] }

/-- 'zzlaws_internal_access_b1.FnPathPodExtendsNamespace': WHATEVER THE INPUT: true; the input reads as it did. -/
def fnPathPodExtendsNamespaceSpec : ChangeSpec := { name := "fnPathPodExtendsNamespace", fn := fun _ => fun
  | [d1, d2, d3, d4, d5, d6, d7] => { results := [.lit (.bool true)], args := [d1, d2, d3, d4, d5, d6, d7] }
  | _ => none }
def fnPathPodExtendsNamespaceRow : OpenClaim := { program := "qxb6604559a", sum := "02a15494b18439dcfd23dd07a103a23e6b7ee678d21e5e3735ec3b040bca0331", func := "example.com/vrata/vrata/zzlaws_internal_access_b1.FnPathPodExtendsNamespace", spec := "fnPathPodExtendsNamespace", apart := false }
def FnPathPodExtendsNamespaceSaid : Prop := fnPathPodExtendsNamespaceRow.holds Try.pinned (OpenSpec.ofChange fnPathPodExtendsNamespaceSpec)

/-- ITS FALSE NEIGHBOUR: 'it returns false'. Refute it at one input. -/
def fnPathPodExtendsNamespaceWrong : ChangeSpec := { name := "fnPathPodExtendsNamespace", fn := fun _ => fun
  | [d1, d2, d3, d4, d5, d6, d7] => { results := [.lit (.bool false)], args := [d1, d2, d3, d4, d5, d6, d7] }
  | _ => none }
def FnPathPodExtendsNamespaceWrongFalsely : Prop := fnPathPodExtendsNamespaceRow.holds Try.pinned (OpenSpec.ofChange fnPathPodExtendsNamespaceWrong)

end Rows
end Go.Proofs.Qxb6604559a
