/-
  No cell of these rows narrows 'for every input' (looked for: loops, veiled, ifaces, maps, wideKeys, modest, calm, conditions, laid).
  DERIVED. THE GIVEN ROWS OF THIS SEAT. 4 by the template 'for every input the law returns true; each argument reads behind the call as it read before'; 0 by the template 'total and deterministic' (their statements: Qxb6604247aTotals.lean).
  GIVEN WITH THE SEED: the statements are not yours to turn. If you find one false, say at which input.
  Laid BY PROGRAM, IN A SANDBOX (cutbox-rows.mjs): the forced cells as the released guide's own fill.sh prints them over the translation 2ad350661a16a0a4… (all of the seat's roots in one cut). By AI agents, Wed Nov 11 2026. No macro, syntax, notation, axiom, sorry.
-/
import Derived.Test.Qxb6604247aChecked
import GoSem.Claim
import GoSem.ClaimJoined
import GoSem.ClaimMapViews
import Derived.JoinedTies
import Derived.KernelRfl
namespace Go.Proofs.Qxb6604247a
/- THE CELL 'sum', in the pinned program and in every row, IS THE sha256 OF THE DUMP (.gsa) THAT Qxb6604247aProg.lean LOADS. Nothing in Lean hashes anything: it is a label: what it is worth is what the hold of that sum in a sandbox is worth. -/
noncomputable def Try.pinned : Pinned := { name := "qxb6604247a", sum := "2ad350661a16a0a49f72a5b90631e1f16835ea063e6965efa494331ecfc3fc86", checked := Try.checked }
namespace Rows
def none {H : Type} : Left H := { results := [], args := [] }

/-- 'zzlaws_internal_routing_b1.FnNormalRouteIsEveryLeastCostRouteInOrder': WHATEVER THE INPUT: true; the input reads as it did. -/
def fnNormalRouteIsEveryLeastCostRouteInOrderSpec : ChangeSpec := { name := "fnNormalRouteIsEveryLeastCostRouteInOrder", fn := fun _ => fun
  | [d] => { results := [.lit (.bool true)], args := [d] }
  | _ => none }
def fnNormalRouteIsEveryLeastCostRouteInOrderRow : OpenClaim := { program := "qxb6604247a", sum := "2ad350661a16a0a49f72a5b90631e1f16835ea063e6965efa494331ecfc3fc86", func := "example.com/wildpoint/wildpoint/zzlaws_internal_routing_b1.FnNormalRouteIsEveryLeastCostRouteInOrder", spec := "fnNormalRouteIsEveryLeastCostRouteInOrder", apart := false }
def FnNormalRouteIsEveryLeastCostRouteInOrderSaid : Prop := fnNormalRouteIsEveryLeastCostRouteInOrderRow.holds Try.pinned (OpenSpec.ofChange fnNormalRouteIsEveryLeastCostRouteInOrderSpec)

/-- ITS FALSE NEIGHBOUR: 'it returns false'. Refute it at one input. -/
def fnNormalRouteIsEveryLeastCostRouteInOrderWrong : ChangeSpec := { name := "fnNormalRouteIsEveryLeastCostRouteInOrder", fn := fun _ => fun
  | [d] => { results := [.lit (.bool false)], args := [d] }
  | _ => none }
def FnNormalRouteIsEveryLeastCostRouteInOrderWrongFalsely : Prop := fnNormalRouteIsEveryLeastCostRouteInOrderRow.holds Try.pinned (OpenSpec.ofChange fnNormalRouteIsEveryLeastCostRouteInOrderWrong)

/-- 'zzlaws_internal_routing_b1.FnOverIsFirstRouteOverLinkset': WHATEVER THE INPUT: true; the input reads as it did. -/
def fnOverIsFirstRouteOverLinksetSpec : ChangeSpec := { name := "fnOverIsFirstRouteOverLinkset", fn := fun _ => fun
  | [d1, d2] => { results := [.lit (.bool true)], args := [d1, d2] }
  | _ => none }
def fnOverIsFirstRouteOverLinksetRow : OpenClaim := { program := "qxb6604247a", sum := "2ad350661a16a0a49f72a5b90631e1f16835ea063e6965efa494331ecfc3fc86", func := "example.com/wildpoint/wildpoint/zzlaws_internal_routing_b1.FnOverIsFirstRouteOverLinkset", spec := "fnOverIsFirstRouteOverLinkset", apart := false }
def FnOverIsFirstRouteOverLinksetSaid : Prop := fnOverIsFirstRouteOverLinksetRow.holds Try.pinned (OpenSpec.ofChange fnOverIsFirstRouteOverLinksetSpec)

/-- ITS FALSE NEIGHBOUR: 'it returns false'. Refute it at one input. -/
def fnOverIsFirstRouteOverLinksetWrong : ChangeSpec := { name := "fnOverIsFirstRouteOverLinkset", fn := fun _ => fun
  | [d1, d2] => { results := [.lit (.bool false)], args := [d1, d2] }
  | _ => none }
def FnOverIsFirstRouteOverLinksetWrongFalsely : Prop := fnOverIsFirstRouteOverLinksetRow.holds Try.pinned (OpenSpec.ofChange fnOverIsFirstRouteOverLinksetWrong)

/-- 'zzlaws_internal_routing_b1.FnOverFindsEachRoutesLinkset': WHATEVER THE INPUT: true; the input reads as it did. -/
def fnOverFindsEachRoutesLinksetSpec : ChangeSpec := { name := "fnOverFindsEachRoutesLinkset", fn := fun _ => fun
  | [d] => { results := [.lit (.bool true)], args := [d] }
  | _ => none }
def fnOverFindsEachRoutesLinksetRow : OpenClaim := { program := "qxb6604247a", sum := "2ad350661a16a0a49f72a5b90631e1f16835ea063e6965efa494331ecfc3fc86", func := "example.com/wildpoint/wildpoint/zzlaws_internal_routing_b1.FnOverFindsEachRoutesLinkset", spec := "fnOverFindsEachRoutesLinkset", apart := false }
def FnOverFindsEachRoutesLinksetSaid : Prop := fnOverFindsEachRoutesLinksetRow.holds Try.pinned (OpenSpec.ofChange fnOverFindsEachRoutesLinksetSpec)

/-- ITS FALSE NEIGHBOUR: 'it returns false'. Refute it at one input. -/
def fnOverFindsEachRoutesLinksetWrong : ChangeSpec := { name := "fnOverFindsEachRoutesLinkset", fn := fun _ => fun
  | [d] => { results := [.lit (.bool false)], args := [d] }
  | _ => none }
def FnOverFindsEachRoutesLinksetWrongFalsely : Prop := fnOverFindsEachRoutesLinksetRow.holds Try.pinned (OpenSpec.ofChange fnOverFindsEachRoutesLinksetWrong)

/-- 'zzlaws_internal_routing_b1.FnCoveredOnOneRouteExactlyWhenAtMostCluster': WHATEVER THE INPUT: true; the input reads as it did. -/
def fnCoveredOnOneRouteExactlyWhenAtMostClusterSpec : ChangeSpec := { name := "fnCoveredOnOneRouteExactlyWhenAtMostCluster", fn := fun _ => fun
  | [d1, d2] => { results := [.lit (.bool true)], args := [d1, d2] }
  | _ => none }
def fnCoveredOnOneRouteExactlyWhenAtMostClusterRow : OpenClaim := { program := "qxb6604247a", sum := "2ad350661a16a0a49f72a5b90631e1f16835ea063e6965efa494331ecfc3fc86", func := "example.com/wildpoint/wildpoint/zzlaws_internal_routing_b1.FnCoveredOnOneRouteExactlyWhenAtMostCluster", spec := "fnCoveredOnOneRouteExactlyWhenAtMostCluster", apart := false }
def FnCoveredOnOneRouteExactlyWhenAtMostClusterSaid : Prop := fnCoveredOnOneRouteExactlyWhenAtMostClusterRow.holds Try.pinned (OpenSpec.ofChange fnCoveredOnOneRouteExactlyWhenAtMostClusterSpec)

/-- ITS FALSE NEIGHBOUR: 'it returns false'. Refute it at one input. -/
def fnCoveredOnOneRouteExactlyWhenAtMostClusterWrong : ChangeSpec := { name := "fnCoveredOnOneRouteExactlyWhenAtMostCluster", fn := fun _ => fun
  | [d1, d2] => { results := [.lit (.bool false)], args := [d1, d2] }
  | _ => none }
def FnCoveredOnOneRouteExactlyWhenAtMostClusterWrongFalsely : Prop := fnCoveredOnOneRouteExactlyWhenAtMostClusterRow.holds Try.pinned (OpenSpec.ofChange fnCoveredOnOneRouteExactlyWhenAtMostClusterWrong)

end Rows
end Go.Proofs.Qxb6604247a
