/-
  No cell of these rows narrows 'for every input' (looked for: loops, veiled, ifaces, maps, wideKeys, modest, calm, conditions, laid).
  DERIVED. THE GIVEN ROWS OF THIS SEAT. 4 by the template 'for every input the law returns true; each argument reads behind the call as it read before'; 0 by the template 'total and deterministic' (their statements: Qxb6604108aTotals.lean).
  GIVEN WITH THE SEED: the statements are not yours to turn. If you find one false, say at which input.
  Laid BY PROGRAM, IN A SANDBOX (cutbox-rows.mjs): the forced cells as the released guide's own fill.sh prints them over the translation d49312935ad7ae1f… (all of the seat's roots in one cut). By AI agents, Wed Nov 11 2026. No macro, syntax, notation, axiom, sorry.
-/
import Derived.Test.Qxb6604108aChecked
import GoSem.Claim
import GoSem.ClaimJoined
import GoSem.ClaimMapViews
import Derived.JoinedTies
import Derived.KernelRfl
namespace Go.Proofs.Qxb6604108a
/- THE CELL 'sum', in the pinned program and in every row, IS THE sha256 OF THE DUMP (.gsa) THAT Qxb6604108aProg.lean LOADS. Nothing in Lean hashes anything: it is a label: what it is worth is what the hold of that sum in a sandbox is worth. -/
noncomputable def Try.pinned : Pinned := { name := "qxb6604108a", sum := "d49312935ad7ae1f56b61ed21d67ad4a8fbc25acd6e947a2679ea2fa981c612a", checked := Try.checked }
namespace Rows
def none {H : Type} : Left H := { results := [], args := [] }

/-- 'zzlaws_root_b1.FnHoldSharesEqualListsAndCountsThem': WHATEVER THE INPUT: true; the input reads as it did. -/
def fnHoldSharesEqualListsAndCountsThemSpec : ChangeSpec := { name := "fnHoldSharesEqualListsAndCountsThem", fn := fun _ => fun
  | [d] => { results := [.lit (.bool true)], args := [d] }
  | _ => none }
def fnHoldSharesEqualListsAndCountsThemRow : OpenClaim := { program := "qxb6604108a", sum := "d49312935ad7ae1f56b61ed21d67ad4a8fbc25acd6e947a2679ea2fa981c612a", func := "example.com/contagion/contagion/zzlaws_root_b1.FnHoldSharesEqualListsAndCountsThem", spec := "fnHoldSharesEqualListsAndCountsThem", plainKeys := false, apart := false }
def FnHoldSharesEqualListsAndCountsThemSaid : Prop := fnHoldSharesEqualListsAndCountsThemRow.holds Try.pinned (OpenSpec.ofChange fnHoldSharesEqualListsAndCountsThemSpec)

/-- ITS FALSE NEIGHBOUR: 'it returns false'. Refute it at one input. -/
def fnHoldSharesEqualListsAndCountsThemWrong : ChangeSpec := { name := "fnHoldSharesEqualListsAndCountsThem", fn := fun _ => fun
  | [d] => { results := [.lit (.bool false)], args := [d] }
  | _ => none }
def FnHoldSharesEqualListsAndCountsThemWrongFalsely : Prop := fnHoldSharesEqualListsAndCountsThemRow.holds Try.pinned (OpenSpec.ofChange fnHoldSharesEqualListsAndCountsThemWrong)

/-- 'zzlaws_root_b1.FnHoldSeparatesAReversedList': WHATEVER THE INPUT: true; the input reads as it did. -/
def fnHoldSeparatesAReversedListSpec : ChangeSpec := { name := "fnHoldSeparatesAReversedList", fn := fun _ => fun
  | [d] => { results := [.lit (.bool true)], args := [d] }
  | _ => none }
def fnHoldSeparatesAReversedListRow : OpenClaim := { program := "qxb6604108a", sum := "d49312935ad7ae1f56b61ed21d67ad4a8fbc25acd6e947a2679ea2fa981c612a", func := "example.com/contagion/contagion/zzlaws_root_b1.FnHoldSeparatesAReversedList", spec := "fnHoldSeparatesAReversedList", plainKeys := false, apart := false }
def FnHoldSeparatesAReversedListSaid : Prop := fnHoldSeparatesAReversedListRow.holds Try.pinned (OpenSpec.ofChange fnHoldSeparatesAReversedListSpec)

/-- ITS FALSE NEIGHBOUR: 'it returns false'. Refute it at one input. -/
def fnHoldSeparatesAReversedListWrong : ChangeSpec := { name := "fnHoldSeparatesAReversedList", fn := fun _ => fun
  | [d] => { results := [.lit (.bool false)], args := [d] }
  | _ => none }
def FnHoldSeparatesAReversedListWrongFalsely : Prop := fnHoldSeparatesAReversedListRow.holds Try.pinned (OpenSpec.ofChange fnHoldSeparatesAReversedListWrong)

/-- 'zzlaws_root_b1.FnReleaseMatchesHolderModel': WHATEVER THE INPUT: true; the input reads as it did. -/
def fnReleaseMatchesHolderModelSpec : ChangeSpec := { name := "fnReleaseMatchesHolderModel", fn := fun _ => fun
  | [d1, d2] => { results := [.lit (.bool true)], args := [d1, d2] }
  | _ => none }
def fnReleaseMatchesHolderModelRow : OpenClaim := { program := "qxb6604108a", sum := "d49312935ad7ae1f56b61ed21d67ad4a8fbc25acd6e947a2679ea2fa981c612a", func := "example.com/contagion/contagion/zzlaws_root_b1.FnReleaseMatchesHolderModel", spec := "fnReleaseMatchesHolderModel", unfollowed := true, recurses := true, plainKeys := false, apart := false }
def FnReleaseMatchesHolderModelSaid : Prop := fnReleaseMatchesHolderModelRow.holds Try.pinned (OpenSpec.ofChange fnReleaseMatchesHolderModelSpec)

/-- ITS FALSE NEIGHBOUR: 'it returns false'. Refute it at one input. -/
def fnReleaseMatchesHolderModelWrong : ChangeSpec := { name := "fnReleaseMatchesHolderModel", fn := fun _ => fun
  | [d1, d2] => { results := [.lit (.bool false)], args := [d1, d2] }
  | _ => none }
def FnReleaseMatchesHolderModelWrongFalsely : Prop := fnReleaseMatchesHolderModelRow.holds Try.pinned (OpenSpec.ofChange fnReleaseMatchesHolderModelWrong)

/-- 'zzlaws_root_b1.FnReleaseAfterHoldEmptiesTheCache': WHATEVER THE INPUT: true; the input reads as it did. -/
def fnReleaseAfterHoldEmptiesTheCacheSpec : ChangeSpec := { name := "fnReleaseAfterHoldEmptiesTheCache", fn := fun _ => fun
  | [d] => { results := [.lit (.bool true)], args := [d] }
  | _ => none }
def fnReleaseAfterHoldEmptiesTheCacheRow : OpenClaim := { program := "qxb6604108a", sum := "d49312935ad7ae1f56b61ed21d67ad4a8fbc25acd6e947a2679ea2fa981c612a", func := "example.com/contagion/contagion/zzlaws_root_b1.FnReleaseAfterHoldEmptiesTheCache", spec := "fnReleaseAfterHoldEmptiesTheCache", unfollowed := true, recurses := true, plainKeys := false, apart := false }
def FnReleaseAfterHoldEmptiesTheCacheSaid : Prop := fnReleaseAfterHoldEmptiesTheCacheRow.holds Try.pinned (OpenSpec.ofChange fnReleaseAfterHoldEmptiesTheCacheSpec)

/-- ITS FALSE NEIGHBOUR: 'it returns false'. Refute it at one input. -/
def fnReleaseAfterHoldEmptiesTheCacheWrong : ChangeSpec := { name := "fnReleaseAfterHoldEmptiesTheCache", fn := fun _ => fun
  | [d] => { results := [.lit (.bool false)], args := [d] }
  | _ => none }
def FnReleaseAfterHoldEmptiesTheCacheWrongFalsely : Prop := fnReleaseAfterHoldEmptiesTheCacheRow.holds Try.pinned (OpenSpec.ofChange fnReleaseAfterHoldEmptiesTheCacheWrong)

end Rows
end Go.Proofs.Qxb6604108a
