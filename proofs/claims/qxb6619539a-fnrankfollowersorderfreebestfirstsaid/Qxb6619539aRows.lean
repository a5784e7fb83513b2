/-
  No cell of these rows narrows 'for every input' (looked for: loops, veiled, ifaces, maps, wideKeys, modest, calm, conditions, laid).
  DERIVED. THE GIVEN ROWS OF THIS SEAT. 4 by the template 'for every input the law returns true; each argument reads behind the call as it read before'; 0 by the template 'total and deterministic' (their statements: Qxb6619539aTotals.lean).
  GIVEN WITH THE SEED: the statements are not yours to turn. If you find one false, say at which input.
  Laid BY PROGRAM, IN A SANDBOX (cutbox-rows.mjs): the forced cells as the released guide's own fill.sh prints them over the translation e2da5e43455c48b7… (all of the seat's roots in one cut). By AI agents, Wed Nov 11 2026. No macro, syntax, notation, axiom, sorry.
-/
import Derived.Test.Qxb6619539aChecked
import GoSem.Claim
import GoSem.ClaimJoined
import GoSem.ClaimMapViews
import Derived.JoinedTies
import Derived.KernelRfl
namespace Go.Proofs.Qxb6619539a
/- THE CELL 'sum', in the pinned program and in every row, IS THE sha256 OF THE DUMP (.gsa) THAT Qxb6619539aProg.lean LOADS. Nothing in Lean hashes anything: it is a label: what it is worth is what the hold of that sum in a sandbox is worth. -/
noncomputable def Try.pinned : Pinned := { name := "qxb6619539a", sum := "e2da5e43455c48b72977961475d94bdfb812556ca9f83bee1d337e7e424aa61a", checked := Try.checked }
namespace Rows
def none {H : Type} : Left H := { results := [], args := [] }

/-- 'zzlaws_root_b1.FnRankFollowersIsSortedPermutation': WHATEVER THE INPUT: true; the input reads as it did. -/
def fnRankFollowersIsSortedPermutationSpec : ChangeSpec := { name := "fnRankFollowersIsSortedPermutation", fn := fun _ => fun
  | [d1, d2] => { results := [.lit (.bool true)], args := [d1, d2] }
  | _ => none }
def fnRankFollowersIsSortedPermutationRow : OpenClaim := { program := "qxb6619539a", sum := "e2da5e43455c48b72977961475d94bdfb812556ca9f83bee1d337e7e424aa61a", func := "example.com/forewarn/forewarn/zzlaws_root_b1.FnRankFollowersIsSortedPermutation", spec := "fnRankFollowersIsSortedPermutation", unfollowed := true, recurses := true, apart := false }
def FnRankFollowersIsSortedPermutationSaid : Prop := fnRankFollowersIsSortedPermutationRow.holds Try.pinned (OpenSpec.ofChange fnRankFollowersIsSortedPermutationSpec)

/-- ITS FALSE NEIGHBOUR: 'it returns false'. Refute it at one input. -/
def fnRankFollowersIsSortedPermutationWrong : ChangeSpec := { name := "fnRankFollowersIsSortedPermutation", fn := fun _ => fun
  | [d1, d2] => { results := [.lit (.bool false)], args := [d1, d2] }
  | _ => none }
def FnRankFollowersIsSortedPermutationWrongFalsely : Prop := fnRankFollowersIsSortedPermutationRow.holds Try.pinned (OpenSpec.ofChange fnRankFollowersIsSortedPermutationWrong)

/-- 'zzlaws_root_b1.FnRankFollowersOrderFreeBestFirst': WHATEVER THE INPUT: true; the input reads as it did. -/
def fnRankFollowersOrderFreeBestFirstSpec : ChangeSpec := { name := "fnRankFollowersOrderFreeBestFirst", fn := fun _ => fun
  | [d1, d2, d3] => { results := [.lit (.bool true)], args := [d1, d2, d3] }
  | _ => none }
def fnRankFollowersOrderFreeBestFirstRow : OpenClaim := { program := "qxb6619539a", sum := "e2da5e43455c48b72977961475d94bdfb812556ca9f83bee1d337e7e424aa61a", func := "example.com/forewarn/forewarn/zzlaws_root_b1.FnRankFollowersOrderFreeBestFirst", spec := "fnRankFollowersOrderFreeBestFirst", unfollowed := true, recurses := true, apart := false }
def FnRankFollowersOrderFreeBestFirstSaid : Prop := fnRankFollowersOrderFreeBestFirstRow.holds Try.pinned (OpenSpec.ofChange fnRankFollowersOrderFreeBestFirstSpec)

/-- ITS FALSE NEIGHBOUR: 'it returns false'. Refute it at one input. -/
def fnRankFollowersOrderFreeBestFirstWrong : ChangeSpec := { name := "fnRankFollowersOrderFreeBestFirst", fn := fun _ => fun
  | [d1, d2, d3] => { results := [.lit (.bool false)], args := [d1, d2, d3] }
  | _ => none }
def FnRankFollowersOrderFreeBestFirstWrongFalsely : Prop := fnRankFollowersOrderFreeBestFirstRow.holds Try.pinned (OpenSpec.ofChange fnRankFollowersOrderFreeBestFirstWrong)

/-- 'zzlaws_root_b1.FnClockCompareIs128BitOrder': WHATEVER THE INPUT: true; the input reads as it did. -/
def fnClockCompareIs128BitOrderSpec : ChangeSpec := { name := "fnClockCompareIs128BitOrder", fn := fun _ => fun
  | [d1, d2, d3, d4] => { results := [.lit (.bool true)], args := [d1, d2, d3, d4] }
  | _ => none }
def fnClockCompareIs128BitOrderRow : OpenClaim := { program := "qxb6619539a", sum := "e2da5e43455c48b72977961475d94bdfb812556ca9f83bee1d337e7e424aa61a", func := "example.com/forewarn/forewarn/zzlaws_root_b1.FnClockCompareIs128BitOrder", spec := "fnClockCompareIs128BitOrder", apart := false }
def FnClockCompareIs128BitOrderSaid : Prop := fnClockCompareIs128BitOrderRow.holds Try.pinned (OpenSpec.ofChange fnClockCompareIs128BitOrderSpec)

/-- ITS FALSE NEIGHBOUR: 'it returns false'. Refute it at one input. -/
def fnClockCompareIs128BitOrderWrong : ChangeSpec := { name := "fnClockCompareIs128BitOrder", fn := fun _ => fun
  | [d1, d2, d3, d4] => { results := [.lit (.bool false)], args := [d1, d2, d3, d4] }
  | _ => none }
def FnClockCompareIs128BitOrderWrongFalsely : Prop := fnClockCompareIs128BitOrderRow.holds Try.pinned (OpenSpec.ofChange fnClockCompareIs128BitOrderWrong)

/-- 'zzlaws_root_b1.FnClockCompareShiftInvariant': WHATEVER THE INPUT: true; the input reads as it did. -/
def fnClockCompareShiftInvariantSpec : ChangeSpec := { name := "fnClockCompareShiftInvariant", fn := fun _ => fun
  | [d1, d2, d3, d4, d5, d6] => { results := [.lit (.bool true)], args := [d1, d2, d3, d4, d5, d6] }
  | _ => none }
def fnClockCompareShiftInvariantRow : OpenClaim := { program := "qxb6619539a", sum := "e2da5e43455c48b72977961475d94bdfb812556ca9f83bee1d337e7e424aa61a", func := "example.com/forewarn/forewarn/zzlaws_root_b1.FnClockCompareShiftInvariant", spec := "fnClockCompareShiftInvariant", apart := false }
def FnClockCompareShiftInvariantSaid : Prop := fnClockCompareShiftInvariantRow.holds Try.pinned (OpenSpec.ofChange fnClockCompareShiftInvariantSpec)

/-- ITS FALSE NEIGHBOUR: 'it returns false'. Refute it at one input. -/
def fnClockCompareShiftInvariantWrong : ChangeSpec := { name := "fnClockCompareShiftInvariant", fn := fun _ => fun
  | [d1, d2, d3, d4, d5, d6] => { results := [.lit (.bool false)], args := [d1, d2, d3, d4, d5, d6] }
  | _ => none }
def FnClockCompareShiftInvariantWrongFalsely : Prop := fnClockCompareShiftInvariantRow.holds Try.pinned (OpenSpec.ofChange fnClockCompareShiftInvariantWrong)

end Rows
end Go.Proofs.Qxb6619539a
