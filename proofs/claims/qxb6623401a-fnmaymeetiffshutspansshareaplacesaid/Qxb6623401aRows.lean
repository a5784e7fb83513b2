/-
  No cell of these rows narrows 'for every input' (looked for: loops, veiled, ifaces, maps, wideKeys, modest, calm, conditions, laid).
  DERIVED. THE GIVEN ROWS OF THIS SEAT. 1 by the template 'for every input the law returns true; each argument reads behind the call as it read before'; 0 by the template 'total and deterministic' (their statements: Qxb6623401aTotals.lean).
  GIVEN WITH THE SEED: the statements are not yours to turn. If you find one false, say at which input.
  Laid BY PROGRAM, IN A SANDBOX (cutbox-rows.mjs): the forced cells as the released guide's own fill.sh prints them over the translation f906e8172454c8ef… (all of the seat's roots in one cut). By AI agents, Wed Nov 11 2026. No macro, syntax, notation, axiom, sorry.
-/
import Derived.Test.Qxb6623401aChecked
import GoSem.Claim
import GoSem.ClaimJoined
import GoSem.ClaimMapViews
import Derived.JoinedTies
import Derived.KernelRfl
namespace Go.Proofs.Qxb6623401a
/- THE CELL 'sum', in the pinned program and in every row, IS THE sha256 OF THE DUMP (.gsa) THAT Qxb6623401aProg.lean LOADS. Nothing in Lean hashes anything: it is a label: what it is worth is what the hold of that sum in a sandbox is worth. -/
noncomputable def Try.pinned : Pinned := { name := "qxb6623401a", sum := "f906e8172454c8ef38687a2629c6491a432cc76dee9cef0f4b8189fc0724f459", checked := Try.checked }
namespace Rows
def none {H : Type} : Left H := { results := [], args := [] }

/-- 'zzlaws_root_b1.FnMayMeetIffShutSpansShareAPlace': WHATEVER THE INPUT: true; the input reads as it did. -/
def fnMayMeetIffShutSpansShareAPlaceSpec : ChangeSpec := { name := "fnMayMeetIffShutSpansShareAPlace", fn := fun _ => fun
  | [d1, d2, d3, d4, d5, d6, d7, d8, d9, d10] => { results := [.lit (.bool true)], args := [d1, d2, d3, d4, d5, d6, d7, d8, d9, d10] }
  | _ => none }
def fnMayMeetIffShutSpansShareAPlaceRow : OpenClaim := { program := "qxb6623401a", sum := "f906e8172454c8ef38687a2629c6491a432cc76dee9cef0f4b8189fc0724f459", func := "example.com/plain-bylaws/plain-bylaws/zzlaws_root_b1.FnMayMeetIffShutSpansShareAPlace", spec := "fnMayMeetIffShutSpansShareAPlace", apart := false }
def FnMayMeetIffShutSpansShareAPlaceSaid : Prop := fnMayMeetIffShutSpansShareAPlaceRow.holds Try.pinned (OpenSpec.ofChange fnMayMeetIffShutSpansShareAPlaceSpec)

/-- ITS FALSE NEIGHBOUR: 'it returns false'. Refute it at one input. -/
def fnMayMeetIffShutSpansShareAPlaceWrong : ChangeSpec := { name := "fnMayMeetIffShutSpansShareAPlace", fn := fun _ => fun
  | [d1, d2, d3, d4, d5, d6, d7, d8, d9, d10] => { results := [.lit (.bool false)], args := [d1, d2, d3, d4, d5, d6, d7, d8, d9, d10] }
  | _ => none }
def FnMayMeetIffShutSpansShareAPlaceWrongFalsely : Prop := fnMayMeetIffShutSpansShareAPlaceRow.holds Try.pinned (OpenSpec.ofChange fnMayMeetIffShutSpansShareAPlaceWrong)

end Rows
end Go.Proofs.Qxb6623401a
