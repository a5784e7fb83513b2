/-
  No cell of these rows narrows 'for every input' (looked for: loops, veiled, ifaces, maps, wideKeys, modest, calm, conditions, laid).
  DERIVED. THE GIVEN ROWS OF THIS SEAT. 2 by the template 'for every input the law returns true; each argument reads behind the call as it read before'; 0 by the template 'total and deterministic' (their statements: Qxb6623437aTotals.lean).
  GIVEN WITH THE SEED: the statements are not yours to turn. If you find one false, say at which input.
  Laid BY PROGRAM, IN A SANDBOX (cutbox-rows.mjs): the forced cells as the released guide's own fill.sh prints them over the translation 0e57eb2233782739… (all of the seat's roots in one cut). By AI agents, Wed Nov 11 2026. No macro, syntax, notation, axiom, sorry.
-/
import Derived.Test.Qxb6623437aChecked
import GoSem.Claim
import GoSem.ClaimJoined
import GoSem.ClaimMapViews
import Derived.JoinedTies
import Derived.KernelRfl
namespace Go.Proofs.Qxb6623437a
/- THE CELL 'sum', in the pinned program and in every row, IS THE sha256 OF THE DUMP (.gsa) THAT Qxb6623437aProg.lean LOADS. Nothing in Lean hashes anything: it is a label: what it is worth is what the hold of that sum in a sandbox is worth. -/
noncomputable def Try.pinned : Pinned := { name := "qxb6623437a", sum := "0e57eb2233782739024c577da0065c881a3474d8eca5a72e1687d24f96fb388a", checked := Try.checked }
namespace Rows
def none {H : Type} : Left H := { results := [], args := [] }

/-- 'zzlaws_internal_input_b1.FnHeaderNamesRowCut': WHATEVER THE INPUT: true; the input reads as it did. -/
def fnHeaderNamesRowCutSpec : ChangeSpec := { name := "fnHeaderNamesRowCut", fn := fun _ => fun
  | [d1, d2] => { results := [.lit (.bool true)], args := [d1, d2] }
  | _ => none }
def fnHeaderNamesRowCutRow : OpenClaim := { program := "qxb6623437a", sum := "0e57eb2233782739024c577da0065c881a3474d8eca5a72e1687d24f96fb388a", func := "example.com/clauseward/clauseward/zzlaws_internal_input_b1.FnHeaderNamesRowCut", spec := "fnHeaderNamesRowCut", inPlace := ["internal/abi.NoEscape", "internal/bytealg.MakeNoZero"], apart := false }
def FnHeaderNamesRowCutSaid : Prop := fnHeaderNamesRowCutRow.holds Try.pinned (OpenSpec.ofChange fnHeaderNamesRowCutSpec)

/-- ITS FALSE NEIGHBOUR: 'it returns false'. Refute it at one input. -/
def fnHeaderNamesRowCutWrong : ChangeSpec := { name := "fnHeaderNamesRowCut", fn := fun _ => fun
  | [d1, d2] => { results := [.lit (.bool false)], args := [d1, d2] }
  | _ => none }
def FnHeaderNamesRowCutWrongFalsely : Prop := fnHeaderNamesRowCutRow.holds Try.pinned (OpenSpec.ofChange fnHeaderNamesRowCutWrong)

/-- 'zzlaws_internal_input_b1.FnHeaderNamesCellCut': WHATEVER THE INPUT: true; the input reads as it did. -/
def fnHeaderNamesCellCutSpec : ChangeSpec := { name := "fnHeaderNamesCellCut", fn := fun _ => fun
  | [d1, d2] => { results := [.lit (.bool true)], args := [d1, d2] }
  | _ => none }
def fnHeaderNamesCellCutRow : OpenClaim := { program := "qxb6623437a", sum := "0e57eb2233782739024c577da0065c881a3474d8eca5a72e1687d24f96fb388a", func := "example.com/clauseward/clauseward/zzlaws_internal_input_b1.FnHeaderNamesCellCut", spec := "fnHeaderNamesCellCut", inPlace := ["internal/abi.NoEscape", "internal/bytealg.MakeNoZero"], apart := false }
def FnHeaderNamesCellCutSaid : Prop := fnHeaderNamesCellCutRow.holds Try.pinned (OpenSpec.ofChange fnHeaderNamesCellCutSpec)

/-- ITS FALSE NEIGHBOUR: 'it returns false'. Refute it at one input. -/
def fnHeaderNamesCellCutWrong : ChangeSpec := { name := "fnHeaderNamesCellCut", fn := fun _ => fun
  | [d1, d2] => { results := [.lit (.bool false)], args := [d1, d2] }
  | _ => none }
def FnHeaderNamesCellCutWrongFalsely : Prop := fnHeaderNamesCellCutRow.holds Try.pinned (OpenSpec.ofChange fnHeaderNamesCellCutWrong)

end Rows
end Go.Proofs.Qxb6623437a
