/-
  No cell of these rows narrows 'for every input' (looked for: loops, veiled, ifaces, maps, wideKeys, modest, calm, conditions, laid).
  DERIVED. THE GIVEN ROWS OF THIS SEAT. 1 by the template 'for every input the law returns true; each argument reads behind the call as it read before'; 0 by the template 'total and deterministic' (their statements: Qxb6616659aTotals.lean).
  GIVEN WITH THE SEED: the statements are not yours to turn. If you find one false, say at which input.
  Laid BY PROGRAM, IN A SANDBOX (cutbox-rows.mjs): the forced cells as the released guide's own fill.sh prints them over the translation 6151f8c0de7bf560… (all of the seat's roots in one cut). By AI agents, Wed Nov 11 2026. No macro, syntax, notation, axiom, sorry.
-/
import Derived.Test.Qxb6616659aChecked
import GoSem.Claim
import GoSem.ClaimJoined
import GoSem.ClaimMapViews
import Derived.JoinedTies
import Derived.KernelRfl
namespace Go.Proofs.Qxb6616659a
/- THE CELL 'sum', in the pinned program and in every row, IS THE sha256 OF THE DUMP (.gsa) THAT Qxb6616659aProg.lean LOADS. Nothing in Lean hashes anything: it is a label: what it is worth is what the hold of that sum in a sandbox is worth. -/
noncomputable def Try.pinned : Pinned := { name := "qxb6616659a", sum := "6151f8c0de7bf5604ede8f0dcc72811a06dddf05177608c966cbd0d9ad3bcf30", checked := Try.checked }
namespace Rows
def none {H : Type} : Left H := { results := [], args := [] }

/-- 'zzlaws_root_b1.FnSwapScriptMatchesPermutation': WHATEVER THE INPUT: true; the input reads as it did. -/
def fnSwapScriptMatchesPermutationSpec : ChangeSpec := { name := "fnSwapScriptMatchesPermutation", fn := fun _ => fun
  | [d1, d2, d3] => { results := [.lit (.bool true)], args := [d1, d2, d3] }
  | _ => none }
def fnSwapScriptMatchesPermutationRow : OpenClaim := { program := "qxb6616659a", sum := "6151f8c0de7bf5604ede8f0dcc72811a06dddf05177608c966cbd0d9ad3bcf30", func := "example.com/gentle-frontier/gentle-frontier/zzlaws_root_b1.FnSwapScriptMatchesPermutation", spec := "fnSwapScriptMatchesPermutation", apart := false }
def FnSwapScriptMatchesPermutationSaid : Prop := fnSwapScriptMatchesPermutationRow.holds Try.pinned (OpenSpec.ofChange fnSwapScriptMatchesPermutationSpec)

/-- ITS FALSE NEIGHBOUR: 'it returns false'. Refute it at one input. -/
def fnSwapScriptMatchesPermutationWrong : ChangeSpec := { name := "fnSwapScriptMatchesPermutation", fn := fun _ => fun
  | [d1, d2, d3] => { results := [.lit (.bool false)], args := [d1, d2, d3] }
  | _ => none }
def FnSwapScriptMatchesPermutationWrongFalsely : Prop := fnSwapScriptMatchesPermutationRow.holds Try.pinned (OpenSpec.ofChange fnSwapScriptMatchesPermutationWrong)

end Rows
end Go.Proofs.Qxb6616659a
