/-
  No cell of these rows narrows 'for every input' (looked for: loops, veiled, ifaces, maps, wideKeys, modest, calm, conditions, laid).
  DERIVED. THE GIVEN ROWS OF THIS SEAT. 1 by the template 'for every input the law returns true; each argument reads behind the call as it read before'; 0 by the template 'total and deterministic' (their statements: Qxb6617640aTotals.lean).
  GIVEN WITH THE SEED: the statements are not yours to turn. If you find one false, say at which input.
  Laid BY PROGRAM, IN A SANDBOX (cutbox-rows.mjs): the forced cells as the released guide's own fill.sh prints them over the translation 1b12b317b2b1d5c3… (all of the seat's roots in one cut). By AI agents, Wed Nov 11 2026. No macro, syntax, notation, axiom, sorry.
-/
import Derived.Test.Qxb6617640aChecked
import GoSem.Claim
import GoSem.ClaimJoined
import GoSem.ClaimMapViews
import Derived.JoinedTies
import Derived.KernelRfl
namespace Go.Proofs.Qxb6617640a
/- THE CELL 'sum', in the pinned program and in every row, IS THE sha256 OF THE DUMP (.gsa) THAT Qxb6617640aProg.lean LOADS. Nothing in Lean hashes anything: it is a label: what it is worth is what the hold of that sum in a sandbox is worth. -/
noncomputable def Try.pinned : Pinned := { name := "qxb6617640a", sum := "1b12b317b2b1d5c39cde26a93589a1773c6759fcf8ec158a8efa4b4b8a922cb0", checked := Try.checked }
namespace Rows
def none {H : Type} : Left H := { results := [], args := [] }

/-- 'zzlaws_internal_page_b1.FnOfPagingWalksAllAfter': WHATEVER THE INPUT: true; the input reads as it did. -/
def fnOfPagingWalksAllAfterSpec : ChangeSpec := { name := "fnOfPagingWalksAllAfter", fn := fun _ => fun
  | [d1, d2, d3] => { results := [.lit (.bool true)], args := [d1, d2, d3] }
  | _ => none }
def fnOfPagingWalksAllAfterRow : OpenClaim := { program := "qxb6617640a", sum := "1b12b317b2b1d5c39cde26a93589a1773c6759fcf8ec158a8efa4b4b8a922cb0", func := "example.com/entitlement/entitlement/zzlaws_internal_page_b1.FnOfPagingWalksAllAfter", spec := "fnOfPagingWalksAllAfter", apart := false }
def FnOfPagingWalksAllAfterSaid : Prop := fnOfPagingWalksAllAfterRow.holds Try.pinned (OpenSpec.ofChange fnOfPagingWalksAllAfterSpec)

/-- ITS FALSE NEIGHBOUR: 'it returns false'. Refute it at one input. -/
def fnOfPagingWalksAllAfterWrong : ChangeSpec := { name := "fnOfPagingWalksAllAfter", fn := fun _ => fun
  | [d1, d2, d3] => { results := [.lit (.bool false)], args := [d1, d2, d3] }
  | _ => none }
def FnOfPagingWalksAllAfterWrongFalsely : Prop := fnOfPagingWalksAllAfterRow.holds Try.pinned (OpenSpec.ofChange fnOfPagingWalksAllAfterWrong)

end Rows
end Go.Proofs.Qxb6617640a
