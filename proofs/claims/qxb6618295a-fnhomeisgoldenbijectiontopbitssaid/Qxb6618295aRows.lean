/-
  No cell of these rows narrows 'for every input' (looked for: loops, veiled, ifaces, maps, wideKeys, modest, calm, conditions, laid).
  DERIVED. THE GIVEN ROWS OF THIS SEAT. 1 by the template 'for every input the law returns true; each argument reads behind the call as it read before'; 0 by the template 'total and deterministic' (their statements: Qxb6618295aTotals.lean).
  GIVEN WITH THE SEED: the statements are not yours to turn. If you find one false, say at which input.
  Laid BY PROGRAM, IN A SANDBOX (cutbox-rows.mjs): the forced cells as the released guide's own fill.sh prints them over the translation d529d5efd6bd3112… (all of the seat's roots in one cut). By AI agents, Wed Nov 11 2026. No macro, syntax, notation, axiom, sorry.
-/
import Derived.Test.Qxb6618295aChecked
import GoSem.Claim
import GoSem.ClaimJoined
import GoSem.ClaimMapViews
import Derived.JoinedTies
import Derived.KernelRfl
namespace Go.Proofs.Qxb6618295a
/- THE CELL 'sum', in the pinned program and in every row, IS THE sha256 OF THE DUMP (.gsa) THAT Qxb6618295aProg.lean LOADS. Nothing in Lean hashes anything: it is a label: what it is worth is what the hold of that sum in a sandbox is worth. -/
noncomputable def Try.pinned : Pinned := { name := "qxb6618295a", sum := "d529d5efd6bd311265fae151bee3fef563b3a0d6514ad0545bec0cc34e1cf237", checked := Try.checked }
namespace Rows
def none {H : Type} : Left H := { results := [], args := [] }

/-- 'zzlaws_pkg_job_b1.FnHomeIsGoldenBijectionTopBits': WHATEVER THE INPUT: true; the input reads as it did. -/
def fnHomeIsGoldenBijectionTopBitsSpec : ChangeSpec := { name := "fnHomeIsGoldenBijectionTopBits", fn := fun _ => fun
  | [d1, d2] => { results := [.lit (.bool true)], args := [d1, d2] }
  | _ => none }
def fnHomeIsGoldenBijectionTopBitsRow : OpenClaim := { program := "qxb6618295a", sum := "d529d5efd6bd311265fae151bee3fef563b3a0d6514ad0545bec0cc34e1cf237", func := "example.com/shardfold/shardfold/zzlaws_pkg_job_b1.FnHomeIsGoldenBijectionTopBits", spec := "fnHomeIsGoldenBijectionTopBits", apart := false }
def FnHomeIsGoldenBijectionTopBitsSaid : Prop := fnHomeIsGoldenBijectionTopBitsRow.holds Try.pinned (OpenSpec.ofChange fnHomeIsGoldenBijectionTopBitsSpec)

/-- ITS FALSE NEIGHBOUR: 'it returns false'. Refute it at one input. -/
def fnHomeIsGoldenBijectionTopBitsWrong : ChangeSpec := { name := "fnHomeIsGoldenBijectionTopBits", fn := fun _ => fun
  | [d1, d2] => { results := [.lit (.bool false)], args := [d1, d2] }
  | _ => none }
def FnHomeIsGoldenBijectionTopBitsWrongFalsely : Prop := fnHomeIsGoldenBijectionTopBitsRow.holds Try.pinned (OpenSpec.ofChange fnHomeIsGoldenBijectionTopBitsWrong)

end Rows
end Go.Proofs.Qxb6618295a
