/-
  No cell of these rows narrows 'for every input' (looked for: loops, veiled, ifaces, maps, wideKeys, modest, calm, conditions, laid).
  DERIVED. THE GIVEN ROWS OF THIS SEAT. 2 by the template 'for every input the law returns true; each argument reads behind the call as it read before'; 0 by the template 'total and deterministic' (their statements: Qxb6618276aTotals.lean).
  GIVEN WITH THE SEED: the statements are not yours to turn. If you find one false, say at which input.
  Laid BY PROGRAM, IN A SANDBOX (cutbox-rows.mjs): the forced cells as the released guide's own fill.sh prints them over the translation fafa3bdda331e212… (all of the seat's roots in one cut). By AI agents, Wed Nov 11 2026. No macro, syntax, notation, axiom, sorry.
-/
import Derived.Test.Qxb6618276aChecked
import GoSem.Claim
import GoSem.ClaimJoined
import GoSem.ClaimMapViews
import Derived.JoinedTies
import Derived.KernelRfl
namespace Go.Proofs.Qxb6618276a
/- THE CELL 'sum', in the pinned program and in every row, IS THE sha256 OF THE DUMP (.gsa) THAT Qxb6618276aProg.lean LOADS. Nothing in Lean hashes anything: it is a label: what it is worth is what the hold of that sum in a sandbox is worth. -/
noncomputable def Try.pinned : Pinned := { name := "qxb6618276a", sum := "fafa3bdda331e212b809ec6ecf540712082219f3d77af4e887a1a72242acd3ea", checked := Try.checked }
namespace Rows
def none {H : Type} : Left H := { results := [], args := [] }

/-- 'zzlaws_root_b1.FnShownSplitsAtCharStart': WHATEVER THE INPUT: true; the input reads as it did. -/
def fnShownSplitsAtCharStartSpec : ChangeSpec := { name := "fnShownSplitsAtCharStart", fn := fun _ => fun
  | [d1, d2] => { results := [.lit (.bool true)], args := [d1, d2] }
  | _ => none }
def fnShownSplitsAtCharStartRow : OpenClaim := { program := "qxb6618276a", sum := "fafa3bdda331e212b809ec6ecf540712082219f3d77af4e887a1a72242acd3ea", func := "example.com/faultline/faultline/zzlaws_root_b1.FnShownSplitsAtCharStart", spec := "fnShownSplitsAtCharStart", apart := false }
def FnShownSplitsAtCharStartSaid : Prop := fnShownSplitsAtCharStartRow.holds Try.pinned (OpenSpec.ofChange fnShownSplitsAtCharStartSpec)

/-- ITS FALSE NEIGHBOUR: 'it returns false'. Refute it at one input. -/
def fnShownSplitsAtCharStartWrong : ChangeSpec := { name := "fnShownSplitsAtCharStart", fn := fun _ => fun
  | [d1, d2] => { results := [.lit (.bool false)], args := [d1, d2] }
  | _ => none }
def FnShownSplitsAtCharStartWrongFalsely : Prop := fnShownSplitsAtCharStartRow.holds Try.pinned (OpenSpec.ofChange fnShownSplitsAtCharStartWrong)

/-- 'zzlaws_root_b1.FnShownKeepsValidPrefix': WHATEVER THE INPUT: true; the input reads as it did. -/
def fnShownKeepsValidPrefixSpec : ChangeSpec := { name := "fnShownKeepsValidPrefix", fn := fun _ => fun
  | [d1, d2] => { results := [.lit (.bool true)], args := [d1, d2] }
  | _ => none }
def fnShownKeepsValidPrefixRow : OpenClaim := { program := "qxb6618276a", sum := "fafa3bdda331e212b809ec6ecf540712082219f3d77af4e887a1a72242acd3ea", func := "example.com/faultline/faultline/zzlaws_root_b1.FnShownKeepsValidPrefix", spec := "fnShownKeepsValidPrefix", apart := false }
def FnShownKeepsValidPrefixSaid : Prop := fnShownKeepsValidPrefixRow.holds Try.pinned (OpenSpec.ofChange fnShownKeepsValidPrefixSpec)

/-- ITS FALSE NEIGHBOUR: 'it returns false'. Refute it at one input. -/
def fnShownKeepsValidPrefixWrong : ChangeSpec := { name := "fnShownKeepsValidPrefix", fn := fun _ => fun
  | [d1, d2] => { results := [.lit (.bool false)], args := [d1, d2] }
  | _ => none }
def FnShownKeepsValidPrefixWrongFalsely : Prop := fnShownKeepsValidPrefixRow.holds Try.pinned (OpenSpec.ofChange fnShownKeepsValidPrefixWrong)

end Rows
end Go.Proofs.Qxb6618276a
