import Derived.Test.Qxb6616659aSwapParts
namespace Go.Proofs.Qxb6616659a
open Go.RowKit
set_option linter.unusedVariables false

/-- The world behind Swap. -/
def swapped (w : World) (b i j ci cj : Nat) : World :=
  (((w.setCell ⟨b, i, none⟩ (.pointer (some ⟨cj, 0, none⟩))).setCell ⟨b, j, none⟩ (.pointer (some ⟨ci, 0, none⟩))).setCell ⟨cj, 4, none⟩ (.int .i64 i)).setCell ⟨ci, 4, none⟩ (.int .i64 j)

set_option maxHeartbeats 400000 in
/-- Swap at two places that are one. -/
theorem swap_same (w : World) (b n i c : Nat) (old : Value) (hi : i < n)
    (q : w.cell? ⟨b, i, none⟩ = some (.pointer (some ⟨c, 0, none⟩))) (fq : w.frozen? ⟨b, i, none⟩ = false)
    (x : w.cell? ⟨c, 4, none⟩ = some old) (fx : w.frozen? ⟨c, 4, none⟩ = false) (hne : c ≠ b) :
    Calls Try.prog 6 #[.slice (some ⟨b, 0, none⟩) n n, .int .i64 i, .int .i64 i] w fun e w' => e = .returned (.tuple #[]) ∧
      w'.Alike (swapped w b i i c c) ∧ w'.tape = w.tape := by
  have k0 : (0 : Int) ≤ (i : Int) := by omega
  have k1 : (i : Int) < (n : Int) := by omega
  go_enter Try.func6, Try.ntmps6
  go_wp2
  go_region
  all_goals go_wp2
  go_region
  all_goals (go_end0; exact ⟨rfl, ⟨rfl, rfl, rfl⟩, rfl⟩)

set_option maxHeartbeats 400000 in
/-- Swap at two places. -/
theorem swap_diff (w : World) (b n i j ci cj : Nat) (oi oj : Value) (hi : i < n) (hj : j < n) (hij : i ≠ j)
    (qi : w.cell? ⟨b, i, none⟩ = some (.pointer (some ⟨ci, 0, none⟩))) (fqi : w.frozen? ⟨b, i, none⟩ = false)
    (qj : w.cell? ⟨b, j, none⟩ = some (.pointer (some ⟨cj, 0, none⟩))) (fqj : w.frozen? ⟨b, j, none⟩ = false)
    (xi : w.cell? ⟨ci, 4, none⟩ = some oi) (fxi : w.frozen? ⟨ci, 4, none⟩ = false) (hnei : ci ≠ b)
    (xj : w.cell? ⟨cj, 4, none⟩ = some oj) (fxj : w.frozen? ⟨cj, 4, none⟩ = false) (hnej : cj ≠ b) (hc : ci ≠ cj) :
    Calls Try.prog 6 #[.slice (some ⟨b, 0, none⟩) n n, .int .i64 i, .int .i64 j] w fun e w' => e = .returned (.tuple #[]) ∧
      w'.Alike (swapped w b i j ci cj) ∧ w'.tape = w.tape := by
  have k0 : (0 : Int) ≤ (i : Int) := by omega
  have k1 : (i : Int) < (n : Int) := by omega
  have k2 : (0 : Int) ≤ (j : Int) := by omega
  have k3 : (j : Int) < (n : Int) := by omega
  go_enter Try.func6, Try.ntmps6
  go_wp2
  go_region
  all_goals go_wp2
  go_region
  all_goals (go_end0; exact ⟨rfl, ⟨rfl, rfl, rfl⟩, rfl⟩)
end Go.Proofs.Qxb6616659a
