import Derived.Test.Qxb6618295aRows
import Derived.WalkKit
import Derived.WalkSpells
import Derived.WalkLawsBesides
import Derived.ProofKit
import Derived.OpenShut
namespace Go.Proofs.Qxb6618295a
open Go.RowKit
set_option linter.unusedVariables false

set_option maxHeartbeats 400000 in
theorem inv_any (w : World) : Calls Try.prog 4 #[.int .u32 2654435769] w fun e w' => e = .returned (.int .u32 340573321) ∧ w = w' := by
  go_enter Try.func4, Try.ntmps4
  go_wp2
  go_ret
  exact ⟨rfl, rfl⟩

/-- What home gives. -/
def hm (s h : Int) : Int := h * 2654435769 % 4294967296 / 2 ^ min s.toNat 32

theorem pow_pos (n : Nat) : (0 : Int) < 2 ^ n := Int.pow_pos (by decide)

theorem hm_bd (s h : Int) : 0 ≤ hm s h ∧ hm s h < 4294967296 := by
  unfold hm
  have h1 : 0 ≤ h * 2654435769 % 4294967296 := Int.emod_nonneg _ (by decide)
  have h2 : h * 2654435769 % 4294967296 < 4294967296 := Int.emod_lt_of_pos _ (by decide)
  have hp := pow_pos (min s.toNat 32)
  refine ⟨Int.ediv_nonneg h1 (by omega), ?_⟩
  have := Int.ediv_le_self (2 ^ min s.toNat 32) h1
  omega

theorem ret_int {k : IntKind} {a b : Int} (h : a = b) : Ending.returned (.int k a) = .returned (.int k b) := by rw [h]

set_option maxHeartbeats 400000 in
theorem home_any (s h : Int) (w : World) (h0 : 0 ≤ h) (h1 : h < 4294967296) (s0 : 0 ≤ s) (s1 : s ≤ 255) :
    Calls Try.prog 5 #[.int .u8 s, .int .u32 h] w fun e w' => e = .returned (.int .i64 (hm s h)) ∧ Hid (∃ C, w' = w.alloc (.cells C 31)) := by
  go_enter Try.func5, Try.ntmps5
  go_wp2
  go_ret
  refine ⟨ret_int ?_, _, rfl⟩
  have := hm_bd s h
  unfold hm at this ⊢
  exact IntWalk.wrap64_in _ ⟨by omega, by omega⟩

set_option maxHeartbeats 400000 in
theorem law_main (s h M G : Int) (w : World) (h0 : 0 ≤ h) (h1 : h < 4294967296) (s0 : 0 ≤ s) (s1 : s ≤ 255) (hM : Hid (hm 0 h = M)) (hG : Hid (hm s h = G)) (m0 : 0 ≤ M) (m1 : M < 4294967296) (g0 : 0 ≤ G) (g1 : G < 4294967296) (hne : (M * 340573321 % 4294967296 != h) = false) (hsh : (G != M / 2 ^ min s.toNat 64) = false) (htop : Hid (s ≤ 32 → G < wrap64 (2 ^ (32 - s).toNat))) :
    Calls Try.prog 3 #[.int .u8 s, .int .u32 h] w fun e w' => e = .returned (.bool true) ∧ Grown w w' := by
  have H1 := fun w => home_any 0 h w h0 h1 (by omega) (by omega)
  have H2 := fun w => home_any s h w h0 h1 s0 s1
  rw [hM.out] at H1
  rw [hG.out] at H2
  have G1 := (show Hid _ from H1)
  have G2 := (show Hid _ from H2)
  clear H1 H2
  by_cases h32 : s ≤ 32
  · have ht := htop.out h32
    have hsh2 : (G != M / 2 ^ s.toNat) = false := by rw [Nat.min_eq_left (by omega)] at hsh; exact hsh
    clear htop
    go_enter Try.func3, Try.ntmps3
    go_wp2_with (go_at_call 4; refine (inv_any _).mono ?_; rintro e w' ⟨rfl, rfl⟩)
    refine (G1.out _).mono ?_
    rintro e w1 ⟨rfl, hC1⟩
    obtain ⟨C1, rfl⟩ := hC1.out
    clear hC1
    go_wp2_with fail
    refine (G2.out _).mono ?_
    rintro e w1 ⟨rfl, hC2⟩
    obtain ⟨C2, rfl⟩ := hC2.out
    clear hC2
    go_wp2
    go_ret
    exact ⟨rfl, by repeat (first | exact Grown.refl _ | apply Grown.drew | apply Grown.alloc)⟩
  · clear htop
    go_enter Try.func3, Try.ntmps3
    go_wp2_with (go_at_call 4; refine (inv_any _).mono ?_; rintro e w' ⟨rfl, rfl⟩)
    refine (G1.out _).mono ?_
    rintro e w1 ⟨rfl, hC1⟩
    obtain ⟨C1, rfl⟩ := hC1.out
    clear hC1
    go_wp2_with fail
    refine (G2.out _).mono ?_
    rintro e w1 ⟨rfl, hC2⟩
    obtain ⟨C2, rfl⟩ := hC2.out
    clear hC2
    go_wp2
    go_ret
    exact ⟨rfl, by repeat (first | exact Grown.refl _ | apply Grown.drew | apply Grown.alloc)⟩

/-! The plain laws. -/
theorem inv_law (h : Int) (h0 : 0 ≤ h) (h1 : h < 4294967296) : h * 2654435769 % 4294967296 * 340573321 % 4294967296 = h := by omega

theorem pow_le {a b : Nat} (h : a ≤ b) : (2 : Int) ^ a ≤ 2 ^ b := by
  have := Nat.pow_le_pow_right (n := 2) (by decide) h
  exact_mod_cast this

theorem shift_law (K : Int) (n : Nat) (k0 : 0 ≤ K) (k1 : K < 4294967296) : K / 2 ^ min n 32 = K / 2 ^ min n 64 := by
  by_cases h : n ≤ 32
  · rw [Nat.min_eq_left h, Nat.min_eq_left (by omega)]
  · rw [Nat.min_eq_right (by omega)]
    have e1 : K / 2 ^ 32 = 0 := Int.ediv_eq_zero_of_lt k0 (by omega)
    have hp : (2 : Int) ^ 32 ≤ 2 ^ min n 64 := pow_le (by omega)
    have e2 : K / 2 ^ min n 64 = 0 := Int.ediv_eq_zero_of_lt k0 (by omega)
    rw [e1, e2]

theorem top_law (K s : Int) (k0 : 0 ≤ K) (k1 : K < 4294967296) (s0 : 0 ≤ s) (s1 : s ≤ 32) : K / 2 ^ min s.toNat 32 < wrap64 (2 ^ (32 - s).toNat) := by
  have hp : (2 : Int) ^ (32 - s).toNat ≤ 2 ^ 32 := pow_le (by omega)
  have hp0 := pow_pos (32 - s).toNat
  rw [IntWalk.wrap64_in _ ⟨by omega, by omega⟩, Nat.min_eq_left (by omega)]
  apply Int.ediv_lt_of_lt_mul (pow_pos _)
  rw [← Int.pow_add, show (32 - s).toNat + s.toNat = 32 from by omega]
  exact k1

theorem hm_zero (h : Int) : hm 0 h = h * 2654435769 % 4294967296 := by
  unfold hm
  simp

theorem law_any (s h : Int) (w : World) (h0 : 0 ≤ h) (h1 : h < 4294967296) (s0 : 0 ≤ s) (s1 : s ≤ 255) :
    Calls Try.prog 3 #[.int .u8 s, .int .u32 h] w fun e w' => e = .returned (.bool true) ∧ Grown w w' := by
  have bM := hm_bd 0 h
  have bG := hm_bd s h
  refine law_main s h _ _ w h0 h1 s0 s1 rfl rfl bM.1 bM.2 bG.1 bG.2 ?_ ?_ ?_
  · rw [hm_zero, inv_law h h0 h1]
    simp
  · rw [hm_zero]
    unfold hm
    rw [shift_law _ _ (Int.emod_nonneg _ (by decide)) (Int.emod_lt_of_pos _ (by decide))]
    simp
  · intro h32
    exact top_law _ s (Int.emod_nonneg _ (by decide)) (Int.emod_lt_of_pos _ (by decide)) s0 h32
end Go.Proofs.Qxb6618295a
