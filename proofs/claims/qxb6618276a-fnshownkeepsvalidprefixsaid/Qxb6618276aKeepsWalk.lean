import Derived.Test.Qxb6618276aFacts
namespace Go.Proofs.Qxb6618276a
open Go.RowKit
set_option linter.unusedVariables false

set_option maxRecDepth 100000 in
set_option maxHeartbeats 1000000 in
theorem keeps_main (a b : ByteArray) (w : World) (ha : a.size ≤ 524288) (hb : b.size ≤ 524288) (hva : vd a.data.toList = true) :
    Calls Try.prog 4 #[.string a, .string b] w fun e w' => e = .returned (.bool true) ∧ Grown w w' := by
  have hz := shB_size b
  obtain ⟨T, hT⟩ : ∃ T, Hid (shB b = T) := ⟨_, rfl⟩
  have hsz : T.size ≤ 1572864 := by rw [← hT.out]; omega
  clear hz
  obtain ⟨G, hG⟩ : ∃ G, Hid (shB (a ++ b) = G) := ⟨_, rfl⟩
  have hGT : G = a ++ T := by rw [← hG.out, ← hT.out]; exact prefix_eq a b hva
  have hEq : (G.toList == (a ++ T).toList) = true := by rw [hGT]; simp
  have hv1 : Hid (vd T.data.toList = true) := by rw [← hT.out]; exact valid_shB b
  have hsum : a.size + b.size ≤ 1048576 := by omega
  have H1 := fun w => valid_any a w (by omega)
  have H2 := fun w => zz_any (a ++ b) w (by rw [ByteArray.size_append]; exact hsum)
  have H3 := fun w => zz_any b w (by omega)
  have H4 := fun w => valid_any T w (by omega)
  rw [hva] at H1
  rw [hG.out] at H2
  rw [hT.out] at H3
  rw [hv1.out] at H4
  have G1 := (show Hid _ from H1)
  have G2 := (show Hid _ from H2)
  have G3 := (show Hid _ from H3)
  have G4 := (show Hid _ from H4)
  clear H1 H2 H3 H4 hGT hv1 hva
  go_enter Try.func4, Try.ntmps4
  go_wp2_with (go_at_call 8; refine (bytes8_yes a b _ hsum).mono ?_; rintro e w' ⟨rfl, rfl⟩)
  refine (G1.out _).mono ?_
  rintro e w1 ⟨rfl, rfl⟩
  go_wp2_with fail
  refine (G2.out _).mono ?_
  rintro e w1 ⟨rfl, hC1⟩
  obtain ⟨C1, rfl⟩ := hC1.out
  clear hC1
  go_wp2_with fail
  refine (G3.out _).mono ?_
  rintro e w1 ⟨rfl, hC2⟩
  obtain ⟨C2, rfl⟩ := hC2.out
  clear hC2
  go_wp2_with fail
  refine (G4.out _).mono ?_
  rintro e w1 ⟨rfl, rfl⟩
  go_wp2
  go_ret
  exact ⟨rfl, by repeat (first | exact Grown.refl _ | apply Grown.drew | apply Grown.alloc)⟩

set_option maxRecDepth 100000 in
set_option maxHeartbeats 400000 in
theorem keeps_bytes (a b : ByteArray) (w : World) (ha : a.size ≤ 9223372036854775807) (hb : b.size ≤ 9223372036854775807) (h : 1048576 < a.size + b.size) :
    Calls Try.prog 4 #[.string a, .string b] w fun e w' => e = .returned (.bool true) ∧ Grown w w' := by
  go_enter Try.func4, Try.ntmps4
  go_wp2_with (go_at_call 8; refine (bytes8_no a b _ ha hb h).mono ?_; rintro e w' ⟨rfl, rfl⟩)
  go_ret
  exact ⟨rfl, Grown.refl _⟩

set_option maxRecDepth 100000 in
set_option maxHeartbeats 400000 in
theorem keeps_long (a b : ByteArray) (w : World) (hsum : a.size + b.size ≤ 1048576) (h : 524288 < a.size ∨ 524288 < b.size) :
    Calls Try.prog 4 #[.string a, .string b] w fun e w' => e = .returned (.bool true) ∧ Grown w w' := by
  by_cases h1 : 524288 < a.size
  · clear h
    go_enter Try.func4, Try.ntmps4
    go_wp2_with (go_at_call 8; refine (bytes8_yes a b _ hsum).mono ?_; rintro e w' ⟨rfl, rfl⟩)
    go_ret
    exact ⟨rfl, Grown.refl _⟩
  · have h2 : 524288 < b.size := by omega
    clear h
    go_enter Try.func4, Try.ntmps4
    go_wp2_with (go_at_call 8; refine (bytes8_yes a b _ hsum).mono ?_; rintro e w' ⟨rfl, rfl⟩)
    go_ret
    exact ⟨rfl, Grown.refl _⟩

set_option maxRecDepth 100000 in
set_option maxHeartbeats 400000 in
theorem keeps_bad (a b : ByteArray) (w : World) (ha : a.size ≤ 524288) (hb : b.size ≤ 524288) (hva : vd a.data.toList = false) :
    Calls Try.prog 4 #[.string a, .string b] w fun e w' => e = .returned (.bool true) ∧ Grown w w' := by
  have hsum : a.size + b.size ≤ 1048576 := by omega
  have H1 := fun w => valid_any a w (by omega)
  rw [hva] at H1
  have G1 := (show Hid _ from H1)
  clear H1 hva
  go_enter Try.func4, Try.ntmps4
  go_wp2_with (go_at_call 8; refine (bytes8_yes a b _ hsum).mono ?_; rintro e w' ⟨rfl, rfl⟩)
  refine (G1.out _).mono ?_
  rintro e w1 ⟨rfl, rfl⟩
  go_wp2
  go_ret
  exact ⟨rfl, Grown.refl _⟩
end Go.Proofs.Qxb6618276a
