import Derived.Test.Qxb6618276aFacts
namespace Go.Proofs.Qxb6618276a
open Go.RowKit
set_option linter.unusedVariables false

set_option maxRecDepth 100000 in
set_option maxHeartbeats 1000000 in
theorem split_main (s : ByteArray) (t : Nat) (w : World) (hs : s.size ≤ 1048576) (ht : t ≤ s.size) (hc : Hid (t < s.size → ¬ (128 ≤ gb s t ∧ gb s t ≤ 191))) :
    Calls Try.prog 3 #[.string s, .int .i64 t] w fun e w' => e = .returned (.bool true) ∧ Grown w w' := by
  have hz := shB_size s
  obtain ⟨A, hA⟩ : ∃ A, Hid (shB s = A) := ⟨_, rfl⟩
  have hsz1 : s.size ≤ A.size := by rw [← hA.out]; exact hz.1
  have hsz2 : A.size ≤ 3 * s.size := by rw [← hA.out]; exact hz.2
  clear hz
  obtain ⟨L, hL⟩ : ∃ L, Hid (shB (s.extract 0 t) = L) := ⟨_, rfl⟩
  obtain ⟨R, hR⟩ : ∃ R, Hid (shB (s.extract t s.size) = R) := ⟨_, rfl⟩
  have hALR : A = L ++ R := by rw [← hA.out, ← hL.out, ← hR.out]; exact split_eq s t ht hc.out
  have hadd : L.size + R.size ≤ 3 * s.size := by
    have := congrArg ByteArray.size hALR
    rw [ByteArray.size_append] at this
    omega
  have hEq : (A.toList == (L ++ R).toList) = true := by rw [hALR]; simp
  have hv1 : Hid (vd A.data.toList = true) := by rw [← hA.out]; exact valid_shB s
  have hfin : (A.toList == s.toList) = vd s.data.toList := by rw [← hA.out]; exact same_iff s
  have e1 : (s.extract 0 t).size ≤ 1048576 := by simp; omega
  have e2 : (s.extract t s.size).size ≤ 1048576 := by simp; omega
  have H1 := fun w => zz_any s w hs
  have H2 := fun w => zz_any _ w e1
  have H3 := fun w => zz_any _ w e2
  have H4 := fun w => valid_any A w (by omega)
  have H5 := fun w => valid_any s w (by omega)
  rw [hA.out] at H1
  rw [hL.out] at H2
  rw [hR.out] at H3
  rw [hv1.out] at H4
  have G1 := (show Hid _ from H1)
  have G2 := (show Hid _ from H2)
  have G3 := (show Hid _ from H3)
  have G4 := (show Hid _ from H4)
  have G5 := (show Hid _ from H5)
  clear H1 H2 H3 H4 H5 hALR e1 e2
  obtain ⟨v, hv⟩ : ∃ v, v = vd s.data.toList := ⟨_, rfl⟩
  rw [← hv] at hfin G5
  clear hv hv1
  by_cases hlt : t < s.size
  · obtain ⟨c, hcc⟩ : ∃ c, Hid (gb s t = c) := ⟨_, rfl⟩
    have hix := idx s t c hlt hcc.out
    have hno : ¬ (128 ≤ c ∧ c ≤ 191) := by rw [← hcc.out]; exact hc.out hlt
    by_cases h1 : 128 ≤ c
    · have h2 : 191 < c := by omega
      clear hno
      go_enter Try.func3, Try.ntmps3
      go_wp2_with (go_at_call 5; refine (bytes5_yes s _ _ hs).mono ?_; rintro e w' ⟨rfl, rfl⟩)
      refine (G1.out _).mono ?_
      rintro e w1 ⟨rfl, hC1⟩
      obtain ⟨C1, rfl⟩ := hC1.out
      clear hC1
      go_wp2_with fail
      refine (G2.out _).mono ?_
      rintro e w1 ⟨rfl, hC2⟩
      obtain ⟨C2, rfl⟩ := hC2.out
      clear hC2
      go_wp2_with fail
      refine (G3.out _).mono ?_
      rintro e w1 ⟨rfl, hC3⟩
      obtain ⟨C3, rfl⟩ := hC3.out
      clear hC3
      go_wp2_with fail
      refine (G4.out _).mono ?_
      rintro e w1 ⟨rfl, rfl⟩
      go_wp2_with fail
      refine (G5.out _).mono ?_
      rintro e w1 ⟨rfl, rfl⟩
      go_wp2
      go_ret
      exact ⟨by simp, by repeat (first | exact Grown.refl _ | apply Grown.drew | apply Grown.alloc)⟩
    · clear hno
      go_enter Try.func3, Try.ntmps3
      go_wp2_with (go_at_call 5; refine (bytes5_yes s _ _ hs).mono ?_; rintro e w' ⟨rfl, rfl⟩)
      refine (G1.out _).mono ?_
      rintro e w1 ⟨rfl, hC1⟩
      obtain ⟨C1, rfl⟩ := hC1.out
      clear hC1
      go_wp2_with fail
      refine (G2.out _).mono ?_
      rintro e w1 ⟨rfl, hC2⟩
      obtain ⟨C2, rfl⟩ := hC2.out
      clear hC2
      go_wp2_with fail
      refine (G3.out _).mono ?_
      rintro e w1 ⟨rfl, hC3⟩
      obtain ⟨C3, rfl⟩ := hC3.out
      clear hC3
      go_wp2_with fail
      refine (G4.out _).mono ?_
      rintro e w1 ⟨rfl, rfl⟩
      go_wp2_with fail
      refine (G5.out _).mono ?_
      rintro e w1 ⟨rfl, rfl⟩
      go_wp2
      go_ret
      exact ⟨by simp, by repeat (first | exact Grown.refl _ | apply Grown.drew | apply Grown.alloc)⟩
  · have hge : s.size ≤ t := by omega
    clear hlt
    go_enter Try.func3, Try.ntmps3
    go_wp2_with (go_at_call 5; refine (bytes5_yes s _ _ hs).mono ?_; rintro e w' ⟨rfl, rfl⟩)
    refine (G1.out _).mono ?_
    rintro e w1 ⟨rfl, hC1⟩
    obtain ⟨C1, rfl⟩ := hC1.out
    clear hC1
    go_wp2_with fail
    refine (G2.out _).mono ?_
    rintro e w1 ⟨rfl, hC2⟩
    obtain ⟨C2, rfl⟩ := hC2.out
    clear hC2
    go_wp2_with fail
    refine (G3.out _).mono ?_
    rintro e w1 ⟨rfl, hC3⟩
    obtain ⟨C3, rfl⟩ := hC3.out
    clear hC3
    go_wp2_with fail
    refine (G4.out _).mono ?_
    rintro e w1 ⟨rfl, rfl⟩
    go_wp2_with fail
    refine (G5.out _).mono ?_
    rintro e w1 ⟨rfl, rfl⟩
    go_wp2
    go_ret
    exact ⟨by simp, by repeat (first | exact Grown.refl _ | apply Grown.drew | apply Grown.alloc)⟩
end Go.Proofs.Qxb6618276a
