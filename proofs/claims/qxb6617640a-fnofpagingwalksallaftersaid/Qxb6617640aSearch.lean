import Derived.Test.Qxb6617640aRows
import Derived.Test.Qxb6617640aOrder
import Derived.WalkKit
import Derived.WalkSpells
import Derived.WalkLawsBesides
import Derived.ProofKit
import Derived.OpenShut
import Derived.Below
import Derived.Deep.OwnRows
import Derived.BigQuiet
import Derived.BigRegion
namespace Go.Proofs.Qxb6617640a
open Go.RowKit
set_option linter.unusedVariables false

theorem nan8 (s : ByteArray) (w : World) : Calls Try.prog 8 #[.string s] w fun e w' => e = .returned (.bool false) ∧ w = w' := by
  go_enter Try.func8, Try.ntmps8
  go_wp2
  go_ret
  exact ⟨by simp, rfl⟩

theorem nan9 (s : ByteArray) (w : World) : Calls Try.prog 9 #[.string s] w fun e w' => e = .returned (.bool false) ∧ w = w' := by
  go_enter Try.func9, Try.ntmps9
  go_wp2
  go_ret
  exact ⟨by simp, rfl⟩

theorem less7 (x y : ByteArray) (w : World) : Calls Try.prog 7 #[.string x, .string y] w fun e w' => e = .returned (.bool (ls x y)) ∧ w = w' := by
  go_enter Try.func7, Try.ntmps7
  go_wp2_with (go_at_call 9; refine (nan9 _ _).mono ?_; rintro e w' ⟨rfl, rfl⟩)
  go_ret
  exact ⟨rfl, rfl⟩

/-- What BinarySearch leaves. -/
def SearchPost (S : Nat → ByteArray) (n : Nat) (x : ByteArray) (w : World) (e : Ending) (w' : World) : Prop :=
  ∃ (i : Nat) (f : Bool), e = .returned (.tuple #[.int .i64 i, .bool f]) ∧ w = w' ∧ Found S n x i ∧ (f = true ↔ (i < n ∧ (S i).toList = x.toList))

theorem SearchPost.mk {S : Nat → ByteArray} {n : Nat} {x : ByteArray} {w w' : World} {e : Ending} (i : Nat) (f : Bool) (h1 : e = .returned (.tuple #[.int .i64 i, .bool f])) (h2 : w = w') (h3 : Found S n x i) (h4 : f = true ↔ (i < n ∧ (S i).toList = x.toList)) :
    SearchPost S n x w e w' := ⟨i, f, h1, h2, h3, h4⟩

set_option maxHeartbeats 400000 in
theorem search_any (b off n cap : Nat) (S : Nat → ByteArray) (x : ByteArray) (w : World) (hn : n ≤ 1048576) (hup : Up S n)
    (hc : ∀ t, t < n → w.cell? ⟨b, off + t, none⟩ = some (.string (S t))) :
    Calls Try.prog 6 #[.slice (some ⟨b, off, none⟩) n cap, .string x] w fun e w' => SearchPost S n x w e w' := by
  go_enter Try.func6, Try.ntmps6
  go_wp2
  go_loop [7, 8] (fun u v => ∃ i j : Nat, i ≤ j ∧ j ≤ n ∧ u = .int .i64 i ∧ v = .int .i64 j ∧ Hid (∀ t, t < i → ls (S t) x = true) ∧ Hid (∀ t, j ≤ t → t < n → ls (S t) x = false)) (fun u v => (intOf v).toNat - (intOf u).toNat)
  case atStart => exact ⟨0, n, Nat.zero_le _, Nat.le_refl _, rfl, rfl, fun t ht => by omega, fun t a b => by omega⟩
  case round =>
    obtain ⟨i, j, hij, hj, rfl, rfl, hlo, hhi⟩ := hrel
    by_cases hlt : i < j
    · obtain ⟨h, hh⟩ : ∃ h, Hid ((i + j) / 2 = h) := ⟨_, rfl⟩
      have hh' := hh.out
      have h1 : i ≤ h := by omega
      have h2 : h < j := by omega
      have c1 : w.cell? ⟨b, off + (i + j) / 2, none⟩ = some (.string (S h)) := by rw [hh']; exact hc h (by omega)
      have ei : ((i : Int) + j) / 2 = h := by omega
      have EI : Hid (((i : Int) + j) / 2 = h) := ei
      clear hc hh' ei
      cases hl : ls (S h) x
      · go_wp2_with (go_at_call 7; refine (less7 _ _ _).mono ?_; rintro e w' ⟨rfl, rfl⟩)
        go_round
        case rel =>
          refine ⟨i, h, h1, by omega, rfl, by rw [EI.out], hlo, ?_⟩
          intro t a b
          by_cases e : t = h
          · subst e; exact hl
          · cases ht : ls (S t) x
            · rfl
            · have := bl_trans _ _ _ (hup h t (by omega) b) ht
              unfold ls at hl
              rw [hl] at this
              cases this
        case measure => have := EI.out; simp [intOf]; omega
      · go_wp2_with (go_at_call 7; refine (less7 _ _ _).mono ?_; rintro e w' ⟨rfl, rfl⟩)
        go_round
        case rel =>
          refine ⟨h + 1, j, by omega, hj, by rw [EI.out]; go_num, rfl, ?_, hhi⟩
          intro t a
          by_cases e : t = h
          · subst e; exact hl
          · exact bl_trans _ _ _ (hup t h (by omega) (by omega)) hl
        case measure => have := EI.out; simp [intOf]; omega
    · obtain rfl : i = j := by omega
      by_cases hin : i < n
      · have c1 := hc i hin
        clear hc
        by_cases he : (S i).toList = x.toList
        · have he' : ((S i).toList == x.toList) = true := by simpa using he
          have HE : Hid ((S i).toList = x.toList) := he
          clear he
          go_wp2_with (go_at_call 8; refine (nan8 _ _).mono ?_; rintro e w' ⟨rfl, rfl⟩)
          go_ret2
          exact .mk i true rfl rfl ⟨hj, hlo, hhi⟩ (by simp [hin, HE.out])
        · have he' : ((S i).toList == x.toList) = false := by simpa using he
          have HE : Hid (¬ (S i).toList = x.toList) := he
          clear he
          go_wp2_with (go_at_call 8; refine (nan8 _ _).mono ?_; rintro e w' ⟨rfl, rfl⟩)
          go_ret2
          exact .mk i false rfl rfl ⟨hj, hlo, hhi⟩ (by simp; intro _; exact HE.out)
      · go_wp2
        go_ret2
        exact .mk i false rfl rfl ⟨hj, hlo, hhi⟩ (by simp; omega)
end Go.Proofs.Qxb6617640a
