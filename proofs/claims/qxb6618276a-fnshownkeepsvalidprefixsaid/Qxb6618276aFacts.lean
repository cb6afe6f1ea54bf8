import Derived.Test.Qxb6618276aValid
import Derived.Lib.Strings
namespace Go.Proofs.Qxb6618276a
open Go.RowKit
set_option linter.unusedVariables false

/-! The plain laws, said of strings as the walks write them. -/
theorem bytes_ext {a b : ByteArray} (h : a.data.toList = b.data.toList) : a = b := by
  apply ByteArray.ext
  apply Array.ext'
  exact h

theorem shB_size (s : ByteArray) : s.size ≤ (shB s).size ∧ (shB s).size ≤ 3 * s.size := by
  have h := sh_len s.data.toList
  rw [← shB_list] at h
  exact h

theorem split_eq (s : ByteArray) (t : Nat) (ht : t ≤ s.size) (hc : t < s.size → ¬ (128 ≤ gb s t ∧ gb s t ≤ 191)) : shB s = shB (s.extract 0 t) ++ shB (s.extract t s.size) := by
  apply bytes_ext
  rw [ByteArray.data_append, Array.toList_append, shB_list, shB_list, shB_list, Lib.extract_data, Lib.extract_data, List.drop_zero, Nat.sub_zero]
  have hl : s.data.toList.length = s.size := rfl
  rw [List.take_of_length_le (l := s.data.toList.drop t) (by rw [List.length_drop]; omega)]
  refine sh_split _ t (by omega) fun c hx => ?_
  obtain ⟨h1, h2⟩ := List.getElem?_eq_some_iff.1 hx
  have := hc (by omega)
  have e : gb s t = c.toNat := by
    unfold gb
    rw [List.getD, hx, Option.getD_some]
  rw [e] at this
  exact this

theorem prefix_eq (a b : ByteArray) (h : vd a.data.toList = true) : shB (a ++ b) = a ++ shB b := by
  apply bytes_ext
  rw [ByteArray.data_append, Array.toList_append, shB_list, shB_list, ByteArray.data_append, Array.toList_append]
  exact sh_prefix _ _ h

theorem valid_shB (s : ByteArray) : vd (shB s).data.toList = true := by rw [shB_list]; exact vd_sh _

theorem same_iff (s : ByteArray) : ((shB s).toList == s.toList) = vd s.data.toList := by
  rw [ByteArray.toList_eq, ByteArray.toList_eq, shB_list]
  exact (valid_iff _).symm

theorem bytes5_yes (s : ByteArray) (i : Int) (w : World) (h : s.size ≤ 1048576) : Calls Try.prog 5 #[.string s, .int .i64 i] w fun e w' => e = .returned (.bool true) ∧ w = w' := by
  go_enter Try.func5, Try.ntmps5
  go_wp2
  go_ret
  exact ⟨rfl, rfl⟩
theorem bytes5_no (s : ByteArray) (i : Int) (w : World) (h : 1048576 < s.size) : Calls Try.prog 5 #[.string s, .int .i64 i] w fun e w' => e = .returned (.bool false) ∧ w = w' := by
  go_enter Try.func5, Try.ntmps5
  go_wp2
  go_ret
  exact ⟨rfl, rfl⟩
theorem bytes8_yes (a b : ByteArray) (w : World) (h : a.size + b.size ≤ 1048576) : Calls Try.prog 8 #[.string a, .string b] w fun e w' => e = .returned (.bool true) ∧ w = w' := by
  go_enter Try.func8, Try.ntmps8
  go_wp2
  go_ret
  exact ⟨rfl, rfl⟩
theorem bytes8_no (a b : ByteArray) (w : World) (ha : a.size ≤ 9223372036854775807) (hb : b.size ≤ 9223372036854775807) (h : 1048576 < a.size + b.size) : Calls Try.prog 8 #[.string a, .string b] w fun e w' => e = .returned (.bool false) ∧ w = w' := by
  go_enter Try.func8, Try.ntmps8
  go_wp2
  all_goals (go_ret; exact ⟨rfl, rfl⟩)
end Go.Proofs.Qxb6618276a
