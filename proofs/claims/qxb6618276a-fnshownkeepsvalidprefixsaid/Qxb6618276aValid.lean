import Derived.Test.Qxb6618276aShown
import Derived.Test.Qxb6618276aBytes
import Derived.Deep.CutRange
import Derived.Deep.CutBlock
namespace Go.Proofs.Qxb6618276a
open Go.RowKit
set_option linter.unusedVariables false

theorem zz_any (s : ByteArray) (w : World) (hs : s.size ≤ 1048576) :
    Calls Try.prog 6 #[.string s] w fun e w' => e = .returned (.string (shB s)) ∧ Hid (∃ C, w' = (w.alloc (.cells C 21)).drew) := by
  go_enter Try.func6, Try.ntmps6
  go_wp2_with (go_at_call 9; refine (shown_any s _ hs).mono ?_; rintro e w' ⟨rfl, hC⟩)
  go_ret
  exact ⟨rfl, hC⟩

theorem gb_at (s : ByteArray) (t : Nat) (h : t < s.size) : (s[t]'h).toNat = gb s t := by
  have h' : t < s.data.size := h
  have e : s.data.toList.getD t 0 = s[t]'h := by
    simp only [List.getD, Array.getElem?_toList, Array.getElem?_eq_getElem h', Option.getD_some]
    rfl
  rw [gb, e]
theorem idx (s : ByteArray) (t : Nat) (c : Nat) (h : t < s.size) (hc : gb s t = c) (w : World) : (Instr.index 9 (.string s) (.int .i64 (t : Int))).run Try.prog w = .ok (.int .u8 (c : Int)) w := by
  rw [run_index_string w 9 s .i64 t Try.underlying9, dif_pos ⟨by omega, by omega⟩]
  have : (s[((t : Int).toNat)]'(by omega)).toNat = gb s t := gb_at s t h
  rw [this, hc]

theorem idx_at (s : ByteArray) (i : Int) (t : Nat) (c : Nat) (hi : i = t) (h : t < s.size) (hc : Hid (gb s t = c)) (w : World) : (Instr.index 9 (.string s) (.int .i64 i)).run Try.prog w = .ok (.int .u8 (c : Int)) w := by
  subst hi; exact idx s t c h hc.out w
theorem ret_no {s : ByteArray} (h : vd s.data.toList = false) : Ending.returned (.bool false) = .returned (.bool (vd s.data.toList)) := by rw [h]
theorem ret_yes {s : ByteArray} (h : vd s.data.toList = true) : Ending.returned (.bool true) = .returned (.bool (vd s.data.toList)) := by rw [h]

theorem class_of {c n L H : Nat} (h : (194 ≤ c ∧ c ≤ 223 ∧ n = 2 ∧ L = 128 ∧ H = 191) ∨ (224 ≤ c ∧ c ≤ 224 ∧ n = 3 ∧ L = 160 ∧ H = 191) ∨ (225 ≤ c ∧ c ≤ 236 ∧ n = 3 ∧ L = 128 ∧ H = 191) ∨ (237 ≤ c ∧ c ≤ 237 ∧ n = 3 ∧ L = 128 ∧ H = 159) ∨
    (238 ≤ c ∧ c ≤ 239 ∧ n = 3 ∧ L = 128 ∧ H = 191) ∨ (240 ≤ c ∧ c ≤ 240 ∧ n = 4 ∧ L = 144 ∧ H = 191) ∨ (241 ≤ c ∧ c ≤ 243 ∧ n = 4 ∧ L = 128 ∧ H = 191) ∨ (244 ≤ c ∧ c ≤ 244 ∧ n = 4 ∧ L = 128 ∧ H = 143)) : sz c = n ∧ lo c = L ∧ hi c = H := by
  refine ⟨?_, ?_, ?_⟩
  · unfold sz; repeat' split
    all_goals omega
  · unfold lo; repeat' split
    all_goals omega
  · unfold hi; repeat' split
    all_goals omega
theorem class_none {c : Nat} (h : (128 ≤ c ∧ c < 194) ∨ 245 ≤ c) : sz c = 0 := by
  unfold sz; repeat' split
  all_goals omega

set_option maxRecDepth 100000 in
set_option maxHeartbeats 400000 in
theorem valid_any (s : ByteArray) (w : World) (hs : s.size ≤ 4194304) :
    Calls Try.prog 7 #[.string s] w fun e w' => e = .returned (.bool (vd s.data.toList)) ∧ w = w' := by
  go_enter Try.func7, Try.ntmps7
  go_wp2
  go_loop [4] (fun i => ∃ k : Nat, k ≤ s.size ∧ i = .int .i64 k ∧ Hid (vd s.data.toList = vd (s.data.toList.drop k))) (fun i => s.size - (intOf i).toNat)
  case atStart => exact ⟨0, Nat.zero_le _, rfl, rfl⟩
  case round =>
    obtain ⟨k, hk, rfl, hv⟩ := hrel
    by_cases hlt : k < s.size
    · obtain ⟨c, hc⟩ : ∃ c, Hid (gb s k = c) := ⟨_, rfl⟩
      have hix := idx s k c hlt hc
      by_cases h1 : c < 128
      · go_wp2
        go_round
        case rel => exact ⟨k + 1, by omega, by go_num, vd_next hv.out (wd_ascii hlt hc.out h1) (by omega)⟩
        case measure => simp [intOf]; omega
      · by_cases h2 : 194 ≤ c
        · go_upto_if 27 with fail
          go_cut [6, 7, 8] from 12 to 94 (fun a b d w' => ∃ n L H : Nat, Hid (sz c = n ∧ lo c = L ∧ hi c = H) ∧ 2 ≤ n ∧ n ≤ 4 ∧ a = .int .i64 n ∧ b = .int .u8 L ∧ d = .int .u8 H ∧ w = w')
          case first =>
            rcases (show (194 ≤ c ∧ c ≤ 223) ∨ (224 ≤ c ∧ c ≤ 224) ∨ (225 ≤ c ∧ c ≤ 236) ∨ (237 ≤ c ∧ c ≤ 237) ∨ (238 ≤ c ∧ c ≤ 238) ∨ (239 ≤ c ∧ c ≤ 239) ∨ (240 ≤ c ∧ c ≤ 240) ∨ (241 ≤ c ∧ c ≤ 243) ∨ (244 ≤ c ∧ c ≤ 244) ∨ 245 ≤ c from by omega) with h | h | h | h | h | h | h | h | h | h
            · obtain ⟨g1, g2⟩ := h
              have e1 : ((c : Int) == 238) = false := by rw [beq_eq_false_iff_ne]; omega
              have e2 : ((c : Int) == 239) = false := by rw [beq_eq_false_iff_ne]; omega
              go_wp2
              go_meet
              case rel => exact ⟨2, 128, 191, class_of (by omega), by omega, by omega, rfl, rfl, rfl, rfl⟩
            · obtain ⟨g1, g2⟩ := h
              have e1 : ((c : Int) == 238) = false := by rw [beq_eq_false_iff_ne]; omega
              have e2 : ((c : Int) == 239) = false := by rw [beq_eq_false_iff_ne]; omega
              go_wp2
              go_meet
              case rel => exact ⟨3, 160, 191, class_of (by omega), by omega, by omega, rfl, rfl, rfl, rfl⟩
            · obtain ⟨g1, g2⟩ := h
              have e1 : ((c : Int) == 238) = false := by rw [beq_eq_false_iff_ne]; omega
              have e2 : ((c : Int) == 239) = false := by rw [beq_eq_false_iff_ne]; omega
              go_wp2
              go_meet
              case rel => exact ⟨3, 128, 191, class_of (by omega), by omega, by omega, rfl, rfl, rfl, rfl⟩
            · obtain ⟨g1, g2⟩ := h
              have e1 : ((c : Int) == 238) = false := by rw [beq_eq_false_iff_ne]; omega
              have e2 : ((c : Int) == 239) = false := by rw [beq_eq_false_iff_ne]; omega
              go_wp2
              go_meet
              case rel => exact ⟨3, 128, 159, class_of (by omega), by omega, by omega, rfl, rfl, rfl, rfl⟩
            · obtain ⟨g1, g2⟩ := h
              have e1 : ((c : Int) == 238) = true := by rw [beq_iff_eq]; omega
              have e2 : ((c : Int) == 239) = false := by rw [beq_eq_false_iff_ne]; omega
              go_wp2
              go_meet
              case rel => exact ⟨3, 128, 191, class_of (by omega), by omega, by omega, rfl, rfl, rfl, rfl⟩
            · obtain ⟨g1, g2⟩ := h
              have e1 : ((c : Int) == 238) = false := by rw [beq_eq_false_iff_ne]; omega
              have e2 : ((c : Int) == 239) = true := by rw [beq_iff_eq]; omega
              go_wp2
              go_meet
              case rel => exact ⟨3, 128, 191, class_of (by omega), by omega, by omega, rfl, rfl, rfl, rfl⟩
            · obtain ⟨g1, g2⟩ := h
              have e1 : ((c : Int) == 238) = false := by rw [beq_eq_false_iff_ne]; omega
              have e2 : ((c : Int) == 239) = false := by rw [beq_eq_false_iff_ne]; omega
              go_wp2
              go_meet
              case rel => exact ⟨4, 144, 191, class_of (by omega), by omega, by omega, rfl, rfl, rfl, rfl⟩
            · obtain ⟨g1, g2⟩ := h
              have e1 : ((c : Int) == 238) = false := by rw [beq_eq_false_iff_ne]; omega
              have e2 : ((c : Int) == 239) = false := by rw [beq_eq_false_iff_ne]; omega
              go_wp2
              go_meet
              case rel => exact ⟨4, 128, 191, class_of (by omega), by omega, by omega, rfl, rfl, rfl, rfl⟩
            · obtain ⟨g1, g2⟩ := h
              have e1 : ((c : Int) == 238) = false := by rw [beq_eq_false_iff_ne]; omega
              have e2 : ((c : Int) == 239) = false := by rw [beq_eq_false_iff_ne]; omega
              go_wp2
              go_meet
              case rel => exact ⟨4, 128, 143, class_of (by omega), by omega, by omega, rfl, rfl, rfl, rfl⟩
            · have e1 : ((c : Int) == 238) = false := by rw [beq_eq_false_iff_ne]; omega
              have e2 : ((c : Int) == 239) = false := by rw [beq_eq_false_iff_ne]; omega
              go_wp2
              go_ret
              exact ⟨ret_no (vd_stop hlt hv.out (wd_lead hlt hc.out (class_none (by omega)))), rfl⟩
          case rest =>
            obtain ⟨n, L, H, hcl, hn2, hn4, rfl, rfl, rfl, rfl⟩ := hcut
            clear hix
            by_cases q1 : n ≤ s.size - k
            · obtain ⟨c1, hc1⟩ : ∃ c1, Hid (gb s (k + 1) = c1) := ⟨_, rfl⟩
              have hix1 := idx_at s ((k : Int) + 1) (k + 1) c1 (by omega) (by omega) hc1
              by_cases q2 : c1 < L
              · go_wp2
                go_ret
                exact ⟨ret_no (vd_stop hlt hv.out fun h => by have := (wd_need hc.out hcl.out.1 hn2 h).2.2.1; rw [hcl.out.2.1, hc1.out] at this; omega), rfl⟩
              · by_cases q3 : H < c1
                · go_wp2
                  go_ret
                  exact ⟨ret_no (vd_stop hlt hv.out fun h => by have := (wd_need hc.out hcl.out.1 hn2 h).2.2.1; rw [hcl.out.2.2, hc1.out] at this; omega), rfl⟩
                · go_wp2
                  clear hix1
                  go_loop [9] (fun v => ∃ j : Nat, 2 ≤ j ∧ j ≤ n ∧ v = .int .i64 j ∧ Hid (∀ t, 2 ≤ t → t < j → 128 ≤ gb s (k + t) ∧ gb s (k + t) ≤ 191)) (fun v => n - (intOf v).toNat)
                  case atStart => exact ⟨2, by omega, hn2, rfl, fun t a b => by omega⟩
                  case round =>
                    obtain ⟨j, hj2, hjn, rfl, hall⟩ := hrel
                    by_cases hj : j < n
                    · obtain ⟨c2, hc2⟩ : ∃ c2, Hid (gb s (k + j) = c2) := ⟨_, rfl⟩
                      have hix2 := idx_at s ((k : Int) + (j : Int)) (k + j) c2 (by omega) (by omega) hc2
                      by_cases q4 : c2 < 128
                      · go_wp2
                        go_ret
                        exact ⟨ret_no (vd_stop hlt hv.out fun h => by have := (wd_need hc.out hcl.out.1 hn2 h).2.2.2 j hj2 hj; rw [hc2.out] at this; omega), rfl⟩
                      · by_cases q5 : 191 < c2
                        · go_wp2
                          go_ret
                          exact ⟨ret_no (vd_stop hlt hv.out fun h => by have := (wd_need hc.out hcl.out.1 hn2 h).2.2.2 j hj2 hj; rw [hc2.out] at this; omega), rfl⟩
                        · go_wp2
                          go_round
                          case rel =>
                            refine ⟨j + 1, by omega, by omega, by go_num, fun t a b => ?_⟩
                            by_cases e : t = j
                            · subst e; rw [hc2.out]; omega
                            · exact hall.out t a (by omega)
                          case measure => simp [intOf]; omega
                    · obtain rfl : j = n := by omega
                      go_wp2
                      go_round
                      case rel => exact ⟨k + j, by omega, by go_num, vd_next hv.out (wd_yes hc.out hcl.out.1 hn2 (by omega) (by rw [hcl.out.2.1, hcl.out.2.2, hc1.out]; omega) hall.out) (by omega)⟩
                      case measure => simp [intOf]; omega
            · go_wp2
              go_ret
              exact ⟨ret_no (vd_stop hlt hv.out fun h => by have := (wd_need hc.out hcl.out.1 hn2 h).2.1; omega), rfl⟩
        · have e1 : ((c : Int) == 238) = false := by rw [beq_eq_false_iff_ne]; omega
          have e2 : ((c : Int) == 239) = false := by rw [beq_eq_false_iff_ne]; omega
          go_wp2
          go_ret
          exact ⟨ret_no (vd_stop hlt hv.out (wd_lead hlt hc.out (class_none (by omega)))), rfl⟩
    · obtain rfl : k = s.size := by omega
      go_wp2
      go_ret
      exact ⟨ret_yes (by rw [hv.out, List.drop_of_length_le (by show s.data.toList.length ≤ s.data.size; simp)]; rfl), rfl⟩
end Go.Proofs.Qxb6618276a
