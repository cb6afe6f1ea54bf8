import Derived.Test.Qxb6618276aPlain
import Derived.Lib.DecodeN
namespace Go.Proofs.Qxb6618276a
set_option linter.unusedVariables false
open Go.Lib (decodeN)

/-! The model's own decoding and encoding, tied to the plain lists. -/
theorem valid_nat (r : Nat) (h : r < 55296 ∨ (57344 ≤ r ∧ r ≤ 1114111)) : Utf8.valid (r : Int) = true := by
  simp only [Utf8.valid, Bool.or_eq_true, Bool.and_eq_true, decide_eq_true_eq]
  omega
theorem enc1 (r : Nat) (h : r < 128) : (Utf8.encode (r : Int)).data.toList = [UInt8.ofNat r] := by
  have hv := valid_nat r (by omega)
  simp [Utf8.encode, hv, h]
theorem enc2 (r : Nat) (h1 : 128 ≤ r) (h2 : r < 2048) : (Utf8.encode (r : Int)).data.toList = [UInt8.ofNat (192 + r / 64), UInt8.ofNat (128 + r % 64)] := by
  have hv := valid_nat r (by omega)
  simp [Utf8.encode, hv, show ¬ r < 128 by omega, h2]
theorem enc3 (r : Nat) (h1 : 2048 ≤ r) (h2 : r < 65536) (h : r < 55296 ∨ 57344 ≤ r) : (Utf8.encode (r : Int)).data.toList = [UInt8.ofNat (224 + r / 4096), UInt8.ofNat (128 + r / 64 % 64), UInt8.ofNat (128 + r % 64)] := by
  have hv := valid_nat r (by omega)
  simp [Utf8.encode, hv, show ¬ r < 128 by omega, show ¬ r < 2048 by omega, h2]
theorem enc4 (r : Nat) (h1 : 65536 ≤ r) (h2 : r ≤ 1114111) : (Utf8.encode (r : Int)).data.toList = [UInt8.ofNat (240 + r / 262144), UInt8.ofNat (128 + r / 4096 % 64), UInt8.ofNat (128 + r / 64 % 64), UInt8.ofNat (128 + r % 64)] := by
  have hv := valid_nat r (by omega)
  simp [Utf8.encode, hv, show ¬ r < 128 by omega, show ¬ r < 2048 by omega, show ¬ r < 65536 by omega]
theorem enc_bad : (Utf8.encode ((65533 : Nat) : Int)).data.toList = fffd := by
  rw [enc3 65533 (by omega) (by omega) (by omega)]; rfl

theorem of_nat {k : Nat} {a : UInt8} (h : k = a.toNat) : UInt8.ofNat k = a := by subst h; exact UInt8.ofNat_toNat

/-- The model's decoding at a list's head. -/
def dn (l : List UInt8) : Nat × Nat := decodeN l.length (l.getD 0 0).toNat (l.getD 1 0).toNat (l.getD 2 0).toNat (l.getD 3 0).toNat

theorem sz_two {a : Nat} (h : sz a = 2) : 194 ≤ a ∧ a ≤ 223 := by
  unfold sz at h; split at h <;> (try split at h) <;> (try split at h) <;> (try split at h) <;> omega
theorem sz_three {a : Nat} (h : sz a = 3) : 224 ≤ a ∧ a ≤ 239 := by
  unfold sz at h; split at h <;> (try split at h) <;> (try split at h) <;> (try split at h) <;> omega
theorem sz_four {a : Nat} (h : sz a = 4) : 240 ≤ a ∧ a ≤ 244 := by
  unfold sz at h; split at h <;> (try split at h) <;> (try split at h) <;> (try split at h) <;> omega
theorem sz_one {a : Nat} (h : sz a = 1) : a < 128 := by
  unfold sz at h; split at h <;> (try split at h) <;> (try split at h) <;> (try split at h) <;> omega

theorem tie_good {l : List UInt8} (h : 0 < wd l) : ∃ r, dn l = (r, wd l) ∧ (Utf8.encode (r : Int)).data.toList = l.take (wd l) := by
  rcases wd_parts h with ⟨a, q, rfl, h1, h2⟩ | ⟨a, b, q, rfl, h1, h2, h3, h4, h5⟩
  · have := sz_one h2
    refine ⟨a.toNat, ?_, ?_⟩
    · rw [h1]; simp [dn, decodeN, this]
    · rw [enc1 _ this, h1]; simp
  · rw [h1]
    have h44 := sz_le a.toNat
    have hb := UInt8.toNat_lt b
    rcases (show sz a.toNat = 2 ∨ sz a.toNat = 3 ∨ sz a.toNat = 4 by omega) with e | e | e
    · have ha := sz_two e
      rw [e] at h4 h5 ⊢
      have hlo : lo a.toNat = 128 := by unfold lo; rw [if_neg (by omega), if_neg (by omega)]
      have hhi : hi a.toNat = 191 := by unfold hi; rw [if_neg (by omega), if_neg (by omega)]
      rw [hlo, hhi] at h3
      refine ⟨a.toNat % 32 * 64 + b.toNat % 64, ?_, ?_⟩
      · simp only [dn, decodeN, List.length_cons, List.getD_cons_zero, List.getD_cons_succ]
        rw [if_neg (by omega), if_pos (by omega), if_pos (by omega)]
      · rw [enc2 _ (by omega) (by omega), of_nat (a := a) (by omega), of_nat (a := b) (by omega)]
        rfl
    · have ha := sz_three e
      rw [e] at h4 h5 ⊢
      match q, h4, h5 with
      | c :: q, h4, h5 =>
        simp only [List.take_succ_cons, List.take_zero, List.all_cons, List.all_nil, Bool.and_true, cont, Bool.and_eq_true, decide_eq_true_eq] at h5
        have hlo : 128 ≤ lo a.toNat ∧ (a.toNat = 224 → lo a.toNat = 160) := by
          unfold lo; repeat' split
          all_goals omega
        have hhi : hi a.toNat ≤ 191 ∧ (a.toNat = 237 → hi a.toNat = 159) := by
          unfold hi; repeat' split
          all_goals omega
        refine ⟨a.toNat % 16 * 4096 + b.toNat % 64 * 64 + c.toNat % 64, ?_, ?_⟩
        · simp only [dn, decodeN, List.length_cons, List.getD_cons_zero, List.getD_cons_succ]
          rw [if_neg (by omega), if_neg (by omega), if_pos (by omega), if_pos (by omega)]
        · rw [enc3 _ (by omega) (by omega) (by omega), of_nat (a := a) (by omega), of_nat (a := b) (by omega), of_nat (a := c) (by omega)]
          rfl
    · have ha := sz_four e
      rw [e] at h4 h5 ⊢
      match q, h4, h5 with
      | c :: d :: q, h4, h5 =>
        simp only [List.take_succ_cons, List.take_zero, List.all_cons, List.all_nil, Bool.and_true, cont, Bool.and_eq_true, decide_eq_true_eq] at h5
        have hlo : 128 ≤ lo a.toNat ∧ (a.toNat = 240 → lo a.toNat = 144) := by
          unfold lo; repeat' split
          all_goals omega
        have hhi : hi a.toNat ≤ 191 ∧ (a.toNat = 244 → hi a.toNat = 143) := by
          unfold hi; repeat' split
          all_goals omega
        refine ⟨a.toNat % 8 * 262144 + b.toNat % 64 * 4096 + c.toNat % 64 * 64 + d.toNat % 64, ?_, ?_⟩
        · simp only [dn, decodeN, List.length_cons, List.getD_cons_zero, List.getD_cons_succ]
          rw [if_neg (by omega), if_neg (by omega), if_neg (by omega), if_pos (by omega), if_pos (by omega)]
        · rw [enc4 _ (by omega) (by omega), of_nat (a := a) (by omega), of_nat (a := b) (by omega), of_nat (a := c) (by omega), of_nat (a := d) (by omega)]
          rfl

theorem wd_of {a b : UInt8} {q : List UInt8} (h2 : 2 ≤ sz a.toNat) (h3 : lo a.toNat ≤ b.toNat ∧ b.toNat ≤ hi a.toNat) (h4 : (q.take (sz a.toNat - 2)).length = sz a.toNat - 2) (h5 : (q.take (sz a.toNat - 2)).all cont = true) : wd (a :: b :: q) = sz a.toNat := by
  simp only [wd]
  rw [if_neg (by omega), if_pos ⟨h3, h4, h5⟩]

theorem tie_bad {l : List UInt8} (e : l ≠ []) (h : wd l = 0) : dn l = (65533, 1) := by
  match l, e with
  | a :: r, _ =>
    have h0 : ¬ a.toNat < 128 := by
      intro ha
      have : sz a.toNat = 1 := by unfold sz; rw [if_pos ha]
      cases r <;> simp [wd, this] at h
    simp only [dn, List.length_cons, List.getD_cons_zero, List.getD_cons_succ]
    unfold decodeN
    rw [if_neg h0]
    match r with
    | [] => simp
    | [b] =>
      simp only [List.length_cons, List.length_nil, List.getD_cons_zero, List.getD_cons_succ, List.getD_nil]
      by_cases c2 : a.toNat / 32 = 6 ∧ (1 < 0 + 1 + 1 ∧ b.toNat / 64 = 2)
      · rw [if_pos c2]
        by_cases c3 : a.toNat % 32 * 64 + b.toNat % 64 ≥ 128
        · exfalso
          have hs : sz a.toNat = 2 := by unfold sz; rw [if_neg h0, if_pos (by omega)]
          have hl : lo a.toNat = 128 := by unfold lo; rw [if_neg (by omega), if_neg (by omega)]
          have hh : hi a.toNat = 191 := by unfold hi; rw [if_neg (by omega), if_neg (by omega)]
          have := wd_of (a := a) (b := b) (q := []) (by omega) (by omega) (by rw [hs]; rfl) (by rw [hs]; rfl)
          omega
        · rw [if_neg c3]
      · rw [if_neg c2, if_neg (by omega), if_neg (by omega)]
    | [b, c] =>
      simp only [List.length_cons, List.length_nil, List.getD_cons_zero, List.getD_cons_succ, List.getD_nil]
      by_cases c2 : a.toNat / 32 = 6 ∧ (1 < 0 + 1 + 1 + 1 ∧ b.toNat / 64 = 2)
      · rw [if_pos c2]
        by_cases c3 : a.toNat % 32 * 64 + b.toNat % 64 ≥ 128
        · exfalso
          have hs : sz a.toNat = 2 := by unfold sz; rw [if_neg h0, if_pos (by omega)]
          have hl : lo a.toNat = 128 := by unfold lo; rw [if_neg (by omega), if_neg (by omega)]
          have hh : hi a.toNat = 191 := by unfold hi; rw [if_neg (by omega), if_neg (by omega)]
          have := wd_of (a := a) (b := b) (q := [c]) (by omega) (by omega) (by rw [hs]; rfl) (by rw [hs]; rfl)
          omega
        · rw [if_neg c3]
      · rw [if_neg c2]
        by_cases c4 : a.toNat / 16 = 14 ∧ (1 < 0 + 1 + 1 + 1 ∧ b.toNat / 64 = 2) ∧ (2 < 0 + 1 + 1 + 1 ∧ c.toNat / 64 = 2)
        · rw [if_pos c4]
          refine if_neg fun c5 => ?_
          have hs : sz a.toNat = 3 := by unfold sz; rw [if_neg h0, if_neg (by omega), if_pos (by omega)]
          have hl : lo a.toNat ≤ b.toNat := by unfold lo; repeat' split
                                               all_goals omega
          have hh : b.toNat ≤ hi a.toNat := by unfold hi; repeat' split
                                               all_goals omega
          have := wd_of (a := a) (b := b) (q := [c]) (by omega) ⟨hl, hh⟩ (by rw [hs]; rfl) (by rw [hs]; simp [cont]; omega)
          omega
        · rw [if_neg c4, if_neg (by omega)]
    | b :: c :: d :: q =>
      simp only [List.length_cons, List.getD_cons_zero, List.getD_cons_succ]
      by_cases c2 : a.toNat / 32 = 6 ∧ (1 < q.length + 1 + 1 + 1 + 1 ∧ b.toNat / 64 = 2)
      · rw [if_pos c2]
        by_cases c3 : a.toNat % 32 * 64 + b.toNat % 64 ≥ 128
        · exfalso
          have hs : sz a.toNat = 2 := by unfold sz; rw [if_neg h0, if_pos (by omega)]
          have hl : lo a.toNat = 128 := by unfold lo; rw [if_neg (by omega), if_neg (by omega)]
          have hh : hi a.toNat = 191 := by unfold hi; rw [if_neg (by omega), if_neg (by omega)]
          have := wd_of (a := a) (b := b) (q := c :: d :: q) (by omega) (by omega) (by rw [hs]; rfl) (by rw [hs]; rfl)
          omega
        · rw [if_neg c3]
      · rw [if_neg c2]
        by_cases c4 : a.toNat / 16 = 14 ∧ (1 < q.length + 1 + 1 + 1 + 1 ∧ b.toNat / 64 = 2) ∧ (2 < q.length + 1 + 1 + 1 + 1 ∧ c.toNat / 64 = 2)
        · rw [if_pos c4]
          refine if_neg fun c5 => ?_
          have hs : sz a.toNat = 3 := by unfold sz; rw [if_neg h0, if_neg (by omega), if_pos (by omega)]
          have hl : lo a.toNat ≤ b.toNat := by unfold lo; repeat' split
                                               all_goals omega
          have hh : b.toNat ≤ hi a.toNat := by unfold hi; repeat' split
                                               all_goals omega
          have := wd_of (a := a) (b := b) (q := c :: d :: q) (by omega) ⟨hl, hh⟩ (by rw [hs]; rfl) (by rw [hs]; simp [cont]; omega)
          omega
        · rw [if_neg c4]
          by_cases c6 : a.toNat / 8 = 30 ∧ (1 < q.length + 1 + 1 + 1 + 1 ∧ b.toNat / 64 = 2) ∧ (2 < q.length + 1 + 1 + 1 + 1 ∧ c.toNat / 64 = 2) ∧ (3 < q.length + 1 + 1 + 1 + 1 ∧ d.toNat / 64 = 2)
          · rw [if_pos c6]
            refine if_neg fun c5 => ?_
            have hs : sz a.toNat = 4 := by unfold sz; rw [if_neg h0, if_neg (by omega), if_neg (by omega), if_pos (by omega)]
            have hl : lo a.toNat ≤ b.toNat := by unfold lo; repeat' split
                                                 all_goals omega
            have hh : b.toNat ≤ hi a.toNat := by unfold hi; repeat' split
                                                 all_goals omega
            have := wd_of (a := a) (b := b) (q := c :: d :: q) (by omega) ⟨hl, hh⟩ (by rw [hs]; rfl) (by rw [hs]; simp [cont]; omega)
            omega
          · rw [if_neg c6]

theorem getD_get (s : ByteArray) (i : Nat) : s.data.toList.getD i 0 = s.get! i := by
  cases s with
  | mk d =>
    show d.toList.getD i 0 = d[i]!
    by_cases h : i < d.size
    · rw [getElem!_pos d i h]; simp [List.getD, h]
    · rw [getElem!_neg d i h]; simp [List.getD, h]; rfl
theorem getD_drop (l : List UInt8) (p k : Nat) : (l.drop p).getD k 0 = l.getD (p + k) 0 := by simp [List.getD, List.getElem?_drop]

/-- It is the model's. -/
theorem decode_dn (s : ByteArray) (i : Nat) : Utf8.decode s i = dn (s.data.toList.drop i) := by
  rw [Go.Lib.decode_at, dn, getD_drop, getD_drop, getD_drop, getD_drop, getD_get, getD_get, getD_get, getD_get, Nat.add_zero, List.length_drop]
  rfl
end Go.Proofs.Qxb6618276a
