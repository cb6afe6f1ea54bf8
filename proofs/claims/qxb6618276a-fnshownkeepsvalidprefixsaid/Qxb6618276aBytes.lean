import Derived.Test.Qxb6618276aTie
namespace Go.Proofs.Qxb6618276a
set_option linter.unusedVariables false

/-- A string's byte as a number. -/
def gb (s : ByteArray) (t : Nat) : Nat := (s.data.toList.getD t 0).toNat

theorem wd_yesL {l : List UInt8} {n : Nat} (hn : sz (l.getD 0 0).toNat = n) (h2 : 2 ≤ n) (hl : n ≤ l.length) (h1 : lo (l.getD 0 0).toNat ≤ (l.getD 1 0).toNat ∧ (l.getD 1 0).toNat ≤ hi (l.getD 0 0).toNat)
    (ht : ∀ t, 2 ≤ t → t < n → 128 ≤ (l.getD t 0).toNat ∧ (l.getD t 0).toNat ≤ 191) : wd l = n := by
  match l, hl with
  | [], hl => simp at hl; omega
  | [a], hl => simp at hl; omega
  | a :: b :: q, hl =>
    simp only [List.getD_cons_zero, List.getD_cons_succ, List.length_cons] at hn h1 hl
    rw [← hn]
    refine wd_of (by omega) h1 (by rw [List.length_take]; omega) ?_
    rw [List.all_eq_true]
    intro x hx
    rw [List.mem_iff_getElem] at hx
    obtain ⟨j, hj, rfl⟩ := hx
    rw [List.length_take] at hj
    have := ht (j + 2) (by omega) (by omega)
    simp only [List.getD_cons_succ] at this
    have e : q.getD j 0 = q[j]'(by omega) := by simp [List.getD, show j < q.length by omega]
    rw [e] at this
    rw [List.getElem_take]
    simp only [cont, Bool.and_eq_true, decide_eq_true_eq]
    exact this

theorem wd_needL {l : List UInt8} (h : 0 < wd l) (h2 : 2 ≤ sz (l.getD 0 0).toNat) : wd l = sz (l.getD 0 0).toNat ∧ sz (l.getD 0 0).toNat ≤ l.length ∧ (lo (l.getD 0 0).toNat ≤ (l.getD 1 0).toNat ∧ (l.getD 1 0).toNat ≤ hi (l.getD 0 0).toNat) ∧
    ∀ t, 2 ≤ t → t < sz (l.getD 0 0).toNat → 128 ≤ (l.getD t 0).toNat ∧ (l.getD t 0).toNat ≤ 191 := by
  have hle := wd_le l
  have hin := fun i h0 h1 => wd_inside (l := l) (i := i) h0 h1
  rcases wd_parts h with ⟨a, q, rfl, h1, h3⟩ | ⟨a, b, q, rfl, h1, h3, h4, h5, h6⟩
  · simp only [List.getD_cons_zero] at h2; omega
  · simp only [List.getD_cons_zero, List.getD_cons_succ] at h2 ⊢
    rw [h1] at hle hin
    refine ⟨h1, hle, h4, fun t a b => ?_⟩
    obtain ⟨c, hc, h7⟩ := hin t (by omega) b
    simp only [List.getD, hc, Option.getD_some]
    exact h7

theorem gb_drop (s : ByteArray) (k j : Nat) : ((s.data.toList.drop k).getD j 0).toNat = gb s (k + j) := by rw [getD_drop]; rfl
theorem len_drop (s : ByteArray) (k : Nat) : (s.data.toList.drop k).length = s.size - k := by rw [List.length_drop]; rfl

theorem wd_yes {s : ByteArray} {k n c : Nat} (hc : gb s k = c) (hn : sz c = n) (h2 : 2 ≤ n) (hl : k + n ≤ s.size) (h1 : lo c ≤ gb s (k + 1) ∧ gb s (k + 1) ≤ hi c) (ht : ∀ t, 2 ≤ t → t < n → 128 ≤ gb s (k + t) ∧ gb s (k + t) ≤ 191) : wd (s.data.toList.drop k) = n := by
  subst hc
  refine wd_yesL ?_ h2 ?_ ?_ ?_
  · rw [gb_drop, Nat.add_zero]; exact hn
  · rw [len_drop]; omega
  · rw [gb_drop, gb_drop, Nat.add_zero]; exact h1
  · intro t a b; rw [gb_drop]; exact ht t a b

theorem wd_need {s : ByteArray} {k n c : Nat} (hc : gb s k = c) (hn : sz c = n) (h2 : 2 ≤ n) (h : 0 < wd (s.data.toList.drop k)) : wd (s.data.toList.drop k) = n ∧ n ≤ s.size - k ∧ (lo c ≤ gb s (k + 1) ∧ gb s (k + 1) ≤ hi c) ∧ ∀ t, 2 ≤ t → t < n → 128 ≤ gb s (k + t) ∧ gb s (k + t) ≤ 191 := by
  subst hc
  have := wd_needL h (by rw [gb_drop, Nat.add_zero, hn]; exact h2)
  rw [gb_drop, gb_drop, Nat.add_zero, hn, len_drop] at this
  refine ⟨this.1, this.2.1, this.2.2.1, fun t a b => ?_⟩
  have := this.2.2.2 t a b
  rw [gb_drop] at this
  exact this

theorem ne_drop {s : ByteArray} {k : Nat} (h : k < s.size) : s.data.toList.drop k ≠ [] := by
  intro e
  have := congrArg List.length e
  rw [len_drop] at this
  simp at this
  omega

/-- What each way out of the round says of the whole. -/
theorem vd_stop {s : ByteArray} {k : Nat} (hk : k < s.size) (hv : vd s.data.toList = vd (s.data.toList.drop k)) (h : ¬ 0 < wd (s.data.toList.drop k)) : vd s.data.toList = false := by
  rw [hv]; exact vd_bad (ne_drop hk) (by omega)

theorem vd_next {s : ByteArray} {k n : Nat} (hv : vd s.data.toList = vd (s.data.toList.drop k)) (h : wd (s.data.toList.drop k) = n) (hn : 0 < n) : vd s.data.toList = vd (s.data.toList.drop (k + n)) := by
  rw [hv, vd_good (by omega), h, List.drop_drop]

theorem wd_ascii {s : ByteArray} {k c : Nat} (hk : k < s.size) (hc : gb s k = c) (h : c < 128) : wd (s.data.toList.drop k) = 1 := by
  have e := ne_drop hk
  have g := gb_drop s k 0
  match hl : s.data.toList.drop k, e with
  | a :: r, _ =>
    rw [hl, Nat.add_zero, hc] at g
    simp only [List.getD_cons_zero] at g
    have : sz a.toNat = 1 := by unfold sz; rw [if_pos (by omega)]
    simp only [wd]
    rw [if_pos (by omega), this]

theorem wd_lead {s : ByteArray} {k c : Nat} (hk : k < s.size) (hc : gb s k = c) (h : sz c = 0) : ¬ 0 < wd (s.data.toList.drop k) := by
  have e := ne_drop hk
  have g := gb_drop s k 0
  match hl : s.data.toList.drop k, e with
  | a :: r, _ =>
    rw [hl, Nat.add_zero, hc] at g
    simp only [List.getD_cons_zero] at g
    have : sz a.toNat = 0 := by rw [g]; exact h
    simp only [wd]
    rw [if_pos (by omega), this]
    omega
end Go.Proofs.Qxb6618276a
