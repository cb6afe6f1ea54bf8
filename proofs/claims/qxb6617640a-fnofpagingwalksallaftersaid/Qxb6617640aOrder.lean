import GoSem.Op.String
namespace Go.Proofs.Qxb6617640a

/-! The order of strings by their bytes; plain lists. -/
def ls (a b : ByteArray) : Bool := Op.bytesLess a.toList b.toList

theorem bl_irrefl : ∀ x : List UInt8, Op.bytesLess x x = false
  | [] => rfl
  | a :: x => by
    have := bl_irrefl x
    simp [Op.bytesLess, this]

theorem bl_asymm : ∀ x y : List UInt8, Op.bytesLess x y = true → Op.bytesLess y x = false
  | _, [], h => by simp [Op.bytesLess] at h
  | [], b :: y, _ => by simp [Op.bytesLess]
  | a :: x, b :: y, h => by
    simp only [Op.bytesLess, Bool.or_eq_true, decide_eq_true_eq, Bool.and_eq_true, beq_iff_eq] at h
    simp only [Op.bytesLess, Bool.or_eq_false_iff, decide_eq_false_iff_not, Bool.and_eq_false_iff, beq_eq_false_iff_ne]
    simp only [UInt8.lt_iff_toNat_lt, ← UInt8.toNat_inj, ne_eq] at h ⊢
    rcases h with h | ⟨h1, h2⟩
    · exact ⟨by omega, Or.inl (by omega)⟩
    · exact ⟨by omega, Or.inr (bl_asymm x y h2)⟩

theorem bl_trans : ∀ x y z : List UInt8, Op.bytesLess x y = true → Op.bytesLess y z = true → Op.bytesLess x z = true
  | _, [], _, h, _ => by simp [Op.bytesLess] at h
  | _, _ :: _, [], _, h => by simp [Op.bytesLess] at h
  | [], _ :: _, _ :: _, _, _ => by simp [Op.bytesLess]
  | a :: x, b :: y, c :: z, h, k => by
    simp only [Op.bytesLess, Bool.or_eq_true, decide_eq_true_eq, Bool.and_eq_true, beq_iff_eq] at h k ⊢
    simp only [UInt8.lt_iff_toNat_lt, ← UInt8.toNat_inj] at h k ⊢
    rcases h with h | ⟨h1, h2⟩ <;> rcases k with k | ⟨k1, k2⟩
    · exact Or.inl (by omega)
    · exact Or.inl (by omega)
    · exact Or.inl (by omega)
    · exact Or.inr ⟨by omega, bl_trans x y z h2 k2⟩

theorem bl_tri : ∀ x y : List UInt8, Op.bytesLess x y = false → x ≠ y → Op.bytesLess y x = true
  | [], [], _, h => absurd rfl h
  | [], _ :: _, h, _ => by simp [Op.bytesLess] at h
  | _ :: _, [], _, _ => by simp [Op.bytesLess]
  | a :: x, b :: y, h, hne => by
    simp only [Op.bytesLess, Bool.or_eq_false_iff, decide_eq_false_iff_not, Bool.and_eq_false_iff, beq_eq_false_iff_ne] at h
    simp only [Op.bytesLess, Bool.or_eq_true, decide_eq_true_eq, Bool.and_eq_true, beq_iff_eq]
    obtain ⟨h1, h2⟩ := h
    by_cases e : a = b
    · subst e
      refine Or.inr ⟨rfl, bl_tri x y ?_ ?_⟩
      · rcases h2 with h2 | h2
        · exact absurd rfl h2
        · exact h2
      · intro e; exact hne (by rw [e])
    · refine Or.inl ?_
      simp only [UInt8.lt_iff_toNat_lt, ← UInt8.toNat_inj] at h1 e ⊢
      omega

/-- The names are in strictly rising order. -/
def Up (S : Nat → ByteArray) (n : Nat) : Prop := ∀ i j, i < j → j < n → ls (S i) (S j) = true

/-- p: the first place whose name is greater than x. -/
structure First (S : Nat → ByteArray) (n : Nat) (x : ByteArray) (p : Nat) : Prop where
  le : p ≤ n
  low : ∀ t, t < p → ls x (S t) = false
  high : ∀ t, p ≤ t → t < n → ls x (S t) = true

theorem up_of_steps {S : Nat → ByteArray} {n : Nat} (h : ∀ t, 1 ≤ t → t < n → ls (S (t - 1)) (S t) = true) : Up S n := by
  intro i j hij hj
  induction j with
  | zero => omega
  | succ j ih =>
    have hs := h (j + 1) (by omega) hj
    rw [Nat.add_sub_cancel] at hs
    by_cases e : i = j
    · subst e; exact hs
    · exact bl_trans _ _ _ (ih (by omega) (by omega)) hs

theorem first_ex {S : Nat → ByteArray} {n : Nat} (h : Up S n) (x : ByteArray) : ∃ p, First S n x p := by
  induction n with
  | zero => exact ⟨0, by omega, fun t ht => by omega, fun t _ ht => by omega⟩
  | succ n ih =>
    obtain ⟨p, h1, h2, h3⟩ := ih (fun i j hi hj => h i j hi (by omega))
    by_cases e : p = n
    · subst e
      cases hx : ls x (S p)
      · exact ⟨p + 1, by omega, fun t ht => by
          by_cases e : t = p
          · subst e; exact hx
          · exact h2 t (by omega), fun t _ _ => by omega⟩
      · exact ⟨p, by omega, h2, fun t a b => by
          obtain rfl : t = p := by omega
          exact hx⟩
    · refine ⟨p, by omega, h2, fun t a b => ?_⟩
      by_cases e' : t = n
      · subst e'
        exact bl_trans _ _ _ (h3 p (by omega) (by omega)) (h p t (by omega) (by omega))
      · exact h3 t a (by omega)

theorem first_unique {S : Nat → ByteArray} {n : Nat} {x : ByteArray} {p q : Nat} (h : First S n x p) (k : First S n x q) : p = q := by
  have a := h.le
  have b := k.le
  rcases Nat.lt_trichotomy p q with e | e | e
  · have := h.high p (by omega) (by omega)
    rw [k.low p e] at this
    cases this
  · exact e
  · have := k.high q (by omega) (by omega)
    rw [h.low q e] at this
    cases this

/-- Behind the name at place i the first greater one stands at i + 1. -/
theorem first_at {S : Nat → ByteArray} {n : Nat} (h : Up S n) {i : Nat} (hi : i < n) : First S n (S i) (i + 1) :=
  ⟨hi, fun t ht => by
    by_cases e : t = i
    · subst e; exact bl_irrefl _
    · exact bl_asymm _ _ (h t i (by omega) hi), fun t a b => h i t (by omega) b⟩

/-- What the binary search finds, and what Page.Of makes of it. -/
structure Found (S : Nat → ByteArray) (n : Nat) (x : ByteArray) (i : Nat) : Prop where
  le : i ≤ n
  low : ∀ t, t < i → ls (S t) x = true
  high : ∀ t, i ≤ t → t < n → ls (S t) x = false

theorem first_of_found {S : Nat → ByteArray} {n : Nat} {x : ByteArray} {i : Nat} (h : Up S n) (f : Found S n x i) (hi : i < n) (e : (S i).toList = x.toList) : First S n x (i + 1) :=
  ⟨hi, fun t ht => by
    by_cases e' : t = i
    · subst e'; unfold ls; rw [e]; exact bl_irrefl _
    · exact bl_asymm _ _ (f.low t (by omega)), fun t a b => by
      have := h i t (by omega) b
      unfold ls at this ⊢
      rw [e] at this
      exact this⟩

theorem first_of_missed {S : Nat → ByteArray} {n : Nat} {x : ByteArray} {i : Nat} (h : Up S n) (f : Found S n x i) (e : i < n → (S i).toList ≠ x.toList) : First S n x i :=
  ⟨f.le, fun t ht => bl_asymm _ _ (f.low t ht), fun t a b => by
    have hx : ls x (S i) = true := bl_tri _ _ (f.high i (by omega) (by omega)) (e (by omega))
    by_cases e' : t = i
    · subst e'; exact hx
    · exact bl_trans _ _ _ hx (h i t (by omega) b)⟩
end Go.Proofs.Qxb6617640a
