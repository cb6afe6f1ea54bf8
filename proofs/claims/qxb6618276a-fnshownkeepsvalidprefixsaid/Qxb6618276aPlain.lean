import GoSem.Core.Utf8
namespace Go.Proofs.Qxb6618276a
set_option linter.unusedVariables false

/-! Plain lists of bytes: no Go in sight. -/
/-- How many bytes a character takes whose first byte is a; 0: none begins so. -/
def sz (a : Nat) : Nat := if a < 128 then 1 else if 194 ≤ a ∧ a ≤ 223 then 2 else if 224 ≤ a ∧ a ≤ 239 then 3 else if 240 ≤ a ∧ a ≤ 244 then 4 else 0
/-- The least and the greatest second byte. -/
def lo (a : Nat) : Nat := if a = 224 then 160 else if a = 240 then 144 else 128
def hi (a : Nat) : Nat := if a = 237 then 159 else if a = 244 then 143 else 191
def cont (b : UInt8) : Bool := 128 ≤ b.toNat && b.toNat ≤ 191
/-- The valid character at a list's head: its length; 0: there is none. -/
def wd : List UInt8 → Nat
  | [] => 0
  | a :: r => if sz a.toNat ≤ 1 then sz a.toNat else match r with
    | [] => 0
    | b :: q => if (lo a.toNat ≤ b.toNat ∧ b.toNat ≤ hi a.toNat) ∧ (q.take (sz a.toNat - 2)).length = sz a.toNat - 2 ∧ (q.take (sz a.toNat - 2)).all cont = true then sz a.toNat else 0
def fffd : List UInt8 := [239, 191, 189]

def shF : Nat → List UInt8 → List UInt8
  | 0, _ => []
  | f + 1, l => if l = [] then [] else if wd l = 0 then fffd ++ shF f (l.drop 1) else l.take (wd l) ++ shF f (l.drop (wd l))
def vdF : Nat → List UInt8 → Bool
  | 0, _ => true
  | f + 1, l => if l = [] then true else if wd l = 0 then false else vdF f (l.drop (wd l))
/-- What 'shown' gives; is the list valid UTF-8? -/
def sh (l : List UInt8) : List UInt8 := shF l.length l
def vd (l : List UInt8) : Bool := vdF l.length l

theorem sz_le (a : Nat) : sz a ≤ 4 := by unfold sz; repeat' split
                                         all_goals omega

theorem wd_parts {l : List UInt8} (h : 0 < wd l) : (∃ a q, l = a :: q ∧ wd l = 1 ∧ sz a.toNat = 1) ∨
    ∃ a b q, l = a :: b :: q ∧ wd l = sz a.toNat ∧ 2 ≤ sz a.toNat ∧ (lo a.toNat ≤ b.toNat ∧ b.toNat ≤ hi a.toNat) ∧ (q.take (sz a.toNat - 2)).length = sz a.toNat - 2 ∧ (q.take (sz a.toNat - 2)).all cont = true := by
  match l with
  | [] => simp [wd] at h
  | [a] =>
    simp only [wd] at h ⊢
    by_cases e : sz a.toNat ≤ 1
    · rw [if_pos e] at h ⊢
      exact Or.inl ⟨a, [], rfl, by omega, by omega⟩
    · rw [if_neg e] at h; omega
  | a :: b :: q =>
    simp only [wd] at h ⊢
    by_cases e : sz a.toNat ≤ 1
    · rw [if_pos e] at h ⊢
      exact Or.inl ⟨a, b :: q, rfl, by omega, by omega⟩
    · rw [if_neg e] at h ⊢
      by_cases e2 : (lo a.toNat ≤ b.toNat ∧ b.toNat ≤ hi a.toNat) ∧ (q.take (sz a.toNat - 2)).length = sz a.toNat - 2 ∧ (q.take (sz a.toNat - 2)).all cont = true
      · rw [if_pos e2]
        exact Or.inr ⟨a, b, q, rfl, rfl, by omega, e2⟩
      · rw [if_neg e2] at h; omega

theorem wd_le (l : List UInt8) : wd l ≤ l.length := by
  rcases Nat.eq_zero_or_pos (wd l) with h | h
  · omega
  · rcases wd_parts h with ⟨a, q, rfl, h1, _⟩ | ⟨a, b, q, rfl, h1, h2, _, h3, _⟩
    · simp; omega
    · simp only [List.length_take] at h3
      simp only [List.length_cons]
      omega

theorem wd_four (l : List UInt8) : wd l ≤ 4 := by
  rcases Nat.eq_zero_or_pos (wd l) with h | h
  · omega
  · rcases wd_parts h with ⟨a, q, rfl, h1, _⟩ | ⟨a, b, q, rfl, h1, h2, _, h3, _⟩
    · omega
    · rw [h1]; exact sz_le _

/-- The character at the head does not hang on what follows it. -/
theorem wd_local {l : List UInt8} (h : 0 < wd l) (m : List UInt8) : wd (l.take (wd l) ++ m) = wd l := by
  rcases wd_parts h with ⟨a, q, rfl, h1, h2⟩ | ⟨a, b, q, rfl, h1, h2, h3, h4, h5⟩
  · rw [h1]
    simp only [List.take_succ_cons, List.take_zero, List.cons_append, List.nil_append, wd]
    rw [if_pos (by omega), h2]
  · rw [h1]
    obtain ⟨n, hn⟩ : ∃ n, sz a.toNat = n + 2 := ⟨sz a.toNat - 2, by omega⟩
    rw [hn] at h4 h5 ⊢
    simp only [Nat.add_sub_cancel] at h4 h5
    have ht : (q.take n ++ m).take n = q.take n := by
      rw [List.take_append_of_le_length (by omega), List.take_of_length_le (by omega)]
    simp only [List.take_succ_cons, List.cons_append, wd, hn, Nat.add_sub_cancel]
    rw [ht, if_neg (by omega), if_pos ⟨h3, h4, h5⟩]

theorem take_wd_append (l : List UInt8) (m : List UInt8) : l ++ m = l.take (wd l) ++ (l.drop (wd l) ++ m) := by
  rw [← List.append_assoc, List.take_append_drop]

theorem wd_append {l : List UInt8} (h : 0 < wd l) (m : List UInt8) : wd (l ++ m) = wd l := by
  rw [take_wd_append l m]; exact wd_local h _

theorem wd_fffd (m : List UInt8) : wd (fffd ++ m) = 3 := by
  simp [fffd, wd, sz, lo, hi, cont]

theorem wd_take {l : List UInt8} {i : Nat} (h : 0 < wd l) (hi : wd l ≤ i) : wd (l.take i) = wd l := by
  have e : l.take i = l.take (wd l) ++ (l.drop (wd l)).take (i - wd l) := by
    conv => lhs; rw [show i = wd l + (i - wd l) from by omega]
    rw [List.take_add]
  rw [e]; exact wd_local h _

theorem wd_take_none {l : List UInt8} {i : Nat} (h : wd l = 0) : wd (l.take i) = 0 := by
  rcases Nat.eq_zero_or_pos (wd (l.take i)) with e | e
  · exact e
  · have := wd_append e (l.drop i)
    rw [List.take_append_drop] at this
    omega

/-- Inside a character stand continuation bytes alone. -/
theorem wd_inside {l : List UInt8} {i : Nat} (h0 : 0 < i) (h : i < wd l) : ∃ c, l[i]? = some c ∧ 128 ≤ c.toNat ∧ c.toNat ≤ 191 := by
  rcases wd_parts (show 0 < wd l by omega) with ⟨a, q, rfl, h1, h2⟩ | ⟨a, b, q, rfl, h1, h2, h3, h4, h5⟩
  · omega
  · match i, h0 with
    | 1, _ =>
      refine ⟨b, rfl, ?_, ?_⟩
      · have : 128 ≤ lo a.toNat := by unfold lo; repeat' split
                                      all_goals omega
        omega
      · have : hi a.toNat ≤ 191 := by unfold hi; repeat' split
                                      all_goals omega
        omega
    | j + 2, _ =>
      have hj : j < sz a.toNat - 2 := by omega
      have hq : j < q.length := by simp only [List.length_take] at h4; omega
      refine ⟨q[j], by simp [hq], ?_⟩
      have hm : q[j] ∈ q.take (sz a.toNat - 2) := by
        rw [List.mem_iff_getElem]
        exact ⟨j, by omega, by simp⟩
      have := List.all_eq_true.1 h5 _ hm
      simp only [cont, Bool.and_eq_true, decide_eq_true_eq] at this
      exact this

theorem drop_lt {l : List UInt8} (h : l ≠ []) {k : Nat} (hk : 0 < k) : (l.drop k).length < l.length := by
  have : 0 < l.length := List.length_pos_iff.2 h
  simp only [List.length_drop]; omega

theorem shF_fuel : ∀ (f : Nat) (l : List UInt8), l.length ≤ f → shF f l = sh l
  | 0, l, h => by
    obtain rfl : l = [] := List.eq_nil_of_length_eq_zero (by omega)
    rfl
  | f + 1, l, h => by
    by_cases e : l = []
    · subst e; rfl
    · obtain ⟨n, hn⟩ : ∃ n, l.length = n + 1 := ⟨l.length - 1, by have := List.length_pos_iff.2 e; omega⟩
      unfold sh
      rw [hn]
      simp only [shF, if_neg e]
      have d1 := drop_lt e (k := 1) (by omega)
      by_cases e2 : wd l = 0
      · rw [if_pos e2, if_pos e2, shF_fuel f _ (by omega), shF_fuel n _ (by omega)]
      · have d2 := drop_lt e (k := wd l) (by omega)
        rw [if_neg e2, if_neg e2, shF_fuel f _ (by omega), shF_fuel n _ (by omega)]

theorem vdF_fuel : ∀ (f : Nat) (l : List UInt8), l.length ≤ f → vdF f l = vd l
  | 0, l, h => by
    obtain rfl : l = [] := List.eq_nil_of_length_eq_zero (by omega)
    rfl
  | f + 1, l, h => by
    by_cases e : l = []
    · subst e; rfl
    · obtain ⟨n, hn⟩ : ∃ n, l.length = n + 1 := ⟨l.length - 1, by have := List.length_pos_iff.2 e; omega⟩
      unfold vd
      rw [hn]
      simp only [vdF, if_neg e]
      by_cases e2 : wd l = 0
      · rw [if_pos e2, if_pos e2]
      · have d2 := drop_lt e (k := wd l) (by omega)
        rw [if_neg e2, if_neg e2, vdF_fuel f _ (by omega), vdF_fuel n _ (by omega)]

theorem sh_nil : sh [] = [] := rfl
theorem vd_nil : vd [] = true := rfl

theorem sh_bad {l : List UInt8} (e : l ≠ []) (h : wd l = 0) : sh l = fffd ++ sh (l.drop 1) := by
  have d1 := drop_lt e (k := 1) (by omega)
  rw [← shF_fuel (l.drop 1).length.succ l (by simp only [List.length_drop] at *; omega)]
  simp only [shF, if_neg e, if_pos h]
  rw [shF_fuel _ _ (Nat.le_refl _)]

theorem sh_good {l : List UInt8} (h : 0 < wd l) : sh l = l.take (wd l) ++ sh (l.drop (wd l)) := by
  have e : l ≠ [] := by intro e; subst e; simp [wd] at h
  have d2 := drop_lt e h
  obtain ⟨n, hn⟩ : ∃ n, l.length = n + 1 := ⟨l.length - 1, by omega⟩
  rw [← shF_fuel (n + 1) l (by omega)]
  simp only [shF, if_neg e, if_neg (show ¬ wd l = 0 by omega)]
  rw [shF_fuel _ _ (by omega)]

theorem vd_bad {l : List UInt8} (e : l ≠ []) (h : wd l = 0) : vd l = false := by
  obtain ⟨n, hn⟩ : ∃ n, l.length = n + 1 := ⟨l.length - 1, by have := List.length_pos_iff.2 e; omega⟩
  rw [← vdF_fuel (n + 1) l (by omega)]
  simp only [vdF, if_neg e, if_pos h]

theorem vd_good {l : List UInt8} (h : 0 < wd l) : vd l = vd (l.drop (wd l)) := by
  have e : l ≠ [] := by intro e; subst e; simp [wd] at h
  have d2 := drop_lt e h
  obtain ⟨n, hn⟩ : ∃ n, l.length = n + 1 := ⟨l.length - 1, by omega⟩
  rw [← vdF_fuel (n + 1) l (by omega)]
  simp only [vdF, if_neg e, if_neg (show ¬ wd l = 0 by omega)]
  rw [vdF_fuel _ _ (by omega)]

/-- Along a list, character by character. -/
theorem walkAlong {p : List UInt8 → Prop} (h0 : p []) (hbad : ∀ l, l ≠ [] → wd l = 0 → p (l.drop 1) → p l) (hgood : ∀ l, 0 < wd l → p (l.drop (wd l)) → p l) : ∀ l, p l := by
  have : ∀ (n : Nat) (l : List UInt8), l.length ≤ n → p l := by
    intro n
    induction n with
    | zero => intro l h; obtain rfl : l = [] := List.eq_nil_of_length_eq_zero (by omega); exact h0
    | succ n ih =>
      intro l h
      by_cases e : l = []
      · subst e; exact h0
      · by_cases e2 : wd l = 0
        · exact hbad l e e2 (ih _ (by have := drop_lt e (k := 1) (by omega); omega))
        · exact hgood l (by omega) (ih _ (by have := drop_lt e (k := wd l) (by omega); omega))
  exact fun l => this l.length l (Nat.le_refl _)

theorem wd_take_pos {l : List UInt8} (h : 0 < wd l) : (l.take (wd l)).length = wd l := by
  have := wd_le l
  rw [List.length_take]; omega

theorem drop_local {l : List UInt8} (h : 0 < wd l) (m : List UInt8) : (l.take (wd l) ++ m).drop (wd l) = m := by
  rw [List.drop_append_of_le_length (by rw [wd_take_pos h]; exact Nat.le_refl _), List.drop_of_length_le (by rw [wd_take_pos h]; exact Nat.le_refl _), List.nil_append]

theorem take_local {l : List UInt8} (h : 0 < wd l) (m : List UInt8) : (l.take (wd l) ++ m).take (wd l) = l.take (wd l) := by
  rw [List.take_append_of_le_length (by rw [wd_take_pos h]; exact Nat.le_refl _), List.take_of_length_le (by rw [wd_take_pos h]; exact Nat.le_refl _)]

theorem vd_fffd (m : List UInt8) : vd (fffd ++ m) = vd m := by
  rw [vd_good (by rw [wd_fffd]; omega), wd_fffd]
  rfl

theorem vd_local {l : List UInt8} (h : 0 < wd l) (m : List UInt8) : vd (l.take (wd l) ++ m) = vd m := by
  rw [vd_good (by rw [wd_local h]; exact h), wd_local h, drop_local h]

/-- What is shown is valid. -/
theorem vd_sh : ∀ l, vd (sh l) = true := by
  refine walkAlong rfl ?_ ?_
  · intro l e h ih; rw [sh_bad e h, vd_fffd]; exact ih
  · intro l h ih; rw [sh_good h, vd_local h]; exact ih

/-- How long it is. -/
theorem sh_len : ∀ l, l.length ≤ (sh l).length ∧ (sh l).length ≤ 3 * l.length := by
  refine walkAlong (by simp [sh_nil]) ?_ ?_
  · intro l e h ih
    have := List.length_pos_iff.2 e
    rw [sh_bad e h]
    simp only [List.length_append, List.length_drop, fffd, List.length_cons, List.length_nil] at ih ⊢
    omega
  · intro l h ih
    have hl := wd_le l
    rw [sh_good h]
    rw [List.length_append, wd_take_pos h]
    rw [List.length_drop] at ih
    omega

/-- A valid list is shown as it is. -/
theorem sh_valid : ∀ l, vd l = true → sh l = l := by
  refine walkAlong (fun _ => rfl) ?_ ?_
  · intro l e h _ hv; rw [vd_bad e h] at hv; cases hv
  · intro l h ih hv
    rw [vd_good h] at hv
    rw [sh_good h, ih hv, List.take_append_drop]

theorem valid_iff (l : List UInt8) : vd l = (sh l == l) := by
  cases h : vd l
  · symm
    rw [beq_eq_false_iff_ne]
    intro e
    have := vd_sh l
    rw [e, h] at this
    cases this
  · rw [sh_valid l h]; simp

/-- A valid prefix stays. -/
theorem sh_prefix (b : List UInt8) : ∀ a, vd a = true → sh (a ++ b) = a ++ sh b := by
  refine walkAlong (fun _ => rfl) ?_ ?_
  · intro l e h _ hv; rw [vd_bad e h] at hv; cases hv
  · intro l h ih hv
    rw [vd_good h] at hv
    have h1 := wd_append h b
    rw [sh_good (by rw [h1]; exact h), h1]
    have e1 : (l ++ b).take (wd l) = l.take (wd l) := by rw [take_wd_append l b]; exact take_local h _
    have e2 : (l ++ b).drop (wd l) = l.drop (wd l) ++ b := by rw [take_wd_append l b]; exact drop_local h _
    rw [e1, e2, ih hv, ← List.append_assoc, List.take_append_drop]

/-- Cut where a character may begin. -/
theorem sh_split : ∀ l (i : Nat), i ≤ l.length → (∀ c, l[i]? = some c → ¬ (128 ≤ c.toNat ∧ c.toNat ≤ 191)) → sh l = sh (l.take i) ++ sh (l.drop i) := by
  refine walkAlong (fun i _ _ => by simp [sh_nil]) ?_ ?_
  · intro l e h ih i hi hc
    by_cases h0 : i = 0
    · subst h0; simp [sh_nil]
    · have e' : l.take i ≠ [] := by
        intro x
        have := congrArg List.length x
        simp only [List.length_take, List.length_nil] at this
        have := List.length_pos_iff.2 e
        omega
      rw [sh_bad e h, sh_bad e' (wd_take_none h), List.append_assoc]
      have := ih (i - 1) (by simp only [List.length_drop]; omega) (by
        intro c hx
        rw [List.getElem?_drop] at hx
        exact hc c (by rw [show 1 + (i - 1) = i from by omega] at hx; exact hx))
      rw [this, List.drop_drop, show 1 + (i - 1) = i from by omega, ← List.drop_take]
  · intro l h ih i hi hc
    by_cases h0 : i = 0
    · subst h0; simp [sh_nil]
    · have hle : wd l ≤ i := by
        rcases Nat.lt_or_ge i (wd l) with x | x
        · obtain ⟨c, hx, hcc⟩ := wd_inside (by omega) x
          exact absurd hcc (hc c hx)
        · exact x
      have ht := wd_take h hle
      rw [sh_good h, sh_good (l := l.take i) (by rw [ht]; exact h), ht, List.append_assoc]
      have := ih (i - wd l) (by simp only [List.length_drop]; omega) (by
        intro c hx
        rw [List.getElem?_drop] at hx
        exact hc c (by rw [show wd l + (i - wd l) = i from by omega] at hx; exact hx))
      rw [this, List.drop_drop, show wd l + (i - wd l) = i from by omega, ← List.drop_take, List.take_take, Nat.min_eq_left hle]
end Go.Proofs.Qxb6618276a
