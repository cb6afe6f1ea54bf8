import Derived.Test.Qxb6616659aSwapCall
namespace Go.Proofs.Qxb6616659a
open Go.RowKit
set_option linter.unusedVariables false

/-- A claim's cells by their place. -/
def claimF (nth idx : Int) : Nat → Value
  | 0 => .string ByteArray.empty
  | 1 => .bool false
  | 2 => .int .i64 0
  | 3 => .int .i64 nth
  | 4 => .int .i64 idx
  | _ => .chan none

/-- What the second loop has built behind k rounds. -/
structure Bu (B n : Nat) (Z : Nat → Int) (k : Nat) (w wr : World) : Prop where
  q : wr.rowIs B 26 n (fun j => if j < k then .pointer (some ⟨B + 3 + j, 0, none⟩) else .pointer none)
  o : wr.rowIs (B + 1) 26 n (fun j => if j < k then .pointer (some ⟨B + 3 + j, 0, none⟩) else .pointer none)
  p : wr.rowIs (B + 2) 3 n (fun j => if j < k then .int .i64 j else .int .i64 0)
  c : ∀ j, j < k → wr.rowIs (B + 3 + j) 32 6 (claimF (Z j) j)
  size : wr.heap.size = B + 3 + k
  below : Below B w wr

/-- What stands while the third loop swaps: 's': the permutation. -/
structure St (B n : Nat) (Z : Nat → Int) (s : Nat → Nat) (w wr : World) : Prop where
  q : wr.rowIs B 26 n (fun j => .pointer (some ⟨B + 3 + s j, 0, none⟩))
  o : wr.rowIs (B + 1) 26 n (fun j => .pointer (some ⟨B + 3 + j, 0, none⟩))
  p : wr.rowIs (B + 2) 3 n (fun j => .int .i64 (s j : Nat))
  c : ∀ j, j < n → wr.rowIs (B + 3 + s j) 32 6 (claimF (Z (s j)) j)
  lt : ∀ j, j < n → s j < n
  inj : ∀ j k, j < n → k < n → s j = s k → j = k
  below : Below B w wr

theorem bu_start (w : World) (n : Nat) (Z : Nat → Int) :
    Bu w.heap.size n Z 0 w (((w.alloc (.cells (madeCells #[.pointer none] n) 26)).alloc (.cells (madeCells #[.pointer none] n) 26)).alloc (.cells (madeCells #[.int .i64 0] n) 3)) := by
  refine ⟨?_, ?_, ?_, fun j hj => by omega, by simp, ?_⟩
  · exact (((World.rowIs_made w (.pointer none) n 26).alloc _).alloc _).congr fun i hi => by simp
  · have h := (World.rowIs_made (w.alloc (.cells (madeCells #[.pointer none] n) 26)) (.pointer none) n 26).alloc (.cells (madeCells #[.int .i64 0] n) 3)
    rw [World.size_alloc] at h
    exact h.congr fun i hi => by simp
  · have h := World.rowIs_made ((w.alloc (.cells (madeCells #[.pointer none] n) 26)).alloc (.cells (madeCells #[.pointer none] n) 26)) (.int .i64 0) n 3
    rw [World.size_alloc, World.size_alloc] at h
    exact h.congr fun i hi => by simp
  · exact (((Below.refl _ _).alloc (Nat.le_refl _) _).alloc (by simp) _).alloc (by simp; omega) _

theorem claim_new (w : World) (nth idx : Int) : (w.alloc (.cells (claimCells nth idx) 32)).rowIs w.heap.size 32 6 (claimF nth idx) :=
  World.rowIs_alloc w (claimCells nth idx) 32 (claimF nth idx) fun i hi => by
    have hi' : i < 6 := hi
    match i, hi' with
    | 0, _ => rfl
    | 1, _ => rfl
    | 2, _ => rfl
    | 3, _ => rfl
    | 4, _ => rfl
    | 5, _ => rfl

theorem bu_step {B n : Nat} {Z : Nat → Int} {k : Nat} {w wr : World} (h : Bu B n Z k w wr) (hk : k < n) :
    Bu B n Z (k + 1) w ((((wr.alloc (.cells (claimCells (Z k) k) 32)).setCell ⟨B, k, none⟩ (.pointer (some ⟨wr.heap.size, 0, none⟩))).setCell ⟨B + 1, k, none⟩ (.pointer (some ⟨wr.heap.size, 0, none⟩))).setCell ⟨B + 2, k, none⟩ (.int .i64 k)) := by
  obtain ⟨hq, ho, hp, hc, hs, hb⟩ := h
  rw [hs]
  refine ⟨?_, ?_, ?_, ?_, ?_, ?_⟩
  · refine ((((hq.alloc _).set k _).setOther (by show B ≠ B + 1; omega) _).setOther (by show B ≠ B + 2; omega) _).congr fun j hj => ?_
    by_cases e : j = k
    · subst e; simp
    · rw [if_neg e]; by_cases e' : j < k
      · rw [if_pos e', if_pos (by omega)]
      · rw [if_neg e', if_neg (by omega)]
  · refine ((((ho.alloc _).setOther (by show B + 1 ≠ B; omega) _).set k _).setOther (by show B + 1 ≠ B + 2; omega) _).congr fun j hj => ?_
    by_cases e : j = k
    · subst e; simp
    · rw [if_neg e]; by_cases e' : j < k
      · rw [if_pos e', if_pos (by omega)]
      · rw [if_neg e', if_neg (by omega)]
  · refine ((((hp.alloc _).setOther (by show B + 2 ≠ B; omega) _).setOther (by show B + 2 ≠ B + 1; omega) _).set k _).congr fun j hj => ?_
    by_cases e : j = k
    · subst e; simp
    · rw [if_neg e]; by_cases e' : j < k
      · rw [if_pos e', if_pos (by omega)]
      · rw [if_neg e', if_neg (by omega)]
  · intro j hj
    have hr : (wr.alloc (.cells (claimCells (Z k) k) 32)).rowIs (B + 3 + j) 32 6 (claimF (Z j) j) := by
      by_cases e : j = k
      · subst e
        have := claim_new wr (Z j) j
        rw [hs] at this
        exact this
      · exact (hc j (by omega)).alloc _
    exact ((hr.setOther (by show B + 3 + j ≠ B; omega) _).setOther (by show B + 3 + j ≠ B + 1; omega) _).setOther (by show B + 3 + j ≠ B + 2; omega) _
  · simp [World.setCell, hs]; omega
  · exact (((hb.alloc (by omega) _).setCell (by show B ≤ B; omega) _).setCell (by show B ≤ B + 1; omega) _).setCell (by show B ≤ B + 2; omega) _

theorem st_start {B n : Nat} {Z : Nat → Int} {w wr : World} (h : Bu B n Z n w wr) : St B n Z id w wr := by
  obtain ⟨hq, ho, hp, hc, hs, hb⟩ := h
  exact ⟨hq.congr fun i hi => by simp [hi], ho.congr fun i hi => by simp [hi], hp.congr fun i hi => by simp [hi], fun j hj => hc j hj, fun j hj => hj, fun j k _ _ e => e, hb⟩

theorem rowIs_alike {w w' : World} (h : w'.Alike w) {b t n : Nat} {f : Nat → Value} (r : w.rowIs b t n f) : w'.rowIs b t n f :=
  r.of_block (by rw [h.1])

theorem below_alike {B : Nat} {w w1 w2 : World} (h : Below B w w1) (ha : w2.Alike w1) (ht : w2.tape = w1.tape) : Below B w w2 :=
  ⟨by rw [ha.2.1, h.os], by rw [ht, h.tape], by rw [ha.2.2, h.output], by rw [ha.1]; exact h.size, fun k hk => by rw [ha.1]; exact h.block k hk⟩

/-- The permutation with two places exchanged. -/
def sw (s : Nat → Nat) (i j : Nat) : Nat → Nat := fun k => if k = j then s i else if k = i then s j else s k

/-- What Swap leaves: all but perm's row is as the next round wants it. -/
structure Mid (B n : Nat) (Z : Nat → Int) (s s' : Nat → Nat) (w wr : World) : Prop where
  q : wr.rowIs B 26 n (fun j => .pointer (some ⟨B + 3 + s' j, 0, none⟩))
  o : wr.rowIs (B + 1) 26 n (fun j => .pointer (some ⟨B + 3 + j, 0, none⟩))
  p : wr.rowIs (B + 2) 3 n (fun j => .int .i64 (s j : Nat))
  c : ∀ j, j < n → wr.rowIs (B + 3 + s' j) 32 6 (claimF (Z (s' j)) j)
  lt : ∀ j, j < n → s' j < n
  inj : ∀ j k, j < n → k < n → s' j = s' k → j = k
  below : Below B w wr

theorem claimF_set (nth a b : Int) (j : Nat) (hj : j < 6) : (if j = 4 then Value.int .i64 b else claimF nth a j) = claimF nth b j := by
  match j, hj with
  | 0, _ => rfl
  | 1, _ => rfl
  | 2, _ => rfl
  | 3, _ => rfl
  | 4, _ => rfl
  | 5, _ => rfl

theorem claimF_set2 (nth a b d : Int) (j : Nat) (hj : j < 6) : (if j = 4 then Value.int .i64 b else if j = 4 then Value.int .i64 d else claimF nth a j) = claimF nth b j := by
  rw [← claimF_set nth a b j hj]
  by_cases e : j = 4
  · rw [if_pos e, if_pos e]
  · rw [if_neg e, if_neg e, if_neg e]

theorem sw_inj {n : Nat} {s : Nat → Nat} (I : ∀ j k, j < n → k < n → s j = s k → j = k) {i j : Nat} (hi : i < n) (hj : j < n) : ∀ a b, a < n → b < n → sw s i j a = sw s i j b → a = b := by
  intro a b ha hb e
  unfold sw at e
  by_cases a1 : a = j
  · rw [if_pos a1] at e
    by_cases b1 : b = j
    · omega
    · rw [if_neg b1] at e
      by_cases b2 : b = i
      · rw [if_pos b2] at e
        have := I _ _ hi hj e
        omega
      · rw [if_neg b2] at e
        have := I _ _ hi hb e
        omega
  · rw [if_neg a1] at e
    by_cases a2 : a = i
    · rw [if_pos a2] at e
      by_cases b1 : b = j
      · rw [if_pos b1] at e
        have := I _ _ hj hi e
        omega
      · rw [if_neg b1] at e
        by_cases b2 : b = i
        · omega
        · rw [if_neg b2] at e
          have := I _ _ hj hb e
          omega
    · rw [if_neg a2] at e
      by_cases b1 : b = j
      · rw [if_pos b1] at e
        have := I _ _ ha hi e
        omega
      · rw [if_neg b1] at e
        by_cases b2 : b = i
        · rw [if_pos b2] at e
          have := I _ _ ha hj e
          omega
        · rw [if_neg b2] at e
          exact I _ _ ha hb e

theorem sw_lt {n : Nat} {s : Nat → Nat} (hl : ∀ j, j < n → s j < n) {i j : Nat} (hi : i < n) (hj : j < n) : ∀ k, k < n → sw s i j k < n := by
  intro k hk
  unfold sw
  split
  · exact hl i hi
  · split
    · exact hl j hj
    · exact hl k hk

theorem sw_claims {B n : Nat} {Z : Nat → Int} {s : Nat → Nat} {wr : World} (hinj : ∀ j k, j < n → k < n → s j = s k → j = k)
    (hc : ∀ j, j < n → wr.rowIs (B + 3 + s j) 32 6 (claimF (Z (s j)) j)) {i j : Nat} (hi : i < n) (hj : j < n) (k : Nat) (hk : k < n) :
    (swapped wr B i j (B + 3 + s i) (B + 3 + s j)).rowIs (B + 3 + sw s i j k) 32 6 (claimF (Z (sw s i j k)) k) := by
  by_cases e : k = j
  · have es : sw s i j k = s i := by unfold sw; rw [if_pos e]
    rw [es]
    subst e
    have r := ((hc i hi).setOther (a := ⟨B, i, none⟩) (by show B + 3 + s i ≠ B; omega) (.pointer (some ⟨B + 3 + s k, 0, none⟩))).setOther (a := ⟨B, k, none⟩) (by show B + 3 + s i ≠ B; omega) (.pointer (some ⟨B + 3 + s i, 0, none⟩))
    by_cases eij : s i = s k
    · have r2 := (r.set 4 (.int .i64 i)).set 4 (.int .i64 k)
      have r3 := r2.congr (g := claimF (Z (s i)) k) fun f hf => claimF_set2 _ _ _ _ f hf
      unfold swapped
      rw [← eij] at r3 ⊢
      exact r3
    · have r2 := (r.setOther (a := ⟨B + 3 + s k, 4, none⟩) (by show B + 3 + s i ≠ B + 3 + s k; omega) (.int .i64 i)).set 4 (.int .i64 k)
      exact r2.congr fun f hf => claimF_set _ _ _ f hf
  · by_cases e' : k = i
    · have es : sw s i j k = s j := by unfold sw; rw [if_neg e, if_pos e']
      rw [es]
      subst e'
      have eij : s j ≠ s k := fun h => e (hinj _ _ hk hj h.symm)
      have r := ((hc j hj).setOther (a := ⟨B, k, none⟩) (by show B + 3 + s j ≠ B; omega) (.pointer (some ⟨B + 3 + s j, 0, none⟩))).setOther (a := ⟨B, j, none⟩) (by show B + 3 + s j ≠ B; omega) (.pointer (some ⟨B + 3 + s k, 0, none⟩))
      exact (((r.set 4 (.int .i64 k)).setOther (a := ⟨B + 3 + s k, 4, none⟩) (by show B + 3 + s j ≠ B + 3 + s k; omega) (.int .i64 j))).congr fun f hf => claimF_set _ _ _ f hf
    · have es : sw s i j k = s k := by unfold sw; rw [if_neg e, if_neg e']
      rw [es]
      have n1 : s k ≠ s i := fun h => e' (hinj _ _ hk hi h)
      have n2 : s k ≠ s j := fun h => e (hinj _ _ hk hj h)
      exact ((((hc k hk).setOther (by show B + 3 + s k ≠ B; omega) _).setOther (by show B + 3 + s k ≠ B; omega) _).setOther (by show B + 3 + s k ≠ B + 3 + s j; omega) _).setOther (by show B + 3 + s k ≠ B + 3 + s i; omega) _

theorem mid_of {B n : Nat} {Z : Nat → Int} {s : Nat → Nat} {w wr w1 : World} (h : St B n Z s w wr) {i j : Nat} (hi : i < n) (hj : j < n)
    (ha : w1.Alike (swapped wr B i j (B + 3 + s i) (B + 3 + s j))) (ht : w1.tape = wr.tape) : Mid B n Z s (sw s i j) w w1 := by
  obtain ⟨hq, ho, hp, hc, hl, hinj, hb⟩ := h
  refine ⟨?_, ?_, ?_, fun k hk => rowIs_alike ha (sw_claims hinj hc hi hj k hk), sw_lt hl hi hj, sw_inj hinj hi hj, ?_⟩
  · refine rowIs_alike ha (((((hq.set i _).set j _).setOther (by show B ≠ B + 3 + s j; omega) _).setOther (by show B ≠ B + 3 + s i; omega) _).congr fun k hk => ?_)
    unfold sw
    by_cases e : k = j
    · rw [if_pos e, if_pos e]
    · rw [if_neg e, if_neg e]
      by_cases e' : k = i
      · rw [if_pos e', if_pos e']
      · rw [if_neg e', if_neg e']
  · exact rowIs_alike ha ((((ho.setOther (by show B + 1 ≠ B; omega) _).setOther (by show B + 1 ≠ B; omega) _).setOther (by show B + 1 ≠ B + 3 + s j; omega) _).setOther (by show B + 1 ≠ B + 3 + s i; omega) _)
  · exact rowIs_alike ha ((((hp.setOther (by show B + 2 ≠ B; omega) _).setOther (by show B + 2 ≠ B; omega) _).setOther (by show B + 2 ≠ B + 3 + s j; omega) _).setOther (by show B + 2 ≠ B + 3 + s i; omega) _)
  · exact below_alike ((((hb.setCell (by show B ≤ B; omega) _).setCell (by show B ≤ B; omega) _).setCell (by show B ≤ B + 3 + s j; omega) _).setCell (by show B ≤ B + 3 + s i; omega) _) ha ht

theorem st_of_mid {B n : Nat} {Z : Nat → Int} {s : Nat → Nat} {w w1 : World} {i j : Nat} (h : Mid B n Z s (sw s i j) w w1) :
    St B n Z (sw s i j) w ((w1.setCell ⟨B + 2, i, none⟩ (.int .i64 (s j : Nat))).setCell ⟨B + 2, j, none⟩ (.int .i64 (s i : Nat))) := by
  obtain ⟨hq, ho, hp, hc, hl, hinj, hb⟩ := h
  refine ⟨?_, ?_, ?_, ?_, hl, hinj, ?_⟩
  · exact (hq.setOther (by show B ≠ B + 2; omega) _).setOther (by show B ≠ B + 2; omega) _
  · exact (ho.setOther (by show B + 1 ≠ B + 2; omega) _).setOther (by show B + 1 ≠ B + 2; omega) _
  · refine ((hp.set i _).set j _).congr fun k hk => ?_
    unfold sw
    by_cases e : k = j
    · rw [if_pos e, if_pos e]
    · rw [if_neg e, if_neg e]
      by_cases e' : k = i
      · rw [if_pos e', if_pos e']
      · rw [if_neg e', if_neg e']
  · intro k hk
    exact ((hc k hk).setOther (by show B + 3 + _ ≠ B + 2; omega) _).setOther (by show B + 3 + _ ≠ B + 2; omega) _
  · exact (hb.setCell (by show B ≤ B + 2; omega) _).setCell (by show B ≤ B + 2; omega) _

theorem st_drewN {B n : Nat} {Z : Nat → Int} {s : Nat → Nat} {w wr : World} (h : St B n Z s w wr) (m : Nat) : St B n Z s w (wr.drewN m) :=
  ⟨h.q, h.o, h.p, h.c, h.lt, h.inj, h.below.trans ⟨rfl, rfl, rfl, Nat.le_refl _, fun _ _ => rfl⟩⟩
end Go.Proofs.Qxb6616659a
