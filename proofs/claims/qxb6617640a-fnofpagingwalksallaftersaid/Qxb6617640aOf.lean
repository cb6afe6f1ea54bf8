import Derived.Test.Qxb6617640aSearch
namespace Go.Proofs.Qxb6617640a
open Go.RowKit
set_option linter.unusedVariables false

/-- How many names a page holds where r are still to come. -/
def pg (limit : Int) (r : Nat) : Nat := if 0 < limit ∧ limit < r then limit.toNat else r

/-- What Page.Of leaves. -/
def OfPost (S : Nat → ByteArray) (n b off : Nat) (x : ByteArray) (limit : Int) (w : World) (e : Ending) (w' : World) : Prop :=
  ∃ (p : Nat) (A : Option Addr) (C : Nat), First S n x p ∧ e = .returned (.slice A (pg limit (n - p)) C) ∧ (p < n → A = some ⟨b, off + p, none⟩) ∧ Below w.heap.size w w'

theorem OfPost.mk {S : Nat → ByteArray} {n b off : Nat} {x : ByteArray} {limit : Int} {w w' : World} {e : Ending} (p : Nat) (A : Option Addr) (L C : Nat) (h1 : First S n x p) (h2 : e = .returned (.slice A L C)) (h3 : pg limit (n - p) = L) (h4 : p < n → A = some ⟨b, off + p, none⟩) (h5 : Below w.heap.size w w') :
    OfPost S n b off x limit w e w' := ⟨p, A, C, h1, by rw [h3]; exact h2, h4, h5⟩

set_option maxHeartbeats 400000 in
theorem of_some (b off n cap : Nat) (S : Nat → ByteArray) (x : ByteArray) (limit : Int) (w : World) (hn : n ≤ 1048576) (hcap : n ≤ cap) (hup : Up S n)
    (hb : b < w.heap.size) (hc : ∀ t, t < n → w.cell? ⟨b, off + t, none⟩ = some (.string (S t))) :
    Calls Try.prog 5 #[.agg #[.string x, .int .i64 limit], .slice (some ⟨b, off, none⟩) n cap] w fun e w' => OfPost S n b off x limit w e w' := by
  have hs := fun w1 (h : Below w.heap.size w w1) => search_any b off n cap S x w1 hn hup (fun t ht => (h.cell (by exact hb)).trans (hc t ht))
  have HS : Hid (∀ w1, Below w.heap.size w w1 → Calls Try.prog 6 #[.slice (some ⟨b, off, none⟩) n cap, .string x] w1 fun e w' => SearchPost S n x w1 e w') := hs
  clear hs hc
  go_enter Try.func5, Try.ntmps5
  go_wp2_with fail
  refine (HS.out _ ((Below.refl _ _).alloc (Nat.le_refl _) _)).mono ?_
  rintro e w' ⟨i, f, rfl, rfl, hf, hfi⟩
  cases f
  · have h1 : First S n x i := first_of_missed hup hf (fun h e => by have := hfi.2 ⟨h, e⟩; cases this)
    have hle := hf.le
    clear hf hfi
    go_wp2
    all_goals
      go_ret
      exact .mk i _ _ _ h1 rfl (by unfold pg; first | rw [if_pos ⟨by assumption, by assumption⟩] | rw [if_neg (by omega)]) (by intro h; first | rfl | omega) ((Below.refl _ _).alloc (Nat.le_refl _) _)
  · have hi := (hfi.1 rfl).1
    have h1 : First S n x (i + 1) := first_of_found hup hf hi (hfi.1 rfl).2
    clear hf hfi
    go_wp2
    all_goals
      go_ret
      exact .mk (i + 1) _ _ _ h1 rfl (by unfold pg; first | rw [if_pos ⟨by assumption, by assumption⟩] | rw [if_neg (by omega)]) (by intro h; first | rfl | omega) ((Below.refl _ _).alloc (Nat.le_refl _) _)

/-- An empty slice, nil or not. -/
theorem search_empty (a : Option Addr) (cap : Nat) (x : ByteArray) (w : World) :
    Calls Try.prog 6 #[.slice a 0 cap, .string x] w fun e w' => e = .returned (.tuple #[.int .i64 0, .bool false]) ∧ w = w' := by
  go_enter Try.func6, Try.ntmps6
  go_wp2
  refine wp_loop_rounds 1 ?_
  rw [rounds_succ]
  go_wp2
  go_ret2
  exact ⟨rfl, rfl⟩

/-- What Page.Of leaves at an empty slice. -/
def EmptyPost (w : World) (e : Ending) (w' : World) : Prop := ∃ A C, e = .returned (.slice A 0 C) ∧ Below w.heap.size w w'
theorem EmptyPost.mk {w w' : World} {e : Ending} (A : Option Addr) (C : Nat) (h1 : e = .returned (.slice A 0 C)) (h2 : Below w.heap.size w w') : EmptyPost w e w' := ⟨A, C, h1, h2⟩

set_option maxHeartbeats 400000 in
theorem of_empty (a : Option Addr) (cap : Nat) (x : ByteArray) (limit : Int) (w : World) (ha : a = none → cap = 0) :
    Calls Try.prog 5 #[.agg #[.string x, .int .i64 limit], .slice a 0 cap] w fun e w' => EmptyPost w e w' := by
  rcases a with _ | ⟨b, off, sp⟩
  · obtain rfl := ha rfl
    clear ha
    go_enter Try.func5, Try.ntmps5
    go_wp2_with (go_at_call 6; refine (search_empty _ _ _ _).mono ?_; rintro e w' ⟨rfl, rfl⟩)
    all_goals (go_ret; exact .mk _ _ rfl ((Below.refl _ _).alloc (Nat.le_refl _) _))
  · clear ha
    go_enter Try.func5, Try.ntmps5
    go_wp2_with (go_at_call 6; refine (search_empty _ _ _ _).mono ?_; rintro e w' ⟨rfl, rfl⟩)
    all_goals (go_ret; exact .mk _ _ rfl ((Below.refl _ _).alloc (Nat.le_refl _) _))
end Go.Proofs.Qxb6617640a
