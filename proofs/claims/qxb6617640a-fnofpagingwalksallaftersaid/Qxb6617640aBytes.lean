import Derived.Test.Qxb6617640aOf
namespace Go.Proofs.Qxb6617640a
open Go.RowKit
set_option linter.unusedVariables false

/-- A slice of strings that came in, as the walk reads it. -/
def Rd (w : World) (a : Option Addr) (n : Nat) (S : Nat → ByteArray) : Prop :=
  0 < n → ∃ b off, a = some ⟨b, off, none⟩ ∧ b < w.heap.size ∧ ∀ t, t < n → w.cell? ⟨b, off + t, none⟩ = some (.string (S t))

def BytesPost (n : Nat) (S : Nat → ByteArray) (x : ByteArray) (w : World) (e : Ending) (w' : World) : Prop :=
  ∃ b : Bool, e = .returned (.bool b) ∧ w = w' ∧ (b = true → n ≤ 1048576 ∧ (∀ t, t < n → (S t).size ≤ 1048576) ∧ x.size ≤ 1048576)
theorem BytesPost.no {n : Nat} {S : Nat → ByteArray} {x : ByteArray} {w w' : World} {e : Ending} (h : e = .returned (.bool false)) (h2 : w = w') : BytesPost n S x w e w' := ⟨false, h, h2, fun h => by cases h⟩
theorem BytesPost.yes {n : Nat} {S : Nat → ByteArray} {x : ByteArray} {w w' : World} {e : Ending} (h : e = .returned (.bool true)) (h2 : w = w') (h3 : n ≤ 1048576) (h4 : ∀ t, t < n → (S t).size ≤ 1048576) (h5 : x.size ≤ 1048576) : BytesPost n S x w e w' := ⟨true, h, h2, fun _ => ⟨h3, h4, h5⟩⟩

set_option maxHeartbeats 400000 in
theorem bytes_any (a : Option Addr) (n cap : Nat) (S : Nat → ByteArray) (x : ByteArray) (limit : Int) (w : World) (r : Rd w a n S) (hn : n ≤ 9223372036854775807) (hx : x.size ≤ 9223372036854775807) :
    Calls Try.prog 4 #[.slice a n cap, .string x, .int .i64 limit] w fun e w' => BytesPost n S x w e w' := by
  by_cases hn1 : 1048576 < n
  · go_enter Try.func4, Try.ntmps4
    go_wp2
    go_ret
    exact .no rfl rfl
  go_enter Try.func4, Try.ntmps4
  go_wp2
  go_loop [7, 8] (fun z i => ∃ (k : Nat) (q : Int), k ≤ n ∧ 0 ≤ q ∧ q ≤ 1048576 ∧ z = .int .i64 q ∧ i = .int .i64 k ∧ Hid (∀ t, t < k → (S t).size ≤ 1048576)) (fun _ i => n - (intOf i).toNat)
  case atStart => exact ⟨0, n, Nat.zero_le _, by omega, by omega, rfl, rfl, fun t ht => by omega⟩
  case round =>
    obtain ⟨k, q, hk, hq0, hq1, rfl, rfl, hall⟩ := hrel
    by_cases hlt : k < n
    · obtain ⟨b, off, rfl, hb, hc⟩ := r (by omega)
      have c1 := hc k hlt
      clear hc
      by_cases hs : (S k).size ≤ 1048576
      · by_cases hs2 : q + (S k).size ≤ 1048576
        · go_wp2
          go_round
          case rel =>
            refine ⟨k + 1, q + (S k).size, by omega, by omega, hs2, rfl, by go_num, fun t ht => ?_⟩
            by_cases e : t = k
            · subst e; exact hs
            · exact hall.out t (by omega)
          case measure => simp [intOf]; omega
        · go_wp2
          go_ret
          exact .no rfl rfl
      · go_wp2
        go_ret
        exact .no rfl rfl
    · obtain rfl : k = n := by omega
      by_cases hs : x.size ≤ 1048576
      · by_cases hs2 : q + x.size ≤ 1048576
        · go_wp2
          go_ret
          exact .yes rfl rfl (by omega) hall.out hs
        · go_wp2
          go_ret
          exact .no rfl rfl
      · go_wp2
        go_ret
        exact .no rfl rfl
end Go.Proofs.Qxb6617640a
