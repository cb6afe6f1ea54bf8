import Derived.Test.Qxb6616659aSwapWorld
import Derived.Lib.Builder
namespace Go.Proofs.Qxb6616659a
open Go.RowKit
set_option linter.unusedVariables false

theorem Try.info26 : (Try.prog.info? 26).map (fun i => (i.zero, i.size, i.bytes)) = some (some (.pointer none), 1, 8) := by kernel_rfl
theorem Try.info3 : (Try.prog.info? 3).map (fun i => (i.zero, i.size, i.bytes)) = some (some (.int .i64 0), 1, 8) := by kernel_rfl

theorem Try.info32 : (Try.prog.info? 32).map (fun i => i.size) = some 6 := by kernel_rfl
theorem neq26 (a : Addr) (w : World) : (binOp .neq 26 (.pointer (some a)) (.pointer (some a))).run Try.prog w = .ok (.bool false) w := by
  obtain ⟨j, hj, _⟩ := Option.map_eq_some_iff.1 Try.info32
  exact Lib.run_neq_ptr_same w a Try.underlying26 hj

/-- A slice of integers that came in, as the walk reads it. -/
def Rd (w : World) (a : Option Addr) (len : Nat) (Z : Nat → Int) : Prop :=
  0 < len → ∃ b off, a = some ⟨b, off, none⟩ ∧ b < w.heap.size ∧ ∀ j, j < len → w.cell? ⟨b, off + j, none⟩ = some (.int .i64 (Z j))

theorem new_hid (nth idx : Int) (w : World) :
    Calls Try.prog 5 #[.int .i64 nth, .int .i64 idx] w fun e w' => e = .returned (.pointer (some ⟨w.heap.size, 0, none⟩)) ∧ Hid (w' = w.alloc (.cells (claimCells nth idx) 32)) :=
  new_any nth idx w

theorem bu_facts {B n : Nat} {Z : Nat → Int} {k : Nat} {w wr w1 : World} {o : Obj} (h : Bu B n Z k w wr) (hk : k < n) (hw : Hid (w1 = wr.alloc o)) :
    w1.cell? ⟨B, k, none⟩ = some (.pointer none) ∧ w1.cell? ⟨B + 1, k, none⟩ = some (.pointer none) ∧ w1.cell? ⟨B + 1 + 1, k, none⟩ = some (.int .i64 0) ∧
    w1.frozen? ⟨B, k, none⟩ = false ∧ w1.frozen? ⟨B + 1, k, none⟩ = false ∧ w1.frozen? ⟨B + 1 + 1, k, none⟩ = false := by
  rw [hw.out]
  refine ⟨?_, ?_, ?_, (h.q.alloc o).frozen k, (h.o.alloc o).frozen k, (h.p.alloc o).frozen k⟩
  · rw [(h.q.alloc o).cell hk]; simp
  · rw [(h.o.alloc o).cell hk]; simp
  · rw [show B + 1 + 1 = B + 2 from rfl, (h.p.alloc o).cell hk]; simp

theorem swap_st {B n : Nat} {Z : Nat → Int} {s : Nat → Nat} {w wr : World} (h : St B n Z s w wr) (i j : Nat) (hi : i < n) (hj : j < n) :
    Calls Try.prog 6 #[.slice (some ⟨B, 0, none⟩) n n, .int .i64 i, .int .i64 j] wr fun e w1 => e = .returned (.tuple #[]) ∧ Mid B n Z s (sw s i j) w w1 := by
  by_cases e : i = j
  · subst e
    refine (swap_same wr B n i (B + 3 + s i) _ hi (h.q.cell hi) (h.q.frozen i) ((h.c i hi).cell (by decide)) ((h.c i hi).frozen 4) (by omega)).mono ?_
    rintro e w1 ⟨rfl, ha, ht⟩
    exact ⟨rfl, mid_of h hi hi ha ht⟩
  · have hne : s i ≠ s j := fun x => e (h.inj _ _ hi hj x)
    refine (swap_diff wr B n i j (B + 3 + s i) (B + 3 + s j) _ _ hi hj e (h.q.cell hi) (h.q.frozen i) (h.q.cell hj) (h.q.frozen j) ((h.c i hi).cell (by decide)) ((h.c i hi).frozen 4) (by omega) ((h.c j hj).cell (by decide)) ((h.c j hj).frozen 4) (by omega) (by omega)).mono ?_
    rintro e w1 ⟨rfl, ha, ht⟩
    exact ⟨rfl, mid_of h hi hj ha ht⟩

theorem mid_facts {B n : Nat} {Z : Nat → Int} {s s' : Nat → Nat} {w w1 : World} (h : Mid B n Z s s' w w1) {i j a c : Nat} (hi : i < n) (hj : j < n) (ha : Hid (s i = a)) (hc : Hid (s j = c)) :
    w1.cell? ⟨B + 1 + 1, i, none⟩ = some (.int .i64 (a : Int)) ∧ w1.cell? ⟨B + 1 + 1, j, none⟩ = some (.int .i64 (c : Int)) ∧ w1.frozen? ⟨B + 1 + 1, i, none⟩ = false ∧ w1.frozen? ⟨B + 1 + 1, j, none⟩ = false ∧
    ∃ v, (w1.setCell ⟨B + 1 + 1, i, none⟩ (.int .i64 (c : Int))).cell? ⟨B + 1 + 1, j, none⟩ = some v := by
  have e1 : w1.cell? ⟨B + 1 + 1, i, none⟩ = some (.int .i64 (a : Int)) := by rw [← ha.out]; exact h.p.cell hi
  have e2 : w1.cell? ⟨B + 1 + 1, j, none⟩ = some (.int .i64 (c : Int)) := by rw [← hc.out]; exact h.p.cell hj
  exact ⟨e1, e2, h.p.frozen i, h.p.frozen j, cell?_setCell_some e2⟩

set_option maxRecDepth 100000 in
set_option maxHeartbeats 1000000 in
theorem walk_main (a0 : Option Addr) (n cap0 : Nat) (Z0 : Nat → Int) (a1 : Option Addr) (m cap1 : Nat) (Z1 : Nat → Int) (a2 : Option Addr) (cap2 : Nat) (Z2 : Nat → Int) (w : World)
    (r0 : Rd w a0 n Z0) (r1 : Rd w a1 m Z1) (r2 : Rd w a2 m Z2) (hn : n ≤ 32768) (hm : m ≤ 32768) :
    Calls Try.prog 3 #[.slice a0 n cap0, .slice a1 m cap1, .slice a2 m cap2] w fun e w' => e = .returned (.bool true) ∧ Below w.heap.size w w' := by
  have hmk25 := run_make_row' (P := Try.prog) 25 26 (.pointer none) 8 Try.underlying25 Try.info26 rfl .i64 .i64 n (by omega) (by omega)
  have hmk22 := run_make_row' (P := Try.prog) 22 3 (.int .i64 0) 8 Try.underlying22 Try.info3 rfl .i64 .i64 n (by omega) (by omega)
  go_enter Try.func3, Try.ntmps3
  go_wp2_with (go_at_call 4; refine (bytes_yes _ _ _ _ _ _ _ _ _ _ (by omega)).mono ?_; rintro e w' ⟨rfl, rfl⟩)
  go_loop [8] (fun i => ∃ k : Nat, k ≤ m ∧ i = .int .i64 k ∧ Hid (∀ t, t < k → 0 ≤ Z1 t ∧ Z1 t < n ∧ 0 ≤ Z2 t ∧ Z2 t < n)) (fun i => m - (intOf i).toNat)
  case atStart => exact ⟨0, Nat.zero_le _, rfl, fun t ht => by omega⟩
  case round =>
    obtain ⟨k, hk, rfl, hall⟩ := hrel
    by_cases hlt : k < m
    · obtain ⟨b1, o1, rfl, hb1, hc1⟩ := r1 (by omega)
      obtain ⟨b2, o2, rfl, hb2, hc2⟩ := r2 (by omega)
      have c1 := hc1 k hlt
      have c2 := hc2 k hlt
      clear hc1 hc2 hmk25 hmk22 r0
      have hl : Hid (∀ t, t < k → 0 ≤ Z1 t ∧ Z1 t < n ∧ 0 ≤ Z2 t ∧ Z2 t < n) := hall
      go_wp2
      case roundEnd =>
        go_round
        case rel =>
          refine ⟨k + 1, by omega, by go_num, fun t ht => ?_⟩
          by_cases e : t = k
          · subst e; omega
          · exact hl.out t (by omega)
        case measure => simp [intOf]; omega
      all_goals (go_ret; exact ⟨rfl, Below.refl _ _⟩)
    · obtain rfl : k = m := by omega
      have hst := bu_start w n Z0
      go_wp2
      clear hmk25 hmk22
      go_loopw [12] (fun i wr => ∃ t : Nat, t ≤ n ∧ i = .int .i64 t ∧ Bu w.heap.size n Z0 t w wr) (fun i _ => n - (intOf i).toNat)
      case atStart => exact ⟨0, Nat.zero_le _, rfl, hst⟩
      case round =>
        clear hst
        obtain ⟨t, ht, rfl, hbu⟩ := hrel
        by_cases hlt2 : t < n
        · obtain ⟨b0, o0, rfl, hb0, hc0⟩ := r0 (by omega)
          have c0 : wr.cell? ⟨b0, o0 + t, none⟩ = some (.int .i64 (Z0 t)) := (hbu.below.cell (by exact hb0)).trans (hc0 t hlt2)
          clear hc0 r1 r2
          go_wp2_with (go_at_call 5; refine (new_hid _ _ _).mono ?_; rintro e w1 ⟨rfl, hw1⟩; obtain ⟨q0, q1, q2, f0, f1, f2⟩ := bu_facts hbu hlt2 hw1)
          go_roundw
          case rel => exact ⟨t + 1, by omega, by go_num, by have := bu_step hbu hlt2; rw [← hw1.out] at this; exact this⟩
          case measure => simp [intOf]; omega
        · obtain rfl : t = n := by omega
          have hst := st_start hbu
          clear hbu
          go_wp2
          go_loopw [14] (fun x wr => ∃ u : Nat, u ≤ k ∧ x = .int .i64 u ∧ ∃ s, St w.heap.size t Z0 s w wr) (fun x _ => k - (intOf x).toNat)
          case atStart => exact ⟨0, Nat.zero_le _, rfl, id, hst⟩
          case round =>
            clear hst
            obtain ⟨u, hu, rfl, s, hst⟩ := hrel
            by_cases hlt3 : u < k
            · obtain ⟨b1, o1, rfl, hb1, hc1⟩ := r1 (by omega)
              obtain ⟨b2, o2, rfl, hb2, hc2⟩ := r2 (by omega)
              obtain ⟨i, j, hi, hj, e1, e2⟩ : ∃ i j : Nat, i < t ∧ j < t ∧ Z1 u = i ∧ Z2 u = j := by
                have := hall.out u hlt3
                exact ⟨(Z1 u).toNat, (Z2 u).toNat, by omega, by omega, by omega, by omega⟩
              have c1 : wr.cell? ⟨b1, o1 + u, none⟩ = some (.int .i64 (i : Int)) := by rw [← e1]; exact (hst.below.cell (by exact hb1)).trans (hc1 u hlt3)
              have c2 : wr.cell? ⟨b2, o2 + u, none⟩ = some (.int .i64 (j : Int)) := by rw [← e2]; exact (hst.below.cell (by exact hb2)).trans (hc2 u hlt3)
              clear e1 e2 hc1 hc2 hall
              obtain ⟨a, ha⟩ : ∃ a, Hid (s i = a) := ⟨_, rfl⟩
              obtain ⟨c, hc⟩ : ∃ c, Hid (s j = c) := ⟨_, rfl⟩
              go_wp2_with (go_at_call 6; refine (swap_st hst i j hi hj).mono ?_; rintro e w1 ⟨rfl, hmid⟩; obtain ⟨p1, p2, p3, p4, v, p5⟩ := mid_facts hmid hi hj ha hc)
              go_roundw
              case rel => exact ⟨u + 1, by omega, by go_num, sw s i j, by have := st_of_mid hmid; rw [ha.out, hc.out] at this; exact this⟩
              case measure => simp [intOf]; omega
            · obtain rfl : u = k := by omega
              clear hall r1 r2
              go_wp2
              go_loopw [19] (fun x wr => ∃ v : Nat, v ≤ t ∧ x = .int .i64 v ∧ St w.heap.size t Z0 s w wr) (fun x _ => t - (intOf x).toNat)
              case atStart => exact ⟨0, Nat.zero_le _, rfl, hst⟩
              case round =>
                clear hst
                obtain ⟨v, hv, rfl, hst⟩ := hrel
                by_cases hlt4 : v < t
                · obtain ⟨b0, o0, rfl, hb0, hc0⟩ := r0 (by omega)
                  obtain ⟨c, hc⟩ : ∃ c, Hid (s v = c) := ⟨_, rfl⟩
                  have hct : (c : Int) < (t : Int) := by have := hst.lt v hlt4; rw [hc.out] at this; omega
                  have hc00 : (0 : Int) ≤ (c : Int) := by omega
                  have hv0 : (0 : Int) ≤ (v : Int) := by omega
                  have hvt : (v : Int) < (t : Int) := by omega
                  have c0 : wr.cell? ⟨b0, o0 + c, none⟩ = some (.int .i64 (Z0 c)) := (hst.below.cell (by exact hb0)).trans (hc0 c (by omega))
                  have g1 : wr.cell? ⟨w.heap.size, v, none⟩ = some (.pointer (some ⟨w.heap.size + 3 + c, 0, none⟩)) := by rw [← hc.out]; exact hst.q.cell hlt4
                  have g2 : wr.cell? ⟨w.heap.size + 1, c, none⟩ = some (.pointer (some ⟨w.heap.size + 3 + c, 0, none⟩)) := hst.o.cell (by omega)
                  have g3 : wr.cell? ⟨w.heap.size + 1 + 1, v, none⟩ = some (.int .i64 (c : Int)) := by rw [← hc.out]; exact hst.p.cell hlt4
                  have g4 : wr.cell? ⟨w.heap.size + 3 + c, 4, none⟩ = some (.int .i64 (v : Int)) := by rw [← hc.out]; exact (hst.c v hlt4).cell (by decide)
                  have g5 : wr.cell? ⟨w.heap.size + 3 + c, 3, none⟩ = some (.int .i64 (Z0 c)) := by rw [← hc.out]; exact (hst.c v hlt4).cell (by decide)
                  clear hc0
                  have hneq := neq26
                  go_wp2
                  go_quiet ((first | (go_at_call 7; refine Calls.quiet_of_same (index_any _ _ _ g4)) | (go_at_call 8; refine Calls.quiet_of_same (nth_any _ _ _ g5))))
                  go_wp2
                  go_roundw
                  case rel => exact ⟨v + 1, by omega, by go_num, st_drewN hst _⟩
                  case measure => simp [intOf]; omega
                · go_wp2
                  go_ret
                  exact ⟨rfl, hst.below⟩
end Go.Proofs.Qxb6616659a
