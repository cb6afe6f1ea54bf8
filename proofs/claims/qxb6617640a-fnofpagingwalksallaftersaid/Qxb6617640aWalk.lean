import Derived.Test.Qxb6617640aBytes
import Derived.OwnWalk
namespace Go.Proofs.Qxb6617640a
open Go.RowKit
set_option linter.unusedVariables false

/-- Page.Of at any slice of names in order: what the law's walk asks of it. -/
def OfAt (S : Nat → ByteArray) (n q : Nat) (limit : Int) (w : World) (e : Ending) (w' : World) : Prop :=
  ∃ (A : Option Addr) (C : Nat), e = .returned (.slice A (pg limit (n - q)) C) ∧ Below w.heap.size w w' ∧
    (q < n → ∃ b o, A = some ⟨b, o, none⟩ ∧ b < w.heap.size ∧ ∀ j, j < n - q → w.cell? ⟨b, o + j, none⟩ = some (.string (S (q + j))))

theorem pg_zero (limit : Int) : pg limit 0 = 0 := by
  unfold pg
  by_cases h : 0 < limit ∧ limit < (0 : Nat)
  · rw [if_pos h]; omega
  · rw [if_neg h]

theorem of_at {a : Option Addr} {n cap : Nat} {S : Nat → ByteArray} {x : ByteArray} (limit : Int) {w : World} {q : Nat} (r : Rd w a n S) (ha : a = none → cap = 0) (hn : n ≤ 1048576) (hcap : n ≤ cap) (hup : Up S n) (hq : First S n x q) :
    Calls Try.prog 5 #[.agg #[.string x, .int .i64 limit], .slice a n cap] w fun e w' => OfAt S n q limit w e w' := by
  by_cases h0 : 0 < n
  · obtain ⟨b, off, rfl, hb, hc⟩ := r h0
    refine (of_some b off n cap S x limit w hn hcap hup hb hc).mono ?_
    rintro e w' ⟨p, A, C, h1, h2, h3, h4⟩
    obtain rfl := first_unique h1 hq
    exact ⟨A, C, h2, h4, fun h => ⟨b, off + p, h3 h, hb, fun j hj => by rw [Nat.add_assoc]; exact hc _ (by omega)⟩⟩
  · obtain rfl : n = 0 := by omega
    refine (of_empty a cap x limit w ha).mono ?_
    rintro e w' ⟨A, C, h1, h2⟩
    refine ⟨A, C, ?_, h2, fun h => by omega⟩
    rw [Nat.zero_sub, pg_zero]
    exact h1

theorem Rd.below {w w' : World} {a : Option Addr} {n : Nat} {S : Nat → ByteArray} (r : Rd w a n S) (h : Below w.heap.size w w') : Rd w' a n S := by
  intro h0
  obtain ⟨b, off, ha, hb, hc⟩ := r h0
  exact ⟨b, off, ha, Nat.lt_of_lt_of_le hb h.size, fun t ht => (h.cell (by exact hb)).trans (hc t ht)⟩

theorem Try.info9 : (Try.prog.info? 9).map (fun i => (i.zero, i.size, i.bytes)) = some (some (.string ByteArray.empty), 1, 16) := by kernel_rfl

/-- The wanted names' cells. -/
def W (S : Nat → ByteArray) (p c : Nat) : List Value := (List.range c).map fun j => .string (S (p + j))
theorem W_len (S : Nat → ByteArray) (p c : Nat) : (W S p c).length = c := by simp [W]
theorem W_succ (S : Nat → ByteArray) (p c k : Nat) (h : p + c = k) : W S p c ++ [.string (S k)] = W S p (c + 1) := by
  subst h
  simp [W, List.range_succ]
theorem W_get (S : Nat → ByteArray) (p c j : Nat) (h : j < c) : (W S p c)[j]? = some (.string (S (p + j))) := by
  simp [W, h]

/-- What the third loop has gathered. -/
structure Got (S : Nat → ByteArray) (B n p c : Nat) (w wr : World) : Prop where
  own : wr.ownsRow w.heap.size 9 1 (.slice (some ⟨B, 0, none⟩) c n) c (W S p c)
  below : Below w.heap.size w wr

theorem Got.step {S : Nat → ByteArray} {B n p c k : Nat} {w wr w1 : World} {o : Obj} (h : Got S B n p c w wr) (hk : p + c = k) (hB : w.heap.size ≤ B)
    (hown : w1.ownsRow w.heap.size 9 1 (.slice (some ⟨B, 0, none⟩) (c + 1) n) (c + 1) (W S p c ++ [.string (S k)])) (hg : (wr.alloc o).grownBy w1 (some B)) : Got S B n p (c + 1) w w1 :=
  ⟨by rw [W_succ S p c k hk] at hown; exact hown, (h.below.alloc h.below.size o).grown hg (by have := h.below.size; simp; omega) (fun j e => by cases e; exact hB)⟩

theorem Got.cell {S : Nat → ByteArray} {B n p c : Nat} {w wr : World} (h : Got S B n p c w wr) : ∀ j, j < c → wr.cell? ⟨B, j, none⟩ = some (.string (S (p + j))) := by
  intro j hj
  rw [h.own.cellAt j (by omega), W_get S p c j hj]

theorem Got.lt {S : Nat → ByteArray} {B n p c : Nat} {w wr : World} (h : Got S B n p c w wr) : B < wr.heap.size := by
  rcases h.own.2 with ⟨h', _⟩ | ⟨g, cap', cur, h', _, hg, _⟩
  · simp at h'
  · simp only [Value.slice.injEq, Option.some.injEq, Addr.mk.injEq, and_true, true_and] at h'
    obtain ⟨rfl, _⟩ := h'
    obtain ⟨hlt, _⟩ := Array.getElem?_eq_some_iff.1 hg
    exact hlt

/-- What stands while the pages are walked: d names are done. -/
structure Run (S : Nat → ByteArray) (B n p m d : Nat) (c : ByteArray) (w wr : World) : Prop where
  first : First S n c (p + d)
  below : Below w.heap.size w wr
  cell : ∀ j, j < m → wr.cell? ⟨B, j, none⟩ = some (.string (S (p + j)))
  lt : B < wr.heap.size

theorem Run.next {S : Nat → ByteArray} {B n p m d d' : Nat} {c c' : ByteArray} {w wr w1 : World} (h : Run S B n p m d c w wr) (hb : Below wr.heap.size wr w1) (hf : First S n c' (p + d')) (q : Nat) : Run S B n p m d' c' w (w1.drewN q) :=
  ⟨hf, (h.below.trans (hb.mono h.below.size)).trans ⟨rfl, rfl, rfl, Nat.le_refl _, fun _ _ => rfl⟩, fun j hj => ((hb.cell (p := ⟨B, j, none⟩) h.lt).trans (h.cell j hj)), Nat.lt_of_lt_of_le h.lt hb.size⟩

theorem pg_pos {l : Nat} {r : Nat} (h1 : 0 < l) (h2 : l < r) : pg (l : Int) r = l := by
  unfold pg; rw [if_pos (by omega)]; omega
theorem pg_all {limit : Int} {r : Nat} (h : ¬ (0 < limit ∧ limit < r)) : pg limit r = r := by
  unfold pg; rw [if_neg h]

set_option maxRecDepth 100000 in
set_option maxHeartbeats 1000000 in
theorem walk_main (a : Option Addr) (n cap : Nat) (S : Nat → ByteArray) (x : ByteArray) (limit : Int) (w : World) (r : Rd w a n S) (ha : a = none → cap = 0) (hcap : n ≤ cap) (hn0 : n ≤ 9223372036854775807) (hx0 : x.size ≤ 9223372036854775807) :
    Calls Try.prog 3 #[.slice a n cap, .string x, .int .i64 limit] w fun e w' => e = .returned (.bool true) ∧ Below w.heap.size w w' := by
  go_enter Try.func3, Try.ntmps3
  go_wp2_with fail
  refine (bytes_any a n cap S x limit w r hn0 hx0).mono ?_
  clear hn0 hx0
  rintro e w' ⟨b, rfl, rfl, hb⟩
  cases b
  · clear hb
    go_wp2
    go_ret
    exact ⟨rfl, Below.refl _ _⟩
  obtain ⟨_, hS', hx⟩ := hb rfl
  have hS : Hid (∀ t, t < n → (S t).size ≤ 1048576) := hS'
  clear hb hS'
  by_cases hn1 : 65536 < n
  · go_wp2
    go_ret
    exact ⟨rfl, Below.refl _ _⟩
  have hn : n ≤ 65536 := by omega
  clear hn1
  go_wp2
  go_loop [7, 8] (fun z i => ∃ (k : Nat) (q : Int), k ≤ n ∧ 0 ≤ q ∧ q ≤ 1048576 ∧ z = .int .i64 q ∧ i = .int .i64 k) (fun _ i => n - (intOf i).toNat)
  case atStart => exact ⟨0, x.size, Nat.zero_le _, by omega, by omega, rfl, rfl⟩
  case round =>
    obtain ⟨k, q, hk, hq0, hq1, rfl, rfl⟩ := hrel
    by_cases hlt : k < n
    · obtain ⟨b, off, rfl, hb, hc⟩ := r (by omega)
      have c1 := hc k hlt
      have hs := hS.out k hlt
      clear hc
      by_cases hs2 : q + (16 + (S k).size) ≤ 1048576
      · go_wp2
        go_round
        case rel => exact ⟨k + 1, q + (16 + (S k).size), by omega, by omega, hs2, rfl, by go_num⟩
        case measure => simp [intOf]; omega
      · go_wp2
        go_ret
        exact ⟨rfl, Below.refl _ _⟩
    · clear hS
      go_wp2
      go_loopw [9] (fun i wr => ∃ k : Nat, 1 ≤ k ∧ (k ≤ n ∨ k = 1) ∧ i = .int .i64 k ∧ Hid (∀ t, 1 ≤ t → t < k → ls (S (t - 1)) (S t) = true) ∧ Below w.heap.size w wr) (fun i _ => n - (intOf i).toNat)
      case atStart => exact ⟨1, by omega, Or.inr rfl, rfl, fun t a b => by omega, Below.refl _ _⟩
      case round =>
        obtain ⟨k2, hk1, hk2, rfl, hall, hbel⟩ := hrel
        by_cases hlt2 : k2 < n
        · obtain ⟨b, off, rfl, hb, hc⟩ := r.below hbel (by omega)
          have c0 := hc (k2 - 1) (by omega)
          have c1 := hc k2 hlt2
          clear hc hk2
          cases hl : Op.bytesLess (S (k2 - 1)).toList (S k2).toList
          · go_wp2
            go_quiet (fail)
            go_wp2
            go_ret
            exact ⟨rfl, hbel.trans ⟨rfl, rfl, rfl, Nat.le_refl _, fun _ _ => rfl⟩⟩
          · go_wp2
            go_quiet (fail)
            go_wp2
            go_roundw
            case rel =>
              refine ⟨k2 + 1, by omega, Or.inl (by omega), by go_num, fun t a b => ?_, hbel.trans ⟨rfl, rfl, rfl, Nat.le_refl _, fun _ _ => rfl⟩⟩
              by_cases e : t = k2
              · subst e; exact hl
              · exact hall.out t a (by omega)
            case measure => simp [intOf]; omega
        · have hup : Up S n := up_of_steps fun t a b => hall.out t a (by omega)
          obtain ⟨p, hp⟩ := first_ex hup x
          clear hall hk2
          obtain ⟨w2, rfl⟩ : ∃ w2 : World, w2 = wr := ⟨_, rfl⟩
          obtain ⟨i0, hi, hz0, hz1, hz2⟩ := info_parts Try.info9
          go_wp2_with (at_make; refine wpList_make_own _ rfl _ _ 22 rfl w.heap.size 9 i0 (.string ByteArray.empty) 1 Try.underlying22 hi hz0 hz1 .i64 .i64 n n rfl rfl rfl (by rw [hz2]; omega) (by unfold maxLen; omega) hbel.size ?_; intro w3 hown3 hgrow3)
          have hbel3 : Below w.heap.size w w3 := hbel.grown hgrow3 hbel.size (fun k h => by cases h)
          have hBw := hbel.size
          have hgot : Got S w2.heap.size n p 0 w w3 := ⟨hown3, hbel3⟩
          clear hown3 hbel3 hgrow3 hbel
          generalize w2.heap.size = B at hBw hgot ⊢
          go_loopw [10, 11] (fun v i wr => ∃ k c : Nat, k ≤ n ∧ Hid (c = k - p) ∧ v = .slice (some ⟨B, 0, none⟩) c n ∧ i = .int .i64 k ∧ Got S B n p c w wr) (fun _ i _ => n - (intOf i).toNat)
          case atStart => exact ⟨0, 0, Nat.zero_le _, (Nat.zero_sub _).symm, rfl, rfl, hgot⟩
          case round =>
            clear hgot
            obtain ⟨k3, c, hk3, hc3, rfl, rfl, hgot⟩ := hrel
            by_cases hlt3 : k3 < n
            · obtain ⟨b, off, rfl, hb, hc⟩ := r.below hgot.below (by omega)
              have c1 := hc k3 hlt3
              clear hc
              cases hl : ls x (S k3)
              · have hkp : k3 < p := by
                  rcases Nat.lt_or_ge k3 p with h | h
                  · exact h
                  · rw [hp.high k3 h hlt3] at hl; cases hl
                have hc0 : c = k3 + 1 - p := by have := hc3.out; omega
                have HC0 : Hid (c = k3 + 1 - p) := hc0
                clear hc0
                cases hl1 : Op.bytesLess (S k3).toList x.toList
                · have hl2 : ((S k3).toList == x.toList) = true := by
                    rw [beq_iff_eq]
                    rcases Classical.em ((S k3).toList = x.toList) with h | h
                    · exact h
                    · have := bl_tri _ _ hl1 h
                      unfold ls at hl
                      rw [hl] at this
                      cases this
                  go_wp2
                  go_roundw
                  case rel => exact ⟨k3 + 1, c, by omega, HC0, rfl, by go_num, hgot⟩
                  case measure => simp [intOf]; omega
                · go_wp2
                  go_roundw
                  case rel => exact ⟨k3 + 1, c, by omega, HC0, rfl, by go_num, hgot⟩
                  case measure => simp [intOf]; omega
              · have hl1 : Op.bytesLess (S k3).toList x.toList = false := bl_asymm _ _ hl
                have hl2 : ((S k3).toList == x.toList) = false := by
                  rw [beq_eq_false_iff_ne]
                  intro h
                  unfold ls at hl
                  rw [← h, bl_irrefl] at hl
                  cases hl
                have hkp : p ≤ k3 := by
                  rcases Nat.lt_or_ge k3 p with h | h
                  · rw [hp.low k3 h] at hl; cases hl
                  · exact h
                have hck : p + c = k3 := by have := hc3.out; omega
                have HCK : Hid (p + c = k3) := hck
                have hcn : c + 1 ≤ n := by omega
                clear hck
                go_wp2_with (at_builtin; refine wpList_append_fits _ rfl _ _ 22 rfl w.heap.size 9 i0 1 Try.underlying22 hi hz1 B c n _ rfl (hgot.own.alloc _) ⟨wr.heap.size, 0, none⟩ 1 1 [.string (S k3)] rfl rfl (by intro t u ht; match t, ht with | 0, ht => simp at ht; subst ht; simp [Addr.add]) (by intro u hu; simp at hu; subst hu; rfl) (by omega) ?_; intro w1 hown1 hgrow1)
                have hg1 := hgot.step HCK.out hBw hown1 hgrow1
                clear hown1 hgrow1
                go_roundw
                case rel => exact ⟨k3 + 1, c + 1, by omega, by have := HCK.out; show c + 1 = k3 + 1 - p; omega, rfl, by go_num, hg1⟩
                case measure => simp [intOf]; omega
            · obtain rfl : k3 = n := by omega
              have hple := hp.le
              have hc3' := hc3.out
              have hrun : Run S B k3 p c 0 x w wr := ⟨hp, hgot.below, hgot.cell, hgot.lt⟩
              have HC : Hid (c = k3 - p) := hc3'
              clear hgot hc3 hp hc3'
              go_wp2
              go_loopw [12, 13, 14] (fun dn cu st wr => ∃ (d k : Nat) (y : ByteArray), d ≤ c ∧ k ≤ d ∧ dn = .int .i64 d ∧ cu = .string y ∧ st = .int .i64 k ∧ Run S B k3 p c d y w wr) (fun _ _ st _ => c + 1 - (intOf st).toNat)
              case atStart => exact ⟨0, 0, x, Nat.zero_le _, Nat.zero_le _, rfl, rfl, rfl, hrun⟩
              case round =>
                clear hrun
                obtain ⟨d, k4, y, hdc, hkd, rfl, rfl, rfl, hrun⟩ := hrel
                have hofat := of_at limit (r.below hrun.below) ha (by omega) hcap hup hrun.first
                have HO : Hid (Calls Try.prog 5 #[.agg #[.string y, .int .i64 limit], .slice a k3 cap] wr fun e w' => OfAt S k3 (p + d) limit wr e w') := hofat
                clear hofat
                have hcn : c ≤ k3 := by have := HC.out; omega
                go_wp2_with fail
                refine HO.out.mono ?_
                clear HO
                rintro e w1 ⟨A, C, rfl, hb1, hA⟩
                have hpd : k3 - (p + d) = c - d := by have := HC.out; omega
                rw [hpd] at hA ⊢
                clear hpd
                by_cases hL : 0 < limit ∧ limit < (c - d : Nat)
                · obtain ⟨l, rfl⟩ := Int.eq_ofNat_of_zero_le (show 0 ≤ limit by omega)
                  have hl0 : 0 < l := by omega
                  have hl1 : l < c - d := by omega
                  rw [pg_pos hl0 hl1]
                  obtain ⟨b, o, rfl, hb, hcells⟩ := hA (by have := HC.out; omega)
                  have hlast : w1.cell? ⟨b, o + (l - 1), none⟩ = some (.string (S (p + d + (l - 1)))) := (hb1.cell (by exact hb)).trans (hcells (l - 1) (by omega))
                  have hcells1 : ∀ j, j < c - d → w1.cell? ⟨b, o + j, none⟩ = some (.string (S (p + d + j))) := fun j hj => (hb1.cell (by exact hb)).trans (hcells j hj)
                  have hwant1 : ∀ j, j < c → w1.cell? ⟨B, j, none⟩ = some (.string (S (p + j))) := fun j hj => (hb1.cell (by exact hrun.lt)).trans (hrun.cell j hj)
                  have HX : Hid (∀ j, j < c - d → w1.cell? ⟨b, o + j, none⟩ = some (.string (S (p + d + j)))) := hcells1
                  have HY : Hid (∀ j, j < c → w1.cell? ⟨B, j, none⟩ = some (.string (S (p + j)))) := hwant1
                  have hlc : d + l < c := by omega
                  have hl00 : ((l : Int) == 0) = false := by rw [beq_eq_false_iff_ne]; omega
                  have hfst : First S k3 (S (p + d + (l - 1))) (p + (d + l)) := by
                    have := first_at hup (i := p + d + (l - 1)) (by have := HC.out; omega)
                    rw [show p + d + (l - 1) + 1 = p + (d + l) from by omega] at this
                    exact this
                  clear hcells hcells1 hwant1 hA hL
                  go_wp2
                  go_loopw [17] (fun v wi => ∃ j t : Nat, j ≤ l ∧ v = .int .i64 j ∧ wi = w1.drewN t) (fun v _ => l - (intOf v).toNat)
                  case atStart => exact ⟨0, 0, Nat.zero_le _, rfl, rfl⟩
                  case round =>
                    obtain ⟨j, t, hj, rfl, rfl⟩ := hrel
                    by_cases hlt5 : j < l
                    · obtain ⟨s, hs⟩ : ∃ s, Hid (S (p + d + j) = s) := ⟨_, rfl⟩
                      have g1 : w1.cell? ⟨b, o + j, none⟩ = some (.string s) := by rw [← hs.out]; exact HX.out j (by omega)
                      have g2 : w1.cell? ⟨B, d + j, none⟩ = some (.string s) := by rw [← hs.out, Nat.add_assoc]; exact HY.out (d + j) (by omega)
                      have k0 : (0 : Int) ≤ (j : Int) := by omega
                      have k1 : (j : Int) < (l : Int) := by omega
                      have k2 : (0 : Int) ≤ (d : Int) + (j : Int) := by omega
                      have k3 : (d : Int) + (j : Int) < (c : Int) := by omega
                      go_wp2
                      go_quiet (fail)
                      go_wp2
                      go_roundw
                      case rel => exact ⟨j + 1, _, by omega, by go_num, rfl⟩
                      case measure => simp [intOf]; omega
                    · go_wp2
                      go_roundw
                      case rel => exact ⟨d + l, k4 + 1, _, by omega, by omega, by go_num, rfl, by go_num, hrun.next hb1 hfst _⟩
                      case measure => simp [intOf]; omega
                · rw [pg_all hL]
                  by_cases hr : c - d = 0
                  · rw [hr]
                    have hz : ((0 : Int) == (c : Int) - d) = true := by rw [beq_iff_eq]; omega
                    go_wp2
                    all_goals (go_ret; exact ⟨rfl, hrun.below.trans (hb1.mono hrun.below.size)⟩)
                  · obtain ⟨e, rfl⟩ : ∃ e, c = d + e := ⟨c - d, by omega⟩
                    rw [show d + e - d = e from by omega] at hA hr ⊢
                    have he0 : 0 < e := by omega
                    obtain ⟨b, o, rfl, hb, hcells⟩ := hA (by have := HC.out; omega)
                    have hlast : w1.cell? ⟨b, o + (e - 1), none⟩ = some (.string (S (p + d + (e - 1)))) := (hb1.cell (by exact hb)).trans (hcells (e - 1) (by omega))
                    have HX : Hid (∀ j, j < e → w1.cell? ⟨b, o + j, none⟩ = some (.string (S (p + d + j)))) := fun j hj => (hb1.cell (by exact hb)).trans (hcells j hj)
                    have HY : Hid (∀ j, j < d + e → w1.cell? ⟨B, j, none⟩ = some (.string (S (p + j)))) := fun j hj => (hb1.cell (by exact hrun.lt)).trans (hrun.cell j hj)
                    have he00 : ((e : Int) == 0) = false := by rw [beq_eq_false_iff_ne]; omega
                    have hfst : First S k3 (S (p + d + (e - 1))) (p + (d + e)) := by
                      have := first_at hup (i := p + d + (e - 1)) (by have := HC.out; omega)
                      rw [show p + d + (e - 1) + 1 = p + (d + e) from by omega] at this
                      exact this
                    clear hcells hA hr
                    by_cases hlim : 0 < limit
                    · have hge : (e : Int) ≤ limit := by omega
                      clear hL
                      go_wp2
                      go_loopw [17] (fun v wi => ∃ j t : Nat, j ≤ e ∧ v = .int .i64 j ∧ wi = w1.drewN t) (fun v _ => e - (intOf v).toNat)
                      case atStart => exact ⟨0, 0, Nat.zero_le _, rfl, rfl⟩
                      case round =>
                        obtain ⟨j, t, hj, rfl, rfl⟩ := hrel
                        by_cases hlt5 : j < e
                        · obtain ⟨s, hs⟩ : ∃ s, Hid (S (p + d + j) = s) := ⟨_, rfl⟩
                          have g1 : w1.cell? ⟨b, o + j, none⟩ = some (.string s) := by rw [← hs.out]; exact HX.out j (by omega)
                          have g2 : w1.cell? ⟨B, d + j, none⟩ = some (.string s) := by rw [← hs.out, Nat.add_assoc]; exact HY.out (d + j) (by omega)
                          have k0 : (0 : Int) ≤ (j : Int) := by omega
                          have k1 : (j : Int) < (e : Int) := by omega
                          have k2 : (0 : Int) ≤ (d : Int) + (j : Int) := by omega
                          have k3 : (d : Int) + (j : Int) < (d : Int) + (e : Int) := by omega
                          go_wp2
                          go_quiet (fail)
                          go_wp2
                          go_roundw
                          case rel => exact ⟨j + 1, _, by omega, by go_num, rfl⟩
                          case measure => simp [intOf]; omega
                        · go_wp2
                          go_roundw
                          case rel => exact ⟨d + e, k4 + 1, _, by omega, by omega, by go_num, rfl, by go_num, hrun.next hb1 hfst _⟩
                          case measure => simp [intOf]; omega
                    · clear hL
                      go_wp2
                      go_loopw [17] (fun v wi => ∃ j t : Nat, j ≤ e ∧ v = .int .i64 j ∧ wi = w1.drewN t) (fun v _ => e - (intOf v).toNat)
                      case atStart => exact ⟨0, 0, Nat.zero_le _, rfl, rfl⟩
                      case round =>
                        obtain ⟨j, t, hj, rfl, rfl⟩ := hrel
                        by_cases hlt5 : j < e
                        · obtain ⟨s, hs⟩ : ∃ s, Hid (S (p + d + j) = s) := ⟨_, rfl⟩
                          have g1 : w1.cell? ⟨b, o + j, none⟩ = some (.string s) := by rw [← hs.out]; exact HX.out j (by omega)
                          have g2 : w1.cell? ⟨B, d + j, none⟩ = some (.string s) := by rw [← hs.out, Nat.add_assoc]; exact HY.out (d + j) (by omega)
                          have k0 : (0 : Int) ≤ (j : Int) := by omega
                          have k1 : (j : Int) < (e : Int) := by omega
                          have k2 : (0 : Int) ≤ (d : Int) + (j : Int) := by omega
                          have k3 : (d : Int) + (j : Int) < (d : Int) + (e : Int) := by omega
                          go_wp2
                          go_quiet (fail)
                          go_wp2
                          go_roundw
                          case rel => exact ⟨j + 1, _, by omega, by go_num, rfl⟩
                          case measure => simp [intOf]; omega
                        · go_wp2
                          go_roundw
                          case rel => exact ⟨d + e, k4 + 1, _, by omega, by omega, by go_num, rfl, by go_num, hrun.next hb1 hfst _⟩
                          case measure => simp [intOf]; omega
end Go.Proofs.Qxb6617640a
