import Derived.Test.Qxb6618276aTie
import Derived.Test.Qxb6618276aRows
import Derived.WalkKit
import Derived.WalkSpells
import Derived.WalkLawsBesides
import Derived.ProofKit
import Derived.Below
import Derived.Laws.Cover4
import Derived.Laws.IdiomStrings
namespace Go.Proofs.Qxb6618276a
open Go.RowKit
set_option linter.unusedVariables false

/-- The code points that []rune(s) lays. -/
def rnF : Nat → List UInt8 → List Nat
  | 0, _ => []
  | f + 1, l => if l = [] then [] else (dn l).1 :: rnF f (l.drop (dn l).2)

theorem drop_nil_iff (s : ByteArray) (i : Nat) : s.data.toList.drop i = [] ↔ ¬ i < s.size := by
  rw [List.drop_eq_nil_iff]
  show s.data.size ≤ i ↔ ¬ i < s.data.size
  omega

theorem runes_rn (s : ByteArray) : ∀ (f i : Nat) (acc : Array Value), (Conv.runesFrom s f i acc).toList = acc.toList ++ (rnF f (s.data.toList.drop i)).map (fun r : Nat => Value.int .i32 (r : Int))
  | 0, i, acc => by simp [Conv.runesFrom, rnF]
  | f + 1, i, acc => by
    unfold Conv.runesFrom rnF
    by_cases h : i < s.size
    · rw [if_pos h, if_neg (by rw [drop_nil_iff]; omega)]
      simp only []
      rw [runes_rn s f, decode_dn]
      simp [List.drop_drop]
    · rw [if_neg h, if_pos (by rw [drop_nil_iff]; exact h)]
      simp

theorem enc_rn : ∀ (f : Nat) (l : List UInt8), (rnF f l).flatMap (fun r : Nat => (Utf8.encode (r : Int)).data.toList) = shF f l
  | 0, l => by simp [rnF, shF]
  | f + 1, l => by
    unfold rnF shF
    by_cases e : l = []
    · rw [if_pos e, if_pos e]; rfl
    · rw [if_neg e, if_neg e]
      by_cases h : wd l = 0
      · rw [if_pos h, tie_bad e h]
        simp only [List.flatMap_cons]
        rw [enc_rn f, enc_bad]
      · rw [if_neg h]
        obtain ⟨r, h1, h2⟩ := tie_good (l := l) (by omega)
        rw [h1]
        simp only [List.flatMap_cons]
        rw [enc_rn f, h2]

theorem foldl_enc : ∀ (ns : List Nat) (b : ByteArray), ((ns.map fun r : Nat => (r : Int)).foldl (fun r n => r ++ Utf8.encode n) b).data.toList = b.data.toList ++ ns.flatMap (fun r : Nat => (Utf8.encode (r : Int)).data.toList)
  | [], b => by simp
  | n :: ns, b => by
    simp only [List.map_cons, List.foldl_cons, List.flatMap_cons]
    rw [foldl_enc ns]
    simp [ByteArray.data_append]

/-- What 'shown' gives, as a string. -/
def shB (s : ByteArray) : ByteArray := ⟨(sh s.data.toList).toArray⟩
theorem shB_list (s : ByteArray) : (shB s).data.toList = sh s.data.toList := by simp [shB]

theorem runesBytes_sh (s : ByteArray) : runesBytes ((rnF s.size s.data.toList).map fun r : Nat => (r : Int)) = shB s := by
  have h := foldl_enc (rnF s.size s.data.toList) ByteArray.empty
  rw [enc_rn] at h
  have hs : shF s.size s.data.toList = sh s.data.toList := rfl
  rw [hs] at h
  unfold runesBytes shB
  apply ByteArray.ext
  apply Array.ext'
  rw [h]
  simp


theorem rn_len : ∀ (f : Nat) (l : List UInt8), (rnF f l).length ≤ f
  | 0, l => by simp [rnF]
  | f + 1, l => by
    unfold rnF
    split
    · simp
    · have := rn_len f (l.drop (dn l).2)
      simp; omega

/-- The row that []rune(s) lays: the code points, then noughts up to the capacity. -/
theorem shown_any (s : ByteArray) (w : World) (hs : s.size ≤ 1048576) :
    Calls Try.prog 9 #[.string s] w fun e w' => e = .returned (.string (shB s)) ∧ Hid (∃ C, w' = (w.alloc (.cells C 21)).drew) := by
  obtain ⟨zs, hzs⟩ : ∃ zs, zs = (rnF s.size s.data.toList).map (fun r : Nat => (r : Int)) := ⟨_, rfl⟩
  have hR : (Conv.runesFrom s s.size 0 #[]).toList = zs.map (Value.int .i32) := by
    rw [runes_rn, hzs]; simp
  have hlen : (Conv.runesFrom s s.size 0 #[]).size = zs.length := by
    have := congrArg List.length hR
    simpa using this
  have hle : zs.length ≤ s.size := by rw [hzs, List.length_map]; exact rn_len _ _
  obtain ⟨cp, hcp⟩ : ∃ cp, cp = grownCap w (Conv.runesFrom s s.size 0 #[]).size 0 21 := ⟨_, rfl⟩
  obtain ⟨C, hC⟩ : ∃ C, C = Conv.runesFrom s s.size 0 #[] ++ Array.replicate (grownCap w (Conv.runesFrom s s.size 0 #[]).size 0 21 - (Conv.runesFrom s s.size 0 #[]).size) (.int .i32 0) := ⟨_, rfl⟩
  have h1 : (convert 9 26 (.string s)).run Try.prog w = .ok (.slice (some ⟨w.heap.size, 0, none⟩) zs.length cp) ((w.alloc (.cells C 21)).drew) := by
    have := run_runes_of_string (P := Try.prog) w 9 26 21 s Try.underlying9 Try.underlying26 Try.underlying21 (by rw [hlen]; omega)
    rw [← hC, ← hcp, hlen] at this
    exact this
  have hcell : ∀ j, j < zs.length → ((w.alloc (.cells C 21)).drew).cell? (Addr.add ⟨w.heap.size, 0, none⟩ j) = some (.int .i32 (zs.getD j 0)) := by
    intro j hj
    have e1 : C[j]? = some (.int .i32 (zs.getD j 0)) := by
      rw [hC, Array.getElem?_append_left (by omega), ← Array.getElem?_toList, hR]
      simp [hj, List.getD]
    have e2 : ((w.alloc (.cells C 21)).drew).heap[w.heap.size]? = some (.cells C 21 (0, 0)) := by
      show (w.heap.push (.cells C 21))[w.heap.size]? = _
      simp
    rw [Go.WideShapes.add_plain, Nat.zero_add]
    simp only [World.cell?, e2]
    exact e1
  have h2 : (convert 26 9 (.slice (some ⟨w.heap.size, 0, none⟩) zs.length cp)).run Try.prog ((w.alloc (.cells C 21)).drew) = .ok (.string (shB s)) ((w.alloc (.cells C 21)).drew) := by
    have := run_convert_runes (P := Try.prog) ((w.alloc (.cells C 21)).drew) 26 9 21 ⟨w.heap.size, 0, none⟩ zs.length cp zs (Nat.le_refl _) Try.underlying26 Try.underlying21 Try.underlying9 hcell
    rw [List.take_length, hzs, runesBytes_sh] at this
    rw [hzs]
    exact this
  clear hcell hC hcp hR hlen hzs hle
  go_enter Try.func9, Try.ntmps9
  go_wp2_with (first | simp only [h1] | simp only [h2])
  go_ret
  exact ⟨rfl, C, rfl⟩
end Go.Proofs.Qxb6618276a
