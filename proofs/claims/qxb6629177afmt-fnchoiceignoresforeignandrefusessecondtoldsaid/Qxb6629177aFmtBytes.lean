/-
  The contract of zzBytes_FnChoiceIgnoresForeignAndRefusesSecond, and how an old slice reads where only new memory has turned.
-/
import Derived.Test.Qxb6629177aFmtBase
namespace Go.Proofs.Qxb6629177aFmt
open Go.ChangeShapes Go.WideShapes Go.ChangeAt Go.RowKit

theorem cell_some_lt {w : World} {p : Addr} {v : Value} (h : w.cell? p = some v) : p.block < w.heap.size := by
  unfold World.cell? at h
  split at h
  · rename_i hc; exact (Array.getElem?_eq_some_iff.1 hc).1
  · cases h
theorem keep_cell {w w' : World} (hb : Below w.heap.size w w') {p : Addr} {v : Value} (h : w.cell? p = some v) : w'.cell? p = some v := by
  rw [hb.cell (cell_some_lt h)]; exact h
theorem CV.below {w w' : World} {a : Option Addr} {n : Nat} {S L : Nat → ByteArray} {I : Nat → Int} (h : CV w a n S L I) (hb : Below w.heap.size w w') : CV w' a n S L I :=
  ⟨h.1, fun k hk => ⟨keep_cell hb (h.2.1 k hk).1, keep_cell hb (h.2.1 k hk).2.1, keep_cell hb (h.2.1 k hk).2.2⟩, h.2.2.1, h.2.2.2⟩

set_option maxHeartbeats 1000000 in
theorem bytes10_any (sp lo : ByteArray) (line : Int) (a : Option Addr) (n c : Nat) (S L : Nat → ByteArray) (I : Nat → Int) (w : World) (kk : Int) (xs xl : ByteArray) (xi : Int) (hs : CV w a n S L I) (h2 : xs.size ≤ maxLen) (h3 : xl.size ≤ maxLen) (h0 : sp.size ≤ maxLen) (h1 : lo.size ≤ maxLen)
    (Q : Ending → World → Prop) (hQ : Hid (∀ (b : Bool) (w' : World), (b = true → lim n sp lo S L ∧ xs.size ≤ 1048576 ∧ xl.size ≤ 1048576) → Below w.heap.size w w' → Q (.returned (.bool b)) w')) :
    Calls Tryf.prog 10 #[.string sp, .string lo, .int .i64 line, .slice a n c, .int .i64 kk, .agg #[.string xs, .string xl, .int .i64 xi]] w Q := by
  obtain ⟨ha, hc, hf, hn⟩ := hs
  unfold maxLen at hn hf h0 h1 h2 h3
  have HB : Below w.heap.size w (w.alloc (.cells #[.string xs, .string xl, .int .i64 xi] 36)) := (Below.refl _ _).alloc (Nat.le_refl _) _
  have hidx := idx22 c ha
  by_cases g0 : sp.size ≤ 1048576
  rotate_left
  · go_enter Tryf.func10, Tryf.ntmps10
    go_wp2; exact hQ.out false _ (fun h => by cases h) HB
  by_cases g1 : lo.size ≤ 1048576
  rotate_left
  · go_enter Tryf.func10, Tryf.ntmps10
    go_wp2; exact hQ.out false _ (fun h => by cases h) HB
  by_cases g2 : (sp.size : Int) + lo.size ≤ 1048576
  rotate_left
  · go_enter Tryf.func10, Tryf.ntmps10
    go_wp2; exact hQ.out false _ (fun h => by cases h) HB
  by_cases g3 : n ≤ 1048576
  rotate_left
  · go_enter Tryf.func10, Tryf.ntmps10
    go_wp2; exact hQ.out false _ (fun h => by cases h) HB
  by_cases g4 : (sp.size : Int) + lo.size + n ≤ 1048576
  rotate_left
  · go_enter Tryf.func10, Tryf.ntmps10
    go_wp2; exact hQ.out false _ (fun h => by cases h) HB
  go_enter Tryf.func10, Tryf.ntmps10
  go_wp2
  go_loop [13, 14] (fun t i => ∃ (j : Nat) (m : Int), j ≤ n ∧ i = .int .i64 j ∧ t = .int .i64 m ∧ 0 ≤ m ∧ m ≤ 1048576 ∧ ∀ k, k < j → (S k).size ≤ 1048576 ∧ (L k).size ≤ 1048576) (fun _ i => n - (intOf i).toNat)
  case atStart => exact ⟨0, _, Nat.zero_le _, rfl, rfl, by omega, g4, fun r hr => by omega⟩
  case round =>
    obtain ⟨j, m, hj, rfl, rfl, hm0, hm1, hL⟩ := hrel
    have HL : Hid (∀ k, k < j → (S k).size ≤ 1048576 ∧ (L k).size ≤ 1048576) := hL
    clear hL
    by_cases hlt : j < n
    · have hi := hidx (w.alloc (.cells #[.string xs, .string xl, .int .i64 xi] 36)) j hlt
      obtain ⟨c0', c1', _⟩ := hc j hlt
      have c0 : (w.alloc (.cells #[.string xs, .string xl, .int .i64 xi] 36)).cell? (atz 3 a j) = some (.string (S j)) := by rw [HB.cell (cell_some_lt c0')]; exact c0'
      have c1 : (w.alloc (.cells #[.string xs, .string xl, .int .i64 xi] 36)).cell? ⟨(atz 3 a j).block, (atz 3 a j).off + 1, none⟩ = some (.string (L j)) := by rw [HB.cell (cell_some_lt c1')]; exact c1'
      clear c0' c1'
      obtain ⟨f0, f1⟩ := hf j hlt
      clear hidx hc hf
      by_cases l0 : (S j).size ≤ 1048576
      rotate_left
      · go_wp2; exact hQ.out false _ (fun h => by cases h) HB
      by_cases l1 : m + ((S j).size : Int) ≤ 1048576
      rotate_left
      · go_wp2; exact hQ.out false _ (fun h => by cases h) HB
      by_cases l2 : (L j).size ≤ 1048576
      rotate_left
      · go_wp2; exact hQ.out false _ (fun h => by cases h) HB
      by_cases l3 : m + ((S j).size : Int) + ((L j).size : Int) ≤ 1048576
      rotate_left
      · go_wp2; exact hQ.out false _ (fun h => by cases h) HB
      go_wp2
      go_round
      case rel => exact ⟨j + 1, _, by omega, by go_num, rfl, by omega, by omega, fun r hr => by
        by_cases e : r = j
        · subst e; exact ⟨l0, l2⟩
        · exact HL.out r (by omega)⟩
      case measure => simp [intOf]; omega
    · have HB2 : Hid (∀ k, k < n → (S k).size ≤ 1048576 ∧ (L k).size ≤ 1048576) := fun k hk => HL.out k (by omega)
      clear hidx hc hf HL
      by_cases b6 : xs.size ≤ 1048576
      rotate_left
      · go_wp2; exact hQ.out false _ (fun h => by cases h) HB
      by_cases g6 : m + (xs.size : Int) ≤ 1048576
      rotate_left
      · go_wp2; exact hQ.out false _ (fun h => by cases h) HB
      by_cases b7 : xl.size ≤ 1048576
      rotate_left
      · go_wp2; exact hQ.out false _ (fun h => by cases h) HB
      by_cases g7 : m + (xs.size : Int) + (xl.size : Int) ≤ 1048576
      rotate_left
      · go_wp2; exact hQ.out false _ (fun h => by cases h) HB
      go_wp2
      exact hQ.out true _ (fun _ => ⟨⟨g0, g1, g3, HB2.out⟩, b6, b7⟩) HB
end Go.Proofs.Qxb6629177aFmt
