/-
  Shared by both laws of this seat: how a slice of one-cell elements is told to the walk ('at_', 'idx'), and the contracts of the functions that only read.
  A slice value is '.slice a n c' with 'a : Option Addr' left open: nil or not, one walk serves both.
-/
import Derived.Test.Qxb6629100aRows
import Derived.WalkKit
import Derived.ProofKit
import Derived.WalkLawsBesides
import Derived.WalkSpells
import Derived.Handy
namespace Go.Proofs.Qxb6629100a
open Go.ChangeShapes Go.WideShapes Go.ChangeAt Go.RowKit

theorem Try.cells9 : Try.prog.cellsOf 9 = 1 := by kernel_rfl
theorem Try.cells22 : Try.prog.cellsOf 22 = 1 := by kernel_rfl
theorem Try.cells23 : Try.prog.cellsOf 23 = 1 := by kernel_rfl

/-- the address of element k -/
def atk (a : Option Addr) (k : Nat) : Addr := match a with
  | some x => x.add k
  | none => ⟨0, 0, none⟩

theorem size9 (w : World) : (sizeOf 9).run Try.prog w = .ok 1 w := by kernel_rfl
theorem size22 (w : World) : (sizeOf 22).run Try.prog w = .ok 1 w := by kernel_rfl

theorem idx22 {a : Option Addr} {n : Nat} (c : Nat) (h : 0 < n → a.isSome = true) (w : World) (k : Nat) (hk : k < n) :
    (Instr.indexAt 22 (.slice a n c) (.int .i64 (k : Int))).run Try.prog w = .ok (.pointer (some (atk a k))) w := by
  obtain ⟨x, rfl⟩ := Option.isSome_iff_exists.1 (h (by omega))
  rw [run_indexAt_slice w 22 x n c .i64 k (by rw [show Try.prog.elem 22 = 9 from rfl]; exact Try.underlying22), if_pos (by omega), show Try.prog.elem 22 = 9 from rfl, size9]
  simp [Result.andThen, atk]
theorem idx23 {a : Option Addr} {n : Nat} (c : Nat) (h : 0 < n → a.isSome = true) (w : World) (k : Nat) (hk : k < n) :
    (Instr.indexAt 23 (.slice a n c) (.int .i64 (k : Int))).run Try.prog w = .ok (.pointer (some (atk a k))) w := by
  obtain ⟨x, rfl⟩ := Option.isSome_iff_exists.1 (h (by omega))
  rw [run_indexAt_slice w 23 x n c .i64 k (by rw [show Try.prog.elem 23 = 22 from rfl]; exact Try.underlying23), if_pos (by omega), show Try.prog.elem 23 = 22 from rfl, size22]
  simp [Result.andThen, atk]

/-- A []string: nil or not, n elements, element k holds f k. -/
def SV (w : World) (a : Option Addr) (n : Nat) (f : Nat → ByteArray) : Prop :=
  (0 < n → a.isSome = true) ∧ (∀ k, k < n → w.cell? (atk a k) = some (.string (f k))) ∧ (∀ k, k < n → (f k).size ≤ maxLen) ∧ n ≤ maxLen

set_option maxHeartbeats 400000 in
theorem addStrings_any (total : Int) (a : Option Addr) (n c : Nat) (f : Nat → ByteArray) (w : World) (h0 : 0 ≤ total) (h1 : total ≤ 1048576) (hs : SV w a n f)
    (Q : Ending → World → Prop) (hQ : Hid (∀ t : Int, 0 ≤ t → (t ≤ 1048576 → n ≤ 1048576) → Q (.returned (.int .i64 t)) w)) :
    Calls Try.prog 17 #[.int .i64 total, .slice a n c] w Q := by
  obtain ⟨ha, hc, hf, hn⟩ := hs
  unfold maxLen at hn hf
  have hidx := idx22 c ha
  by_cases hbig : n ≤ 1048576
  · by_cases hbig2 : total + 16 * (n : Int) ≤ 1048576
    · go_enter Try.func17, Try.ntmps17
      go_wp2
      go_loop [0, 5] (fun t i => ∃ (k : Nat) (m : Int), k ≤ n ∧ i = .int .i64 k ∧ t = .int .i64 m ∧ 0 ≤ m ∧ m ≤ 1048576) (fun _ i => n - (intOf i).toNat)
      case atStart => exact ⟨0, _, Nat.zero_le _, rfl, rfl, by omega, hbig2⟩
      case round =>
        obtain ⟨k, m, hk, rfl, rfl, hm0, hm1⟩ := hrel
        by_cases hlt : k < n
        · have hi := hidx w k hlt
          have hck := hc k hlt
          have hfk := hf k hlt
          clear hidx hc hf
          by_cases hl1 : (f k).size ≤ 1048576
          · by_cases hl2 : m + ((f k).size : Int) ≤ 1048576
            · go_wp2
              go_round
              case rel => exact ⟨k + 1, _, by omega, by go_num, rfl, by omega, by omega⟩
              case measure => simp [intOf]; omega
            · go_wp2
              exact hQ.out _ (by omega) fun _ => hbig
          · go_wp2
            exact hQ.out 1048577 (by omega) fun _ => hbig
        · go_wp2
          exact hQ.out _ (by omega) fun _ => hbig
    · go_enter Try.func17, Try.ntmps17
      go_wp2
      exact hQ.out _ (by omega) fun _ => hbig
  · go_enter Try.func17, Try.ntmps17
    go_wp2
    exact hQ.out 1048577 (by omega) fun _ => by omega

/-- A [][]string: n rows; row r is '.slice (A r) (L r) (C r)' and reads F r. -/
def SSV (w : World) (a : Option Addr) (n : Nat) (A : Nat → Option Addr) (L C : Nat → Nat) (F : Nat → Nat → ByteArray) : Prop :=
  (0 < n → a.isSome = true) ∧ (∀ r, r < n → w.cell? (atk a r) = some (.slice (A r) (L r) (C r))) ∧ (∀ r, r < n → SV w (A r) (L r) (F r)) ∧ n ≤ maxLen

set_option maxHeartbeats 1000000 in
theorem fits_any (a0 a1 a2 a3 a4 : Option Addr) (n0 n1 n2 n3 n4 c0 c1 c2 c3 c4 : Nat) (f0 f1 f2 f3 : Nat → ByteArray) (A : Nat → Option Addr) (L C : Nat → Nat) (F : Nat → Nat → ByteArray) (k v : ByteArray) (w : World)
    (h0 : SV w a0 n0 f0) (h1 : SV w a1 n1 f1) (h2 : SV w a2 n2 f2) (h3 : SV w a3 n3 f3) (h4 : SSV w a4 n4 A L C F) (hk : k.size ≤ maxLen) (hv : v.size ≤ maxLen)
    (Q : Ending → World → Prop) (hQ : Hid (∀ b : Bool, (b = true → n0 ≤ 1048576 ∧ n1 ≤ 1048576 ∧ n2 ≤ 1048576 ∧ n3 ≤ 1048576 ∧ n4 ≤ 1048576 ∧ ∀ r, r < n4 → L r ≤ 1048576) → Q (.returned (.bool b)) w)) :
    Calls Try.prog 6 #[.slice a0 n0 c0, .slice a1 n1 c1, .slice a2 n2 c2, .slice a3 n3 c3, .slice a4 n4 c4, .string k, .string v] w Q := by
  obtain ⟨ha4, hc4, hr4, hn4⟩ := h4
  unfold maxLen at hk hv hn4
  have hidx := idx23 c4 ha4
  go_enter Try.func6, Try.ntmps6
  go_wp2_with fail
  refine addStrings_any _ _ _ _ f0 _ (by omega) (by omega) h0 _ fun t0 ht0 hb0 => ?_
  by_cases g0 : t0 ≤ 1048576
  rotate_left
  · go_wp2_with fail; exact hQ.out false (fun h => by cases h)
  have b0 := hb0 g0
  clear hb0
  go_wp2_with fail
  refine addStrings_any _ _ _ _ f1 _ (by omega) (by omega) h1 _ fun t1 ht1 hb1 => ?_
  by_cases g1 : t1 ≤ 1048576
  rotate_left
  · go_wp2_with fail; exact hQ.out false (fun h => by cases h)
  have b1 := hb1 g1
  clear hb1
  go_wp2_with fail
  refine addStrings_any _ _ _ _ f2 _ (by omega) (by omega) h2 _ fun t2 ht2 hb2 => ?_
  by_cases g2 : t2 ≤ 1048576
  rotate_left
  · go_wp2_with fail; exact hQ.out false (fun h => by cases h)
  have b2 := hb2 g2
  clear hb2
  go_wp2_with fail
  refine addStrings_any _ _ _ _ f3 _ (by omega) (by omega) h3 _ fun t3 ht3 hb3 => ?_
  by_cases g3 : t3 ≤ 1048576
  rotate_left
  · go_wp2_with fail; exact hQ.out false (fun h => by cases h)
  have b3 := hb3 g3
  clear hb3
  by_cases b4 : n4 ≤ 1048576
  rotate_left
  · go_wp2_with fail; exact hQ.out false (fun h => by cases h)
  by_cases g4 : t3 + 24 * (n4 : Int) ≤ 1048576
  rotate_left
  · go_wp2_with fail; exact hQ.out false (fun h => by cases h)
  go_wp2_with fail
  go_loop [15, 16] (fun t i => ∃ (j : Nat) (m : Int), j ≤ n4 ∧ i = .int .i64 j ∧ t = .int .i64 m ∧ 0 ≤ m ∧ m ≤ 1048576 ∧ ∀ r, r < j → L r ≤ 1048576) (fun _ i => n4 - (intOf i).toNat)
  case atStart => exact ⟨0, _, Nat.zero_le _, rfl, rfl, by omega, g4, fun r hr => by omega⟩
  case round =>
    obtain ⟨j, m, hj, rfl, rfl, hm0, hm1, hL⟩ := hrel
    have HL : Hid (∀ r, r < j → L r ≤ 1048576) := hL
    clear hL
    by_cases hlt : j < n4
    · have hi := hidx w j hlt
      have hck := hc4 j hlt
      have hrk := hr4 j hlt
      have HR : Hid (∀ r, r < n4 → SV w (A r) (L r) (F r)) := hr4
      clear hidx hc4 hr4
      go_wp2_with fail
      refine addStrings_any _ _ _ _ (F j) _ (by omega) (by omega) hrk _ fun t4 ht4 hb4 => ?_
      by_cases g5 : t4 ≤ 1048576
      rotate_left
      · go_wp2_with fail; exact hQ.out false (fun h => by cases h)
      have b5 := hb4 g5
      clear hb4
      go_wp2_with fail
      go_round
      case rel => exact ⟨j + 1, _, by omega, by go_num, rfl, by omega, by omega, fun r hr => by
        by_cases e : r = j
        · subst e; exact b5
        · exact HL.out r (by omega)⟩
      case measure => simp [intOf]; omega
    · have HB : Hid (∀ r, r < n4 → L r ≤ 1048576) := fun r hr => HL.out r (by omega)
      clear hidx hc4 hr4
      by_cases b6 : k.size ≤ 1048576
      rotate_left
      · go_wp2_with fail; exact hQ.out false (fun h => by cases h)
      by_cases g6 : m + (k.size : Int) ≤ 1048576
      rotate_left
      · go_wp2_with fail; exact hQ.out false (fun h => by cases h)
      by_cases b7 : v.size ≤ 1048576
      rotate_left
      · go_wp2_with fail; exact hQ.out false (fun h => by cases h)
      go_wp2_with fail
      exact hQ.out _ (fun _ => ⟨b0, b1, b2, b3, b4, HB.out⟩)
end Go.Proofs.Qxb6629100a
