/-
  Shared by both laws of this seat: how a slice of children (three cells an element) is told to the walk, and the contracts of the functions that only read it.
  A slice value is '.slice a n c' with 'a : Option Addr' left open: nil or not, one walk serves both.
-/
import Derived.Test.Qxb6629177aFmtCards
import Derived.WalkKit
import Derived.ProofKit
import Derived.WalkLawsBesides
import Derived.WalkSpells
import Derived.Handy
namespace Go.Proofs.Qxb6629177aFmt
open Go.ChangeShapes Go.WideShapes Go.ChangeAt Go.RowKit

/-- the address of element k of z cells -/
def atz (z : Nat) (a : Option Addr) (k : Nat) : Addr := match a with
  | some x => x.add (k * z)
  | none => ⟨0, 0, none⟩

theorem size36 (w : World) : (sizeOf 36).run Tryf.prog w = .ok 3 w := by kernel_rfl
theorem size25 (w : World) : (sizeOf 25).run Tryf.prog w = .ok 1 w := by kernel_rfl

theorem idx22 {a : Option Addr} {n : Nat} (c : Nat) (h : 0 < n → a.isSome = true) (w : World) (k : Nat) (hk : k < n) :
    (Instr.indexAt 22 (.slice a n c) (.int .i64 (k : Int))).run Tryf.prog w = .ok (.pointer (some (atz 3 a k))) w := by
  obtain ⟨x, rfl⟩ := Option.isSome_iff_exists.1 (h (by omega))
  rw [run_indexAt_slice w 22 x n c .i64 k (by rw [show Tryf.prog.elem 22 = 36 from rfl]; exact Tryf.underlying22), if_pos (by omega), show Tryf.prog.elem 22 = 36 from rfl, size36]
  simp [Result.andThen, atz]
theorem idx26 {a : Option Addr} {n : Nat} (c : Nat) (h : 0 < n → a.isSome = true) (w : World) (k : Nat) (hk : k < n) :
    (Instr.indexAt 26 (.slice a n c) (.int .i64 (k : Int))).run Tryf.prog w = .ok (.pointer (some (atz 1 a k))) w := by
  obtain ⟨x, rfl⟩ := Option.isSome_iff_exists.1 (h (by omega))
  rw [run_indexAt_slice w 26 x n c .i64 k (by rw [show Tryf.prog.elem 26 = 25 from rfl]; exact Tryf.underlying26), if_pos (by omega), show Tryf.prog.elem 26 = 25 from rfl, size25]
  simp [Result.andThen, atz]

/-- A []ZChild: nil or not, n elements; element k is (S k, L k, I k). -/
def CV (w : World) (a : Option Addr) (n : Nat) (S L : Nat → ByteArray) (I : Nat → Int) : Prop :=
  (0 < n → a.isSome = true) ∧ (∀ k, k < n → w.cell? (atz 3 a k) = some (.string (S k)) ∧ w.cell? ⟨(atz 3 a k).block, (atz 3 a k).off + 1, none⟩ = some (.string (L k)) ∧ w.cell? ⟨(atz 3 a k).block, (atz 3 a k).off + 2, none⟩ = some (.int .i64 (I k))) ∧
    (∀ k, k < n → (S k).size ≤ maxLen ∧ (L k).size ≤ maxLen) ∧ n ≤ maxLen

def lim (n : Nat) (sp lo : ByteArray) (S L : Nat → ByteArray) : Prop :=
  sp.size ≤ 1048576 ∧ lo.size ≤ 1048576 ∧ n ≤ 1048576 ∧ ∀ k, k < n → (S k).size ≤ 1048576 ∧ (L k).size ≤ 1048576

set_option maxHeartbeats 1000000 in
theorem bytes5_any (sp lo : ByteArray) (line : Int) (a : Option Addr) (n c : Nat) (S L : Nat → ByteArray) (I : Nat → Int) (w : World) (hs : CV w a n S L I) (h0 : sp.size ≤ maxLen) (h1 : lo.size ≤ maxLen)
    (Q : Ending → World → Prop) (hQ : Hid (∀ b : Bool, (b = true → lim n sp lo S L) → Q (.returned (.bool b)) w)) :
    Calls Tryf.prog 5 #[.string sp, .string lo, .int .i64 line, .slice a n c] w Q := by
  obtain ⟨ha, hc, hf, hn⟩ := hs
  unfold maxLen at hn hf h0 h1
  have hidx := idx22 c ha
  by_cases g0 : sp.size ≤ 1048576
  rotate_left
  · go_enter Tryf.func5, Tryf.ntmps5
    go_wp2; exact hQ.out false (fun h => by cases h)
  by_cases g1 : lo.size ≤ 1048576
  rotate_left
  · go_enter Tryf.func5, Tryf.ntmps5
    go_wp2; exact hQ.out false (fun h => by cases h)
  by_cases g2 : (sp.size : Int) + lo.size ≤ 1048576
  rotate_left
  · go_enter Tryf.func5, Tryf.ntmps5
    go_wp2; exact hQ.out false (fun h => by cases h)
  by_cases g3 : n ≤ 1048576
  rotate_left
  · go_enter Tryf.func5, Tryf.ntmps5
    go_wp2; exact hQ.out false (fun h => by cases h)
  by_cases g4 : (sp.size : Int) + lo.size + n ≤ 1048576
  rotate_left
  · go_enter Tryf.func5, Tryf.ntmps5
    go_wp2; exact hQ.out false (fun h => by cases h)
  go_enter Tryf.func5, Tryf.ntmps5
  go_wp2
  go_loop [9, 10] (fun t i => ∃ (j : Nat) (m : Int), j ≤ n ∧ i = .int .i64 j ∧ t = .int .i64 m ∧ 0 ≤ m ∧ m ≤ 1048576 ∧ ∀ k, k < j → (S k).size ≤ 1048576 ∧ (L k).size ≤ 1048576) (fun _ i => n - (intOf i).toNat)
  case atStart => exact ⟨0, _, Nat.zero_le _, rfl, rfl, by omega, g4, fun r hr => by omega⟩
  case round =>
    obtain ⟨j, m, hj, rfl, rfl, hm0, hm1, hL⟩ := hrel
    have HL : Hid (∀ k, k < j → (S k).size ≤ 1048576 ∧ (L k).size ≤ 1048576) := hL
    clear hL
    by_cases hlt : j < n
    · have hi := hidx w j hlt
      obtain ⟨c0, c1, _⟩ := hc j hlt
      obtain ⟨f0, f1⟩ := hf j hlt
      clear hidx hc hf
      by_cases l0 : (S j).size ≤ 1048576
      rotate_left
      · go_wp2; exact hQ.out false (fun h => by cases h)
      by_cases l1 : m + ((S j).size : Int) ≤ 1048576
      rotate_left
      · go_wp2; exact hQ.out false (fun h => by cases h)
      by_cases l2 : (L j).size ≤ 1048576
      rotate_left
      · go_wp2; exact hQ.out false (fun h => by cases h)
      by_cases l3 : m + ((S j).size : Int) + ((L j).size : Int) ≤ 1048576
      rotate_left
      · go_wp2; exact hQ.out false (fun h => by cases h)
      go_wp2
      go_round
      case rel => exact ⟨j + 1, _, by omega, by go_num, rfl, by omega, by omega, fun r hr => by
        by_cases e : r = j
        · subst e; exact ⟨l0, l2⟩
        · exact HL.out r (by omega)⟩
      case measure => simp [intOf]; omega
    · go_wp2
      exact hQ.out true (fun _ => ⟨g0, g1, g3, fun k hk => HL.out k (by omega)⟩)

set_option maxHeartbeats 1000000 in
theorem size_any (al : Int) (sp lo : ByteArray) (a : Option Addr) (n c : Nat) (S L : Nat → ByteArray) (I : Nat → Int) (w : World) (hal : 0 ≤ al) (hal2 : al ≤ 4194304) (hs : CV w a n S L I) (hl : lim n sp lo S L)
    (Q : Ending → World → Prop) (hQ : Hid (∀ b : Bool, Q (.returned (.bool b)) w)) :
    Calls Tryf.prog 6 #[.int .i64 al, .string sp, .string lo, .slice a n c] w Q := by
  obtain ⟨ha, hc, _, hn⟩ := hs
  obtain ⟨g0, g1, g3, hf⟩ := hl
  unfold maxLen at hn
  have hidx := idx22 c ha
  by_cases g4 : al ≤ 1048576
  rotate_left
  · go_enter Tryf.func6, Tryf.ntmps6
    go_wp2; exact hQ.out false
  by_cases g5 : al + (sp.size : Int) ≤ 1048576
  rotate_left
  · go_enter Tryf.func6, Tryf.ntmps6
    go_wp2; exact hQ.out false
  by_cases g6 : al + (sp.size : Int) + lo.size ≤ 1048576
  rotate_left
  · go_enter Tryf.func6, Tryf.ntmps6
    go_wp2; exact hQ.out false
  go_enter Tryf.func6, Tryf.ntmps6
  go_wp2
  go_loop [9, 10] (fun t i => ∃ (j : Nat) (m : Int), j ≤ n ∧ i = .int .i64 j ∧ t = .int .i64 m ∧ 0 ≤ m ∧ m ≤ 1048576) (fun _ i => n - (intOf i).toNat)
  case atStart => exact ⟨0, _, Nat.zero_le _, rfl, rfl, by omega, g6⟩
  case round =>
    obtain ⟨j, m, hj, rfl, rfl, hm0, hm1⟩ := hrel
    by_cases hlt : j < n
    · have hi := hidx w j hlt
      obtain ⟨c0, c1, _⟩ := hc j hlt
      obtain ⟨f0, f1⟩ := hf j hlt
      clear hidx hc hf
      by_cases l1 : m + (40 + ((S j).size : Int)) ≤ 1048576
      rotate_left
      · go_wp2; exact hQ.out false
      by_cases l3 : m + (40 + ((S j).size : Int)) + ((L j).size : Int) ≤ 1048576
      rotate_left
      · go_wp2; exact hQ.out false
      go_wp2
      go_round
      case rel => exact ⟨j + 1, _, by omega, by go_num, rfl, by omega, by omega⟩
      case measure => simp [intOf]; omega
    · go_wp2
      exact hQ.out true

/-- how many of the first k children are in namespace sp -/
def cnt (S : Nat → ByteArray) (sp : ByteArray) : Nat → Nat
  | 0 => 0
  | k + 1 => cnt S sp k + if ((S k).toList == sp.toList) = true then 1 else 0
/-- the first of them, -1 where there is none -/
def fst (S : Nat → ByteArray) (sp : ByteArray) : Nat → Int
  | 0 => -1
  | k + 1 => if fst S sp k < 0 ∧ ((S k).toList == sp.toList) = true then k else fst S sp k

theorem cnt_le (S : Nat → ByteArray) (sp : ByteArray) (k : Nat) : cnt S sp k ≤ k := by
  induction k with
  | zero => exact Nat.le_refl _
  | succ k ih => unfold cnt; split <;> omega

theorem fst_facts (S : Nat → ByteArray) (sp : ByteArray) (k : Nat) : (cnt S sp k = 0 → fst S sp k = -1) ∧ (0 < cnt S sp k → ∃ j : Nat, fst S sp k = j ∧ j < k ∧ ((S j).toList == sp.toList) = true) := by
  induction k with
  | zero => exact ⟨fun _ => rfl, fun h => absurd h (Nat.lt_irrefl _)⟩
  | succ k ih =>
    unfold cnt fst
    by_cases e : ((S k).toList == sp.toList) = true
    · simp only [e, if_true, and_true]
      refine ⟨fun h => by omega, fun _ => ?_⟩
      by_cases h0 : cnt S sp k = 0
      · rw [ih.1 h0, if_pos (by omega)]; exact ⟨k, rfl, Nat.lt_succ_self _, e⟩
      · obtain ⟨j, e1, e2, e3⟩ := ih.2 (by omega)
        rw [e1, if_neg (by omega)]; exact ⟨j, rfl, by omega, e3⟩
    · rw [if_neg e, if_neg (fun h => e h.2), Nat.add_zero]
      refine ⟨ih.1, fun h => ?_⟩
      obtain ⟨j, e1, e2, e3⟩ := ih.2 h
      exact ⟨j, e1, by omega, e3⟩

theorem fst_range (S : Nat → ByteArray) (sp : ByteArray) (k : Nat) : -1 ≤ fst S sp k ∧ fst S sp k < k := by
  rcases Nat.eq_zero_or_pos (cnt S sp k) with h | h
  · rw [(fst_facts S sp k).1 h]; omega
  · obtain ⟨j, e1, e2, _⟩ := (fst_facts S sp k).2 h
    omega

set_option maxHeartbeats 1000000 in
theorem count_any (sp : ByteArray) (a : Option Addr) (n c : Nat) (S L : Nat → ByteArray) (I : Nat → Int) (w : World) (hs : CV w a n S L I) (hn : n ≤ 1048576)
    (Q : Ending → World → Prop) (hQ : Hid (Q (.returned (.tuple #[.int .i64 (cnt S sp n), .int .i64 (fst S sp n)])) w)) :
    Calls Tryf.prog 8 #[.string sp, .slice a n c] w Q := by
  obtain ⟨ha, hc, _, _⟩ := hs
  have hidx := idx22 c ha
  go_enter Tryf.func8, Tryf.ntmps8
  go_wp2
  go_loop [6, 7, 8] (fun t f i => ∃ j : Nat, j ≤ n ∧ i = .int .i64 j ∧ t = .int .i64 (cnt S sp j) ∧ f = .int .i64 (fst S sp j)) (fun _ _ i => n - (intOf i).toNat)
  case atStart => exact ⟨0, Nat.zero_le _, rfl, rfl, rfl⟩
  case round =>
    obtain ⟨j, hj, rfl, rfl, rfl⟩ := hrel
    by_cases hlt : j < n
    · have hi := hidx w j hlt
      obtain ⟨c0, _, _⟩ := hc j hlt
      have hcl := cnt_le S sp j
      have hfr := fst_range S sp j
      have HC : Hid (cnt S sp (j + 1) = cnt S sp j + if ((S j).toList == sp.toList) = true then 1 else 0) := by exact rfl
      have HF : Hid (fst S sp (j + 1) = if fst S sp j < 0 ∧ ((S j).toList == sp.toList) = true then (j : Int) else fst S sp j) := by exact rfl
      clear hidx hc
      generalize cnt S sp j = cj at *
      generalize fst S sp j = fj at *
      by_cases e : ((S j).toList == sp.toList) = true
      · have HE : Hid (((S j).toList == sp.toList) = true) := e
        by_cases e2 : fj < 0
        · go_wp2
          go_round
          case rel => exact ⟨j + 1, by omega, by go_num, by rw [HC.out, if_pos HE.out]; go_num, by rw [HF.out, if_pos ⟨e2, HE.out⟩]⟩
          case measure => simp [intOf]; omega
        · go_wp2
          go_round
          case rel => exact ⟨j + 1, by omega, by go_num, by rw [HC.out, if_pos HE.out]; go_num, by rw [HF.out, if_neg (fun h => e2 h.1)]⟩
          case measure => simp [intOf]; omega
      · have HE : Hid (¬ ((S j).toList == sp.toList) = true) := e
        have e' : ((S j).toList == sp.toList) = false := Bool.eq_false_iff.2 e
        clear e
        go_wp2
        go_round
        case rel => exact ⟨j + 1, by omega, by go_num, by rw [HC.out, if_neg HE.out]; rfl, by rw [HF.out, if_neg (fun h => HE.out h.2)]⟩
        case measure => simp [intOf]; omega
    · obtain rfl : j = n := by omega
      go_wp2
      exact hQ.out
end Go.Proofs.Qxb6629177aFmt
