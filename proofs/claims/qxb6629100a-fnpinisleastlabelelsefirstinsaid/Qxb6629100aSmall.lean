/-
  Contracts of the small readers: pinAt, pinAtSlice, pinPlain, pinIsZero, pinSame.
-/
import Derived.Test.Qxb6629100aClone
import Derived.BigQuiet
import Derived.Deep.QuietTactic
namespace Go.Proofs.Qxb6629100a
open Go.ChangeShapes Go.WideShapes Go.ChangeAt Go.RowKit

/-- what pinAt gives -/
def getS (n : Nat) (f : Nat → ByteArray) (i : Nat) : ByteArray := if i < n then f i else ByteArray.empty

theorem pinAt_any (a : Option Addr) (n c i : Nat) (f : Nat → ByteArray) (w : World) (hs : SV w a n f) 
    (Q : Ending → World → Prop) (hQ : Hid (Q (.returned (.string (getS n f i))) w)) :
    Calls Try.prog 13 #[.slice a n c, .int .i64 (i : Int)] w Q := by
  by_cases h : i < n
  · have hi := idx22 c hs.1 w i h
    have hck := hs.2.1 i h
    have HE : Hid (getS n f i = f i) := by unfold getS; exact if_pos h
    clear hs
    go_enter Try.func13, Try.ntmps13
    go_wp2
    have hq := hQ.out
    rw [HE.out] at hq
    exact hq
  · have HE : Hid (getS n f i = ByteArray.empty) := by unfold getS; exact if_neg h
    clear hs
    go_enter Try.func13, Try.ntmps13
    go_wp2
    have hq := hQ.out
    rw [HE.out] at hq
    exact hq

/-- what pinAtSlice gives: the row, or nil -/
def getA (n : Nat) (A : Nat → Option Addr) (i : Nat) : Option Addr := if i < n then A i else none
def getL (n : Nat) (L : Nat → Nat) (i : Nat) : Nat := if i < n then L i else 0

theorem pinAtSlice_any (a : Option Addr) (n c i : Nat) (A : Nat → Option Addr) (L C : Nat → Nat) (F : Nat → Nat → ByteArray) (w : World) (hs : SSV w a n A L C F)
    (Q : Ending → World → Prop) (hQ : Hid (Q (.returned (.slice (getA n A i) (getL n L i) (getL n C i))) w)) :
    Calls Try.prog 15 #[.slice a n c, .int .i64 (i : Int)] w Q := by
  by_cases h : i < n
  · have hi := idx23 c hs.1 w i h
    have hck := hs.2.1 i h
    have HE : Hid (getA n A i = A i ∧ getL n L i = L i ∧ getL n C i = C i) := ⟨if_pos h, if_pos h, if_pos h⟩
    clear hs
    go_enter Try.func15, Try.ntmps15
    go_wp2
    have hq := hQ.out
    rw [HE.out.1, HE.out.2.1, HE.out.2.2] at hq
    exact hq
  · have HE : Hid (getA n A i = none ∧ getL n L i = 0 ∧ getL n C i = 0) := ⟨if_neg h, if_neg h, if_neg h⟩
    clear hs
    go_enter Try.func15, Try.ntmps15
    go_wp2
    have hq := hQ.out
    rw [HE.out.1, HE.out.2.1, HE.out.2.2] at hq
    exact hq

theorem SSV.get {w : World} {a : Option Addr} {n : Nat} {A : Nat → Option Addr} {L C : Nat → Nat} {F : Nat → Nat → ByteArray} (h : SSV w a n A L C F) (i : Nat) : SV w (getA n A i) (getL n L i) (F i) := by
  unfold getA getL
  by_cases e : i < n
  · simp only [if_pos e]; exact h.2.2.1 i e
  · simp only [if_neg e]; exact ⟨fun h => by omega, fun k hk => by omega, fun k hk => by omega, Nat.zero_le _⟩

theorem plain_any (l : ByteArray) (v : Option Addr) (vn vc : Nat) (w : World)
    (Q : Ending → World → Prop) (hQ : Hid (∀ w', Below w.heap.size w w' → Q (.returned (.bool true)) w')) :
    Calls Try.prog 12 #[.agg #[.string l, .bool false, .slice v vn vc, .bool false, .pointer none]] w Q := by
  go_enter Try.func12, Try.ntmps12
  go_wp2
  exact hQ.out _ ((Below.refl _ _).alloc (Nat.le_refl _) _)

theorem isZero_any (w : World)
    (Q : Ending → World → Prop) (hQ : Hid (∀ w', Below w.heap.size w w' → Q (.returned (.bool true)) w')) :
    Calls Try.prog 11 #[.agg #[.string ⟨#[]⟩, .bool false, .slice none 0 0, .bool false, .pointer none]] w Q := by
  have heq := fun w => Lib.run_eql_slice_nil (P := Try.prog) w 22 9 none 0 0 0 0 Try.underlying22
  go_enter Try.func11, Try.ntmps11
  go_wp2_with fail
  refine plain_any _ _ _ _ _ _ fun w1 hb1 => ?_
  go_wp2_with fail
  exact hQ.out _ (((Below.refl _ _).alloc (Nat.le_refl _) _).trans (hb1.mono (by simp)))

set_option maxHeartbeats 400000 in
theorem same_any (a b : Option Addr) (n c d : Nat) (f : Nat → ByteArray) (w : World) (ha : SV w a n f) (hb : SV w b n f) (hab : a.isSome = b.isSome)
    (Q : Ending → World → Prop) (hQ : Hid (∀ w', Below w.heap.size w w' → Q (.returned (.bool true)) w')) :
    Calls Try.prog 14 #[.slice a n c, .slice b n d] w Q := by
  have heq := fun w => Lib.run_eql_slice_nil (P := Try.prog) w 22 9 a n c 0 0 Try.underlying22
  have heq2 := fun w => Lib.run_eql_slice_nil (P := Try.prog) w 22 9 b n d 0 0 Try.underlying22
  have hn : a.isNone = b.isNone := by cases a <;> cases b <;> simp_all
  rw [hn] at heq
  have HA : Hid (SV w a n f) := ha
  have HB : Hid (SV w b n f) := hb
  have hmax := ha.2.2.2
  unfold maxLen at hmax
  clear hn hab ha hb
  generalize b.isNone = z at heq heq2
  go_enter Try.func14, Try.ntmps14
  go_wp2_with fail
  go_loopw [5] (fun i wr => ∃ k : Nat, k ≤ n ∧ i = .int .i64 k ∧ Below w.heap.size w wr) (fun i _ => n - (intOf i).toNat)
  case atStart => exact ⟨0, Nat.zero_le _, rfl, Below.refl _ _⟩
  case round =>
    obtain ⟨k, hk, rfl, hbl⟩ := hrel
    by_cases hlt : k < n
    · have hi := fun w => idx22 c HA.out.1 w k hlt
      have hi2 := fun w => idx22 d HB.out.1 w k hlt
      have hck := (HA.out.below hbl).2.1 k hlt
      have hck2 := (HB.out.below hbl).2.1 k hlt
      go_wp2_with fail
      go_quiet (fail)
      go_wp2_with fail
      go_roundw
      case rel => exact ⟨k + 1, by omega, by go_num, below_drewN hbl _⟩
      case measure => simp [intOf]; omega
    · go_wp2_with fail
      exact hQ.out _ hbl
end Go.Proofs.Qxb6629100a
