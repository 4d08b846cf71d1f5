/-
  Shared by both laws: what '(State).String' computes ('strOf'), its contract, and the plain facts on it.
-/
import Derived.Test.Qxb6629075aRows
import Derived.WalkKit
import Derived.ProofKit
import Derived.WalkLawsBesides
namespace Go.Proofs.Qxb6629075a
open Go.ChangeShapes Go.WideShapes Go.ChangeAt Go.RowKit

/-- the text that the empty state renders as -/
def NT : ByteArray := ⟨#[110, 111, 116, 32, 116, 114, 105, 101, 100]⟩
/-- what '(State).String' computes -/
def strOf (s : ByteArray) : ByteArray := if s.toList.isEmpty then NT else s

theorem str_empty (s : ByteArray) (h : s.toList.isEmpty = true) (w : World) :
    Calls Try.prog 6 #[.string s] w fun e w' => e = .returned (.string NT) ∧ w' = w := by
  go_enter Try.func6, Try.ntmps6
  go_wp2
  go_ret
  exact ⟨rfl, rfl⟩

theorem str_ne (s : ByteArray) (h : s.toList.isEmpty = false) (w : World) :
    Calls Try.prog 6 #[.string s] w fun e w' => e = .returned (.string s) ∧ w' = w := by
  go_enter Try.func6, Try.ntmps6
  go_wp2
  go_ret
  exact ⟨rfl, rfl⟩

theorem str_any (s : ByteArray) (w : World) :
    Calls Try.prog 6 #[.string s] w fun e w' => e = .returned (.string (strOf s)) ∧ w' = w := by
  cases h : s.toList.isEmpty
  · have e : strOf s = s := by simp [strOf, h]
    rw [e]; exact str_ne s h w
  · have e : strOf s = NT := by simp [strOf, h]
    rw [e]; exact str_empty s h w

theorem isEmpty_size (s : ByteArray) : s.toList.isEmpty = decide (s.size = 0) := by
  rw [ByteArray.toList_eq, Bool.eq_iff_iff, List.isEmpty_iff, decide_eq_true_iff]
  constructor
  · intro h; have := congrArg List.length h; simpa using this
  · intro h; apply List.eq_nil_of_length_eq_zero; simpa using h

theorem toList_iff (a b : ByteArray) : a.toList = b.toList ↔ a = b := by
  rw [ByteArray.toList_eq, ByteArray.toList_eq]
  exact ⟨fun h => bytes_inj h, fun h => by rw [h]⟩

theorem NT_size : NT.size = 9 := rfl

theorem strOf_zero {s : ByteArray} (h : s.size = 0) : strOf s = NT := by
  unfold strOf; rw [isEmpty_size]; simp [h]
theorem strOf_pos {s : ByteArray} (h : s.size ≠ 0) : strOf s = s := by
  unfold strOf; rw [isEmpty_size]; simp [h]

theorem strOf_size_ne (s : ByteArray) : (strOf s).size ≠ 0 := by
  by_cases h : s.size = 0
  · rw [strOf_zero h, NT_size]; decide
  · rw [strOf_pos h]; exact h
theorem strOf_ne (s : ByteArray) : (strOf s).toList.isEmpty = false := by
  rw [isEmpty_size]; simp [strOf_size_ne s]
theorem strOf_le (s : ByteArray) : (strOf s).size ≤ s.size + 9 := by
  by_cases h : s.size = 0
  · rw [strOf_zero h, NT_size]; omega
  · rw [strOf_pos h]; omega
theorem strOf_idem (s : ByteArray) : strOf (strOf s) = strOf s := strOf_pos (strOf_size_ne s)

end Go.Proofs.Qxb6629075a
