/-
  A proof of 'Rows.FnStringIdempotentNeverEmptyOneCollisionSaid'. The walk and the plain law: by the prover of this seat; the frame: the guide's template.
-/
import Derived.Test.Qxb6629075aStr
import Derived.WalkKit
import Derived.ProofKit
import Derived.OpenShut
import Derived.ShutString
namespace Go.Proofs.Qxb6629075a.fnStringIdempotentNeverEmptyOneCollision
open Go.ChangeShapes Go.WideShapes Go.ChangeAt Go.RowKit
open Go.ChangeMaps (open_string shut_string)
set_option linter.unusedVariables false      -- a walk need not use every 'w<i>' (that an integer argument fits its kind)

theorem own : ownKnob Try.prog.godebug = none := by kernel_rfl

/-! ### THE PLAIN LAW: no Go in sight -/
def noneB (s : ByteArray) : Bool := s.toList.isEmpty || s.toList == NT.toList
theorem noneB_iff (s : ByteArray) : noneB s = true ↔ (s.size = 0 ∨ s = NT) := by
  unfold noneB
  rw [isEmpty_size, Bool.or_eq_true, decide_eq_true_iff, beq_iff_eq, toList_iff]

theorem size_zero_eq {a b : ByteArray} (ha : a.size = 0) (hb : b.size = 0) : a = b := by
  apply bytes_inj
  rw [List.eq_nil_of_length_eq_zero (l := a.data.toList) (by simpa using ha), List.eq_nil_of_length_eq_zero (l := b.data.toList) (by simpa using hb)]

/-- two states render alike just when they are one state, or both lie in the one class -/
theorem collide (a b : ByteArray) :
    ((strOf a).toList == (strOf b).toList) = ((a.toList == b.toList) || (noneB a && noneB b)) := by
  rw [Bool.eq_iff_iff, Bool.or_eq_true, Bool.and_eq_true, beq_iff_eq, beq_iff_eq, toList_iff, toList_iff, noneB_iff, noneB_iff]
  by_cases ha : a.size = 0
  · by_cases hb : b.size = 0
    · rw [strOf_zero ha, strOf_zero hb]; simp [ha, hb]
    · rw [strOf_zero ha, strOf_pos hb]
      constructor
      · intro h; exact Or.inr ⟨Or.inl ha, Or.inr h.symm⟩
      · rintro (h | ⟨_, h | h⟩)
        · rw [h] at ha; exact absurd ha hb
        · exact absurd h hb
        · exact h.symm
  · by_cases hb : b.size = 0
    · rw [strOf_pos ha, strOf_zero hb]
      constructor
      · intro h; exact Or.inr ⟨Or.inr h, Or.inl hb⟩
      · rintro (h | ⟨h | h, _⟩)
        · rw [← h] at hb; exact absurd hb ha
        · exact absurd h ha
        · exact h
    · rw [strOf_pos ha, strOf_pos hb]
      constructor
      · intro h; exact Or.inl h
      · rintro (h | ⟨h | h, h' | h'⟩)
        · exact h
        · exact absurd h ha
        · exact absurd h ha
        · exact absurd h' hb
        · rw [h, h']

/-! ### STEP 1: THE WALK -/
theorem none_any (s : ByteArray) (w : World) :
    Calls Try.prog 8 #[.string s] w fun e w' => e = .returned (.bool (noneB s)) ∧ w' = w := by
  cases h : s.toList.isEmpty
  · have HE : Hid (noneB s = (s.toList == [110, 111, 116, 32, 116, 114, 105, 101, 100])) := by
      have e : NT.toList = [110, 111, 116, 32, 116, 114, 105, 101, 100] := by rw [ByteArray.toList_eq]; rfl
      unfold noneB; rw [h, e]; exact Bool.false_or _
    go_enter Try.func8, Try.ntmps8
    go_wp2
    go_ret
    exact ⟨by rw [HE.out]; rfl, rfl⟩
  · have HE : Hid (noneB s = true) := by unfold noneB; rw [h]; rfl
    go_enter Try.func8, Try.ntmps8
    go_wp2
    go_ret
    exact ⟨by rw [HE.out]; rfl, rfl⟩

theorem str_again (s : ByteArray) (w : World) :
    Calls Try.prog 6 #[.string (strOf s)] w fun e w' => e = .returned (.string (strOf s)) ∧ w' = w := by
  have := str_any (strOf s) w
  rw [strOf_idem] at this
  exact this

theorem bytes_any (a b : ByteArray) (w0 : a.size ≤ maxLen) (w1 : b.size ≤ maxLen) (w : World) :
    Calls Try.prog 7 #[.string a, .string b] w fun e w' => e = .returned (.bool (decide (a.size + b.size ≤ 1048576))) ∧ w' = w := by
  unfold maxLen at w0 w1
  by_cases h : a.size + b.size ≤ 1048576
  · go_enter Try.func7, Try.ntmps7
    go_wp2
    go_ret
    exact ⟨by simp [h], rfl⟩
  · by_cases ha : a.size ≤ 1048576
    · by_cases hb : b.size ≤ 1048576
      · go_enter Try.func7, Try.ntmps7
        go_wp2
        go_ret
        exact ⟨by simp [h], rfl⟩
      · go_enter Try.func7, Try.ntmps7
        go_wp2
        go_ret
        exact ⟨by simp [h], rfl⟩
    · go_enter Try.func7, Try.ntmps7
      go_wp2
      go_ret
      exact ⟨by simp [h], rfl⟩

theorem walk_big (a b : ByteArray) (w0 : a.size ≤ maxLen) (w1 : b.size ≤ maxLen) (w : World) (h : ¬ a.size + b.size ≤ 1048576) :
    Calls Try.prog 4 #[.string a, .string b] w fun e w' => e = .returned (.bool true) ∧ w' = w := by
  go_enter Try.func4, Try.ntmps4
  go_wp2_with fail
  refine (bytes_any a b w0 w1 w).mono ?_
  rintro e w' ⟨rfl, rfl⟩
  go_wp2_with fail
  go_ret
  exact ⟨rfl, rfl⟩

theorem walk_long (a b : ByteArray) (w0 : a.size ≤ maxLen) (w1 : b.size ≤ maxLen) (w : World) (h : a.size + b.size ≤ 1048576) (h2 : 524288 < a.size ∨ 524288 < b.size) :
    Calls Try.prog 4 #[.string a, .string b] w fun e w' => e = .returned (.bool true) ∧ w' = w := by
  by_cases ha : 524288 < a.size
  · clear h2
    go_enter Try.func4, Try.ntmps4
    go_wp2_with fail
    refine (bytes_any a b w0 w1 w).mono ?_
    rintro e w' ⟨rfl, rfl⟩
    go_wp2_with fail
    go_ret
    exact ⟨rfl, rfl⟩
  · have hb : 524288 < b.size := by omega
    clear h2
    go_enter Try.func4, Try.ntmps4
    go_wp2_with fail
    refine (bytes_any a b w0 w1 w).mono ?_
    rintro e w' ⟨rfl, rfl⟩
    go_wp2_with fail
    go_ret
    exact ⟨rfl, rfl⟩

theorem walk_main (a b : ByteArray) (w0 : a.size ≤ maxLen) (w1 : b.size ≤ maxLen) (w : World) (h : a.size + b.size ≤ 1048576) (ha : a.size ≤ 524288) (hb : b.size ≤ 524288) :
    Calls Try.prog 4 #[.string a, .string b] w fun e w' => e = .returned (.bool true) ∧ w' = w := by
  have hna := strOf_ne a
  have hnb := strOf_ne b
  have HL : Hid (((strOf a).toList == (strOf b).toList) = ((a.toList == b.toList) || (noneB a && noneB b))) := collide a b
  cases he : (a.toList == b.toList)
  · cases hA : noneB a
    · have HF : Hid (((strOf a).toList == (strOf b).toList) = false) := by rw [HL.out, he, hA]; rfl
      clear HL
      go_enter Try.func4, Try.ntmps4
      go_wp2_with fail
      refine (bytes_any a b w0 w1 w).mono ?_
      rintro e w' ⟨rfl, rfl⟩
      go_wp2_with fail
      refine (str_any _ _).mono ?_
      rintro e w' ⟨rfl, rfl⟩
      go_wp2_with fail
      refine (str_any _ _).mono ?_
      rintro e w' ⟨rfl, rfl⟩
      go_wp2_with fail
      refine (str_again _ _).mono ?_
      rintro e w' ⟨rfl, rfl⟩
      go_wp2_with fail
      refine (str_again _ _).mono ?_
      rintro e w' ⟨rfl, rfl⟩
      go_wp2_with fail
      refine (none_any _ _).mono ?_
      rintro e w' ⟨rfl, rfl⟩
      go_wp2_with fail
      go_ret
      exact ⟨by rw [HF.out]; rfl, rfl⟩
    · have HF : Hid (((strOf a).toList == (strOf b).toList) = noneB b) := by
        rw [HL.out, he, hA]; cases noneB b <;> rfl
      clear HL
      go_enter Try.func4, Try.ntmps4
      go_wp2_with fail
      refine (bytes_any a b w0 w1 w).mono ?_
      rintro e w' ⟨rfl, rfl⟩
      go_wp2_with fail
      refine (str_any _ _).mono ?_
      rintro e w' ⟨rfl, rfl⟩
      go_wp2_with fail
      refine (str_any _ _).mono ?_
      rintro e w' ⟨rfl, rfl⟩
      go_wp2_with fail
      refine (str_again _ _).mono ?_
      rintro e w' ⟨rfl, rfl⟩
      go_wp2_with fail
      refine (str_again _ _).mono ?_
      rintro e w' ⟨rfl, rfl⟩
      go_wp2_with fail
      refine (none_any _ _).mono ?_
      rintro e w' ⟨rfl, rfl⟩
      go_wp2_with fail
      refine (none_any _ _).mono ?_
      rintro e w' ⟨rfl, rfl⟩
      go_wp2_with fail
      go_ret
      exact ⟨by rw [HF.out]; simp, rfl⟩
  · have HF : Hid (((strOf a).toList == (strOf b).toList) = true) := by rw [HL.out, he]; rfl
    clear HL
    go_enter Try.func4, Try.ntmps4
    go_wp2_with fail
    refine (bytes_any a b w0 w1 w).mono ?_
    rintro e w' ⟨rfl, rfl⟩
    go_wp2_with fail
    refine (str_any _ _).mono ?_
    rintro e w' ⟨rfl, rfl⟩
    go_wp2_with fail
    refine (str_any _ _).mono ?_
    rintro e w' ⟨rfl, rfl⟩
    go_wp2_with fail
    refine (str_again _ _).mono ?_
    rintro e w' ⟨rfl, rfl⟩
    go_wp2_with fail
    refine (str_again _ _).mono ?_
    rintro e w' ⟨rfl, rfl⟩
    go_wp2_with fail
    go_ret
    exact ⟨by rw [HF.out]; rfl, rfl⟩

theorem walk (a0 : ByteArray) (a1 : ByteArray) (w0 : a0.size ≤ maxLen) (w1 : a1.size ≤ maxLen) (w : World) :
    Calls Try.prog 4 #[.string a0, .string a1] w fun e w' => e = .returned (.bool true) ∧ Grown w w' := by
  have fin : Calls Try.prog 4 #[.string a0, .string a1] w fun e w' => e = .returned (.bool true) ∧ w' = w := by
    by_cases h : a0.size + a1.size ≤ 1048576
    · by_cases h2 : 524288 < a0.size ∨ 524288 < a1.size
      · exact walk_long a0 a1 w0 w1 w h h2
      · exact walk_main a0 a1 w0 w1 w h (by omega) (by omega)
    · exact walk_big a0 a1 w0 w1 w h
  refine fin.mono ?_
  rintro e w' ⟨he, rfl⟩
  exact ⟨he, Grown.refl _⟩

/-! ### THE ROW's STEP: WRITTEN OUT: LEAVE IT -/
set_option maxRecDepth 100000 in
theorem lifted (os : Os) (started : os.Started) (H : Type) (enc : TypeId × Value → H) :
    ReturnsInHanded {} Try.checked os 4 .any (Rows.fnStringIdempotentNeverEmptyOneCollisionSpec.pre6 enc Try.prog Try.f4 Rows.fnStringIdempotentNeverEmptyOneCollisionRow.domain false) (Rows.fnStringIdempotentNeverEmptyOneCollisionSpec.post enc Try.prog Try.f4 false true false false) := by
  refine returnsInHanded_of_change (C := Try.checked) own started (by kernel_rfl) Try.func4
    (ChangeSpec.witness6 (enc := enc) (C := Try.checked) false ⟨#[], #[.string ByteArray.empty, .string ByteArray.empty], []⟩ 8 (by kernel_rfl) (by kernel_rfl) (by kernel_rfl) (by kernel_rfl)) ?_
  intro W base args ds gs before hval0 hW hcnd _
  have hval : ∀ (j : Nat) t v, Try.f4.params[j]? = some t → args[j]? = some v → Value.okWide Try.prog W .any base t v := hval0
  have hW' := hW
  obtain ⟨p, q, hA0, hV, rfl, hfz, hnd⟩ := hW
  have hA : DataW.TrodAll enc Try.prog W 0 (fun _ => true) true Try.f4.params.toList args.toList ds p := hA0
  rw [Try.params4] at hA hval
  obtain ⟨v0, vs0, d0, ds0, p0, q0, hargs, rfl, rfl, h0, r0⟩ := trodAll_cons hA
  obtain ⟨v1, vs1, d1, ds1, p1, q1, rfl, rfl, rfl, h1, r1⟩ := trodAll_cons r0
  obtain ⟨rfl, rfl, rfl⟩ := trodAll_nil r1
  obtain rfl : args = #[v0, v1] := by cases args; simp_all
  obtain ⟨rfl, rfl⟩ := trodVars_none hV
  obtain ⟨a0, rfl, rfl, rfl, w0⟩ := open_string Try.underlying9 (hval 0 9 v0 rfl rfl) h0
  obtain ⟨a1, rfl, rfl, rfl, w1⟩ := open_string Try.underlying9 (hval 1 9 v1 rfl rfl) h1
  clear hA0 hval0
  simp only [List.append_nil] at hW'
  refine (walk a0 a1 w0 w1 W).mono fun e W' ⟨he, hg⟩ => ?_
  subst he
  exact ⟨_, rfl, post_of_same (pa := []) (pv := []) hW' (fun _ _ _ => (trodAll_cons_mk (shut_bool Try.underlying4 _) trodAll_mk0)) (fun sp _ => (trodAll_cons_mk (shut_string Try.underlying9 w0) (trodAll_cons_mk (shut_string Try.underlying9 w1) trodAll_mk0))) (fun _ _ => rfl) rfl
    (hg.frame _) hg.2.1 (ok_one (by kernel_rfl) rfl (okWide_bool_mk Try.underlying4 _))⟩

theorem over : Rows.fnStringIdempotentNeverEmptyOneCollisionRow.holds Try.pinned (OpenSpec.ofChange Rows.fnStringIdempotentNeverEmptyOneCollisionSpec) :=
  OpenClaim.holds_of_wide 4 Try.f4 rfl rfl rfl rfl rfl rfl rfl ⟨rfl, rfl, rfl, rfl, rfl⟩ rfl rfl rfl rfl rfl (by kernel_rfl) Try.func4 (by kernel_rfl)
    (of_decide_eq_true (by kernel_rfl)) (by unfold Func.isWrapper; first | (rw [if_pos (by decide +kernel)]; kernel_rfl) | (rw [if_neg (by decide +kernel)]; exact ⟨rfl, rfl⟩))
    (fun os started H enc _ => lifted os started H enc)

/-- ████ THE STATEMENT ████ -/
theorem proved : Rows.FnStringIdempotentNeverEmptyOneCollisionSaid :=
  over
end Go.Proofs.Qxb6629075a.fnStringIdempotentNeverEmptyOneCollision
namespace Go.Proofs.Qxb6629075a
theorem fnStringIdempotent_proved : Rows.FnStringIdempotentNeverEmptyOneCollisionSaid := fnStringIdempotentNeverEmptyOneCollision.proved
end Go.Proofs.Qxb6629075a
