/-
  A proof of 'Rows.FnStringCutSplitsExactlyAtInteriorCutsSaid'. The walk and the plain law: by the prover of this seat; the frame: the guide's template.
-/
import Derived.Test.Qxb6629075aStr
import Derived.WalkKit
import Derived.ProofKit
import Derived.OpenShut
import Derived.ShutString
namespace Go.Proofs.Qxb6629075a.fnStringCutSplitsExactlyAtInteriorCuts
open Go.ChangeShapes Go.WideShapes Go.ChangeAt Go.RowKit
open Go.ChangeMaps (open_string shut_string)
set_option linter.unusedVariables false      -- a walk need not use every 'w<i>' (that an integer argument fits its kind)

theorem own : ownKnob Try.prog.godebug = none := by kernel_rfl

/-! ### THE PLAIN LAW: no Go in sight -/
theorem cut_size (s : ByteArray) (a b : Nat) (h : b ≤ s.size) : (s.extract a b).size = b - a := by
  rw [ByteArray.size_extract]; omega

theorem cut_law (s : ByteArray) (i : Nat) (h : i ≤ s.size) :
    ((strOf s).toList == (strOf (s.extract 0 i) ++ strOf (s.extract i s.size)).toList) = decide (0 < i ∧ i < s.size) := by
  rw [Bool.eq_iff_iff, beq_iff_eq, decide_eq_true_iff, toList_iff]
  have hl := cut_size s 0 i h
  have hr := cut_size s i s.size (Nat.le_refl _)
  by_cases h0 : i = 0
  · subst h0
    rw [strOf_zero (s := s.extract 0 0) (by omega)]
    constructor
    · intro e
      have := congrArg ByteArray.size e
      rw [ByteArray.size_append, NT_size] at this
      by_cases hz : s.size = 0
      · rw [strOf_zero hz, strOf_zero (by omega), NT_size] at this; omega
      · rw [strOf_pos hz, strOf_pos (by omega)] at this; omega
    · intro e; omega
  · by_cases h1 : i = s.size
    · subst h1
      rw [strOf_zero (s := s.extract s.size s.size) (by omega)]
      constructor
      · intro e
        have := congrArg ByteArray.size e
        rw [ByteArray.size_append, NT_size, strOf_pos (by omega), strOf_pos (by omega)] at this; omega
      · intro e; omega
    · rw [strOf_pos (by omega), strOf_pos (by omega), strOf_pos (by omega)]
      constructor
      · intro _; omega
      · intro _
        rw [ByteArray.extract_append_extract]
        rw [Nat.min_eq_left (Nat.zero_le _), Nat.max_eq_right h, ByteArray.extract_zero_size]

/-! ### STEP 1: THE WALK -/
theorem bytes_any (s : ByteArray) (i : Int) (w0 : s.size ≤ maxLen) (w : World) :
    Calls Try.prog 5 #[.string s, .int .i64 i] w fun e w' => e = .returned (.bool (decide (s.size ≤ 1048576))) ∧ w' = w := by
  unfold maxLen at w0
  by_cases h : s.size ≤ 1048576
  · go_enter Try.func5, Try.ntmps5
    go_wp2
    go_ret
    exact ⟨by simp [h], rfl⟩
  · go_enter Try.func5, Try.ntmps5
    go_wp2
    go_ret
    exact ⟨by simp [h], rfl⟩

theorem walk_big (s : ByteArray) (i : Int) (w0 : s.size ≤ maxLen) (w : World) (h : ¬ s.size ≤ 1048576) :
    Calls Try.prog 3 #[.string s, .int .i64 i] w fun e w' => e = .returned (.bool true) ∧ w' = w := by
  go_enter Try.func3, Try.ntmps3
  go_wp2_with fail
  refine (bytes_any s i w0 w).mono ?_
  rintro e w' ⟨rfl, rfl⟩
  go_wp2_with fail
  go_ret
  exact ⟨rfl, rfl⟩

theorem walk_out (s : ByteArray) (i : Int) (w0 : s.size ≤ maxLen) (w : World) (h : s.size ≤ 1048576) (h2 : i < 0 ∨ (s.size : Int) < i) :
    Calls Try.prog 3 #[.string s, .int .i64 i] w fun e w' => e = .returned (.bool true) ∧ w' = w := by
  by_cases hi : i < 0
  · clear h2
    go_enter Try.func3, Try.ntmps3
    go_wp2_with fail
    refine (bytes_any s i w0 w).mono ?_
    rintro e w' ⟨rfl, rfl⟩
    go_wp2_with fail
    go_ret
    exact ⟨rfl, rfl⟩
  · have h3 : (s.size : Int) < i := by omega
    clear h2
    go_enter Try.func3, Try.ntmps3
    go_wp2_with fail
    refine (bytes_any s i w0 w).mono ?_
    rintro e w' ⟨rfl, rfl⟩
    go_wp2_with fail
    go_ret
    exact ⟨rfl, rfl⟩

theorem walk_mid (s : ByteArray) (i : Nat) (w0 : s.size ≤ maxLen) (w : World) (h : s.size ≤ 1048576) (h2 : i ≤ s.size) :
    Calls Try.prog 3 #[.string s, .int .i64 i] w fun e w' => e = .returned (.bool true) ∧ w' = w := by
  have hne := strOf_ne s
  have hl : (strOf (s.extract 0 i)).size ≤ 2000000 := by
    have := strOf_le (s.extract 0 i); have := cut_size s 0 i h2; omega
  have hr : (strOf (s.extract i s.size)).size ≤ 2000000 := by
    have := strOf_le (s.extract i s.size); have := cut_size s i s.size (Nat.le_refl _); omega
  have HL : Hid (((strOf s).toList == (strOf (s.extract 0 i) ++ strOf (s.extract i s.size)).toList) = decide (0 < i ∧ i < s.size)) := cut_law s i h2
  go_enter Try.func3, Try.ntmps3
  go_wp2_with fail
  refine (bytes_any s i w0 w).mono ?_
  rintro e w' ⟨rfl, rfl⟩
  go_wp2_with fail
  refine (str_any _ _).mono ?_
  rintro e w' ⟨rfl, rfl⟩
  go_wp2_with fail
  refine (str_any _ _).mono ?_
  rintro e w' ⟨rfl, rfl⟩
  go_wp2_with fail
  refine (str_any _ _).mono ?_
  rintro e w' ⟨rfl, rfl⟩
  go_wp2_with fail
  · have hpos : 0 < i := by assumption
    go_ret
    exact ⟨by rw [HL.out]; simp [hpos], rfl⟩
  · have hpos : ¬ 0 < i := by assumption
    go_ret
    exact ⟨by rw [HL.out]; simp [hpos], rfl⟩

theorem walk (a0 : ByteArray) (a1 : Int) (w0 : a0.size ≤ maxLen) (w1 : (Lit.int .i64 a1).wf = true) (w : World) :
    Calls Try.prog 3 #[.string a0, .int .i64 a1] w fun e w' => e = .returned (.bool true) ∧ Grown w w' := by
  have fin : Calls Try.prog 3 #[.string a0, .int .i64 a1] w fun e w' => e = .returned (.bool true) ∧ w' = w := by
    by_cases h : a0.size ≤ 1048576
    · by_cases h2 : a1 < 0 ∨ (a0.size : Int) < a1
      · exact walk_out a0 a1 w0 w h h2
      · obtain ⟨n, rfl⟩ := Int.eq_ofNat_of_zero_le (show 0 ≤ a1 by omega)
        exact walk_mid a0 n w0 w h (by omega)
    · exact walk_big a0 a1 w0 w h
  refine fin.mono ?_
  rintro e w' ⟨he, rfl⟩
  exact ⟨he, Grown.refl _⟩

/-! ### THE ROW's STEP: WRITTEN OUT: LEAVE IT -/
set_option maxRecDepth 100000 in
theorem lifted (os : Os) (started : os.Started) (H : Type) (enc : TypeId × Value → H) :
    ReturnsInHanded {} Try.checked os 3 .any (Rows.fnStringCutSplitsExactlyAtInteriorCutsSpec.pre6 enc Try.prog Try.f3 Rows.fnStringCutSplitsExactlyAtInteriorCutsRow.domain false) (Rows.fnStringCutSplitsExactlyAtInteriorCutsSpec.post enc Try.prog Try.f3 false true false false) := by
  refine returnsInHanded_of_change (C := Try.checked) own started (by kernel_rfl) Try.func3
    (ChangeSpec.witness6 (enc := enc) (C := Try.checked) false ⟨#[], #[.string ByteArray.empty, .int .i64 0], []⟩ 8 (by kernel_rfl) (by kernel_rfl) (by kernel_rfl) (by kernel_rfl)) ?_
  intro W base args ds gs before hval0 hW hcnd _
  have hval : ∀ (j : Nat) t v, Try.f3.params[j]? = some t → args[j]? = some v → Value.okWide Try.prog W .any base t v := hval0
  have hW' := hW
  obtain ⟨p, q, hA0, hV, rfl, hfz, hnd⟩ := hW
  have hA : DataW.TrodAll enc Try.prog W 0 (fun _ => true) true Try.f3.params.toList args.toList ds p := hA0
  rw [Try.params3] at hA hval
  obtain ⟨v0, vs0, d0, ds0, p0, q0, hargs, rfl, rfl, h0, r0⟩ := trodAll_cons hA
  obtain ⟨v1, vs1, d1, ds1, p1, q1, rfl, rfl, rfl, h1, r1⟩ := trodAll_cons r0
  obtain ⟨rfl, rfl, rfl⟩ := trodAll_nil r1
  obtain rfl : args = #[v0, v1] := by cases args; simp_all
  obtain ⟨rfl, rfl⟩ := trodVars_none hV
  obtain ⟨a0, rfl, rfl, rfl, w0⟩ := open_string Try.underlying9 (hval 0 9 v0 rfl rfl) h0
  obtain ⟨a1, rfl, rfl, rfl, w1⟩ := open_int Try.underlying3 (hval 1 3 v1 rfl rfl) h1
  clear hA0 hval0
  simp only [List.append_nil] at hW'
  refine (walk a0 a1 w0 w1 W).mono fun e W' ⟨he, hg⟩ => ?_
  subst he
  exact ⟨_, rfl, post_of_same (pa := []) (pv := []) hW' (fun _ _ _ => (trodAll_cons_mk (shut_bool Try.underlying4 _) trodAll_mk0)) (fun sp _ => (trodAll_cons_mk (shut_string Try.underlying9 w0) (trodAll_cons_mk (shut_int Try.underlying3 w1) trodAll_mk0))) (fun _ _ => rfl) rfl
    (hg.frame _) hg.2.1 (ok_one (by kernel_rfl) rfl (okWide_bool_mk Try.underlying4 _))⟩

theorem over : Rows.fnStringCutSplitsExactlyAtInteriorCutsRow.holds Try.pinned (OpenSpec.ofChange Rows.fnStringCutSplitsExactlyAtInteriorCutsSpec) :=
  OpenClaim.holds_of_wide 3 Try.f3 rfl rfl rfl rfl rfl rfl rfl ⟨rfl, rfl, rfl, rfl, rfl⟩ rfl rfl rfl rfl rfl (by kernel_rfl) Try.func3 (by kernel_rfl)
    (of_decide_eq_true (by kernel_rfl)) (by unfold Func.isWrapper; first | (rw [if_pos (by decide +kernel)]; kernel_rfl) | (rw [if_neg (by decide +kernel)]; exact ⟨rfl, rfl⟩))
    (fun os started H enc _ => lifted os started H enc)

/-- ████ THE STATEMENT ████ -/
theorem proved : Rows.FnStringCutSplitsExactlyAtInteriorCutsSaid :=
  over
end Go.Proofs.Qxb6629075a.fnStringCutSplitsExactlyAtInteriorCuts
namespace Go.Proofs.Qxb6629075a
theorem fnStringCutSplits_proved : Rows.FnStringCutSplitsExactlyAtInteriorCutsSaid := fnStringCutSplitsExactlyAtInteriorCuts.proved
end Go.Proofs.Qxb6629075a
