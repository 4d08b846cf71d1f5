/-
  A proof of 'Rows.FnPinIsLeastLabelElseFirstInSaid'. The walks and the plain laws: by the prover of this seat; the frame: the guide's template.
-/
import Derived.Test.Qxb6629100aWalkA
import Derived.Test.Qxb6629100aOpen
import Derived.OpenShut
import Derived.ShutString
import Derived.ChangeOld
import Derived.Below
namespace Go.Proofs.Qxb6629100a.fnPinIsLeastLabelElseFirstIn
open Go.ChangeShapes Go.WideShapes Go.ChangeAt Go.RowKit
open Go.ChangeMaps (open_string shut_string)
set_option linter.unusedVariables false

theorem own : ownKnob Try.prog.godebug = none := by kernel_rfl
theorem laidOut : laidOutB Try.prog = true := by kernel_rfl

theorem walk (isNil : Bool) (a0 a1 a2 a3 a4 : Option Addr) (n0 n1 n2 n3 n4 c0 c1 c2 c3 c4 : Nat) (f0 f1 f2 f3 : Nat → ByteArray) (A : Nat → Option Addr) (L C : Nat → Nat) (F : Nat → Nat → ByteArray) (w : World)
    (h0 : SV w a0 n0 f0) (h1 : SV w a1 n1 f1) (h2 : SV w a2 n2 f2) (h3 : SV w a3 n3 f3) (h4 : SSV w a4 n4 A L C F) :
    Calls Try.prog 3 #[.bool isNil, .slice a0 n0 c0, .slice a1 n1 c1, .slice a2 n2 c2, .slice a3 n3 c3, .slice a4 n4 c4] w fun e w' => e = .returned (.bool true) ∧ Below w.heap.size w w' := by
  cases isNil with
  | true => exact walkA_nil a0 a1 a2 a3 a4 n0 n1 n2 n3 n4 c0 c1 c2 c3 c4 f0 f1 f2 f3 A L C F w h0 h1 h2 h3 h4 _ (fun w' hb => ⟨rfl, hb⟩)
  | false =>
    rcases Nat.eq_zero_or_pos n0 with e | e
    · subst e
      exact walkA_reqs a0 a1 a2 a3 a4 n1 n2 n3 n4 c0 c1 c2 c3 c4 f0 f1 f2 f3 A L C F w h0 h1 h2 h3 h4 _ (fun w' hb => ⟨rfl, hb⟩)
    · exact walkA_labels a0 a1 a2 a3 a4 n0 n1 n2 n3 n4 c0 c1 c2 c3 c4 f0 f1 f2 f3 A L C F w h0 h1 h2 h3 h4 e _ (fun w' hb => ⟨rfl, hb⟩)

set_option maxRecDepth 100000 in
theorem lifted (os : Os) (started : os.Started) (H : Type) (enc : TypeId × Value → H) :
    ReturnsInHanded {} Try.checked os 3 .any (Rows.fnPinIsLeastLabelElseFirstInSpec.pre6 enc Try.prog Try.f3 Rows.fnPinIsLeastLabelElseFirstInRow.domain false) (Rows.fnPinIsLeastLabelElseFirstInSpec.post enc Try.prog Try.f3 false true false false) := by
  refine returnsInHanded_of_change (C := Try.checked) own started (by kernel_rfl) Try.func3
    (ChangeSpec.witness6 (enc := enc) (C := Try.checked) false ⟨#[], #[.bool false, .slice none 0 0, .slice none 0 0, .slice none 0 0, .slice none 0 0, .slice none 0 0], []⟩ 8 (by kernel_rfl) (by kernel_rfl) (by kernel_rfl) (by kernel_rfl)) ?_
  intro W base args ds gs before hval0 hW hcnd _
  have hval : ∀ (j : Nat) t v, Try.f3.params[j]? = some t → args[j]? = some v → Value.okWide Try.prog W .any base t v := hval0
  have hW' := hW
  obtain ⟨p, q, hA0, hV, rfl, hfz, hnd⟩ := hW
  have hA : DataW.TrodAll enc Try.prog W 0 (fun _ => true) true Try.f3.params.toList args.toList ds p := hA0
  rw [Try.params3] at hA hval
  obtain ⟨v0, vs0, d0, ds0, p0, q0, hargs, rfl, rfl, h0, r0⟩ := trodAll_cons hA
  obtain ⟨v1, vs1, d1, ds1, p1, q1, rfl, rfl, rfl, h1, r1⟩ := trodAll_cons r0
  obtain ⟨v2, vs2, d2, ds2, p2, q2, rfl, rfl, rfl, h2, r2⟩ := trodAll_cons r1
  obtain ⟨v3, vs3, d3, ds3, p3, q3, rfl, rfl, rfl, h3, r3⟩ := trodAll_cons r2
  obtain ⟨v4, vs4, d4, ds4, p4, q4, rfl, rfl, rfl, h4, r4⟩ := trodAll_cons r3
  obtain ⟨v5, vs5, d5, ds5, p5, q5, rfl, rfl, rfl, h5, r5⟩ := trodAll_cons r4
  obtain ⟨rfl, rfl, rfl⟩ := trodAll_nil r5
  obtain rfl : args = #[v0, v1, v2, v3, v4, v5] := by cases args; simp_all
  obtain ⟨rfl, rfl⟩ := trodVars_none hV
  obtain ⟨isNil, rfl, rfl, rfl⟩ := open_bool Try.underlying4 (hval 0 4 v0 rfl rfl) h0
  obtain ⟨a0, n0, c0, rfl⟩ := okWide_slice Try.underlying22 (hval 1 22 v1 rfl rfl)
  obtain ⟨a1, n1, c1, rfl⟩ := okWide_slice Try.underlying22 (hval 2 22 v2 rfl rfl)
  obtain ⟨a2, n2, c2, rfl⟩ := okWide_slice Try.underlying22 (hval 3 22 v3 rfl rfl)
  obtain ⟨a3, n3, c3, rfl⟩ := okWide_slice Try.underlying22 (hval 4 22 v4 rfl rfl)
  obtain ⟨a4, n4, c4, rfl⟩ := okWide_slice Try.underlying23 (hval 5 23 v5 rfl rfl)
  have lt1 : ∀ x ∈ p1, x.block < W.heap.size := by obtain ⟨m, hm⟩ := h1; exact DataW.trod_lt m _ _ _ hm
  have lt2 : ∀ x ∈ p2, x.block < W.heap.size := by obtain ⟨m, hm⟩ := h2; exact DataW.trod_lt m _ _ _ hm
  have lt3 : ∀ x ∈ p3, x.block < W.heap.size := by obtain ⟨m, hm⟩ := h3; exact DataW.trod_lt m _ _ _ hm
  have lt4 : ∀ x ∈ p4, x.block < W.heap.size := by obtain ⟨m, hm⟩ := h4; exact DataW.trod_lt m _ _ _ hm
  have lt5 : ∀ x ∈ p5, x.block < W.heap.size := by obtain ⟨m, hm⟩ := h5; exact DataW.trod_lt m _ _ _ hm
  obtain ⟨f0, s0⟩ := sv_of h1
  obtain ⟨f1, s1⟩ := sv_of h2
  obtain ⟨f2, s2⟩ := sv_of h3
  obtain ⟨f3, s3⟩ := sv_of h4
  obtain ⟨A, L, C, F, s4⟩ := ssv_of h5
  clear hA0 hval0
  refine (walk isNil a0 a1 a2 a3 a4 n0 n1 n2 n3 n4 c0 c1 c2 c3 c4 f0 f1 f2 f3 A L C F W s0 s1 s2 s3 s4).mono fun e W' ⟨he, bel⟩ => ?_
  subst he
  exact ⟨_, rfl, _, _, _, [], _, [], hW', trodAll_mk1 (shut_bool Try.underlying4 _),
    (trodAll_cons_mk (shut_bool Try.underlying4 isNil)
    (trodAll_cons_mk (Below.trod laidOut (by kernel_rfl) (of_decide_eq_true (by kernel_rfl)) h1 bel lt1)
    (trodAll_cons_mk (Below.trod laidOut (by kernel_rfl) (of_decide_eq_true (by kernel_rfl)) h2 bel lt2)
    (trodAll_cons_mk (Below.trod laidOut (by kernel_rfl) (of_decide_eq_true (by kernel_rfl)) h3 bel lt3)
    (trodAll_cons_mk (Below.trod laidOut (by kernel_rfl) (of_decide_eq_true (by kernel_rfl)) h4 bel lt4)
    (trodAll_cons_mk (Below.trod laidOut (by kernel_rfl) (of_decide_eq_true (by kernel_rfl)) h5 bel lt5) trodAll_mk0)))))), rfl, bel.frame _, fun h => by cases h⟩

theorem over : Rows.fnPinIsLeastLabelElseFirstInRow.holds Try.pinned (OpenSpec.ofChange Rows.fnPinIsLeastLabelElseFirstInSpec) :=
  OpenClaim.holds_of_wide 3 Try.f3 rfl rfl rfl rfl rfl rfl rfl ⟨rfl, rfl, rfl, rfl, rfl⟩ rfl rfl rfl rfl rfl (by kernel_rfl) Try.func3 (by kernel_rfl)
    (of_decide_eq_true (by kernel_rfl)) (by unfold Func.isWrapper; first | (rw [if_pos (by decide +kernel)]; kernel_rfl) | (rw [if_neg (by decide +kernel)]; exact ⟨rfl, rfl⟩))
    (fun os started H enc _ => lifted os started H enc)

end Go.Proofs.Qxb6629100a.fnPinIsLeastLabelElseFirstIn
namespace Go.Proofs.Qxb6629100a
theorem fnPinIsLeastLabelElseFirstIn_proved : Rows.FnPinIsLeastLabelElseFirstInSaid := fnPinIsLeastLabelElseFirstIn.over
end Go.Proofs.Qxb6629100a
