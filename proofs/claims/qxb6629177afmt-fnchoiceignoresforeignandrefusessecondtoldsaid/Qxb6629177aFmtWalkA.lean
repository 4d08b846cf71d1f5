/-
  The walk of FnChoiceIsTheOneChildInItsNamespace: it returns true.
-/
import Derived.Test.Qxb6629177aFmtChoice
import Derived.LaidEqlPtr
namespace Go.Proofs.Qxb6629177aFmt
open Go.ChangeShapes Go.WideShapes Go.ChangeAt Go.RowKit
open Go.Extern.Stop Go.Stop Go.Extern

theorem idx26_new {g n : Nat} (c : Nat) (w : World) (k : Nat) (hk : k < n) :
    (Instr.indexAt 26 (.slice (some ⟨g, 0, none⟩) n c) (.int .i64 (k : Int))).run Tryf.prog w = .ok (.pointer (some ⟨g, k, none⟩)) w := by
  rw [idx26 c (fun _ => rfl) w k hk]
  show Result.ok (Value.pointer (some ((⟨g, 0, none⟩ : Addr).add (k * 1)))) w = _
  rw [add_plain, Nat.zero_add, Nat.mul_one]

theorem Tryf.size45 : (Tryf.prog.info? 45).map (·.size) = some 7 := by kernel_rfl
@[go_sem] theorem Tryf.same25 (p : Addr) (w : World) : (binOp .eql 25 (.pointer (some p)) (.pointer (some p))).run Tryf.prog w = .ok (.bool true) w := by
  obtain ⟨j, hj, _⟩ := Option.map_eq_some_iff.1 Tryf.size45
  exact run_eql_ptr_same w p Tryf.underlying25 hj

set_option maxHeartbeats 1000000 in
theorem walkA (F : Interp) (sp lo : ByteArray) (line : Int) (a : Option Addr) (n c : Nat) (S L : Nat → ByteArray) (I : Nat → Int) (w : World) (hs : CV w a n S L I) (h0 : sp.size ≤ maxLen) (h1 : lo.size ≤ maxLen) (hF : F.answers w.tape)
    (Q : Ending → World → Prop) (hQ : Hid (∀ w' : World, Below w.heap.size w w' → Q (.returned (.bool true)) w')) :
    Calls Tryf.prog 3 #[.string sp, .string lo, .int .i64 line, .slice a n c] w Q := by
  have HS : Hid (CV w a n S L I) := Hid.intro hs
  have HF : Hid (F.answers w.tape) := Hid.intro hF
  clear hs hF
  go_enter Tryf.func3, Tryf.ntmps3
  go_wp2_with fail
  refine bytes5_any sp lo line a n c S L I w HS.out h0 h1 _ (Hid.intro ?_)
  intro b hlim
  cases b with
  | false => go_wp2_with fail; exact hQ.out w (Below.refl _ _)
  | true =>
    have HLIM : Hid (lim n sp lo S L) := Hid.intro (hlim rfl)
    clear hlim
    go_wp2_with fail
    refine size_any 0 sp lo a n c S L I w (by omega) (by omega) HS.out HLIM.out _ (Hid.intro ?_)
    intro b
    cases b with
    | false => go_wp2_with fail; exact hQ.out w (Below.refl _ _)
    | true =>
      go_wp2_with fail
      refine build_any sp lo line a n c S L I w HS.out (Nat.le_trans HLIM.out.2.2.1 (by omega)) _ (Hid.intro ?_)
      intro E ca cc w1 hT hK hb
      have HT : Hid (Tree w1 w.heap.size sp lo line n S L I E ca cc) := Hid.intro hT
      have HK : Hid (∀ j, j < n → w1.cell? ⟨w.heap.size + 1, j, none⟩ = some (.pointer (some ⟨E j, 0, none⟩))) := hK
      clear hT hK
      go_wp2_with fail
      refine count_any sp a n c S L I w1 (HS.out.below hb) HLIM.out.2.2.1 _ (Hid.intro ?_)
      go_wp2_with fail
      refine choice_any F w1 w.heap.size sp lo line n S L I E ca cc HT.out (by rw [hb.tape]; exact HF.out) (Nat.le_trans HLIM.out.2.2.1 (by omega)) HLIM.out.2.1 (fun j hj => (HLIM.out.2.2.2 j hj).2) _ (Hid.intro ?_) (Hid.intro ?_)
      · intro j w2 hc hj hf hb2
        have HB : Hid (Below w.heap.size w w2) := Hid.intro (hb.trans (hb2.mono hb.size))
        rw [hc, hf]
        have hi := fun w' => idx26_new (g := w.heap.size + 1) n w' j hj
        have hkj := keep_cell hb2 (HK.out j hj)
        clear hb2 hc hf
        go_wp2_with fail
        exact hQ.out w2 HB.out
      · intro aE w2 hc hb2
        have HB : Hid (Below w.heap.size w w2) := Hid.intro (hb.trans (hb2.mono hb.size))
        have hne : ¬ ((cnt S sp n : Int) = 1) := by omega
        clear hb2 hc
        go_wp2_with fail
        exact hQ.out w2 HB.out
end Go.Proofs.Qxb6629177aFmt
