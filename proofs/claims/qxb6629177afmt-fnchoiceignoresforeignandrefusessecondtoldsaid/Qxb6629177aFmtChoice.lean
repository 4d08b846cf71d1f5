/-
  The contract of (*Element).Choice over a tree in memory.
-/
import Derived.Test.Qxb6629177aFmtFmt
namespace Go.Proofs.Qxb6629177aFmt
open Go.ChangeShapes Go.WideShapes Go.ChangeAt Go.RowKit
open Go.Extern.Stop Go.Stop Go.Extern

theorem cnt_mono (S : Nat → ByteArray) (sp : ByteArray) {k n : Nat} (h : k ≤ n) : cnt S sp k ≤ cnt S sp n := by
  induction n with
  | zero => rw [Nat.le_zero.1 h]; exact Nat.le_refl _
  | succ n ih =>
    rcases Nat.lt_or_ge k (n + 1) with h1 | h1
    · exact Nat.le_trans (ih (by omega)) (by show _ ≤ cnt S sp n + _; omega)
    · rw [show k = n + 1 by omega]; exact Nat.le_refl _
theorem cnt_yes {S : Nat → ByteArray} {sp : ByteArray} {k : Nat} (h : ((S k).toList == sp.toList) = true) : cnt S sp (k + 1) = cnt S sp k + 1 := by
  show cnt S sp k + (if ((S k).toList == sp.toList) = true then 1 else 0) = _; rw [if_pos h]
theorem cnt_no {S : Nat → ByteArray} {sp : ByteArray} {k : Nat} (h : ((S k).toList == sp.toList) = false) : cnt S sp (k + 1) = cnt S sp k ∧ fst S sp (k + 1) = fst S sp k := by
  refine ⟨?_, ?_⟩
  · show cnt S sp k + (if ((S k).toList == sp.toList) = true then 1 else 0) = _; rw [h]; rfl
  · show (if fst S sp k < 0 ∧ ((S k).toList == sp.toList) = true then (k : Int) else fst S sp k) = _; rw [h, if_neg (fun h => by cases h.2)]
theorem fst_yes {S : Nat → ByteArray} {sp : ByteArray} {k : Nat} (h : ((S k).toList == sp.toList) = true) (h0 : cnt S sp k = 0) : fst S sp (k + 1) = k := by
  show (if fst S sp k < 0 ∧ ((S k).toList == sp.toList) = true then (k : Int) else fst S sp k) = _
  rw [if_pos ⟨by rw [(fst_facts S sp k).1 h0]; omega, h⟩]

theorem below_drewN {b : Nat} {w wr : World} (h : Below b w wr) (q : Nat) : Below b w (wr.drewN q) := ⟨h.os, h.tape, h.output, h.size, h.block⟩

theorem new_one (w : World) (a : Value) (t : TypeId) : (w.alloc (.cells #[a] t)).cell? ⟨w.heap.size, 0, none⟩ = some a := by rw [World.cell?_alloc_new]; rfl

/-- what Choice holds in 'chosen' behind k children -/
def Chosen (S : Nat → ByteArray) (sp : ByteArray) (E : Nat → Nat) (k : Nat) (v : Value) : Prop :=
  (cnt S sp k = 0 ∧ v = .pointer none) ∨ (cnt S sp k = 1 ∧ ∃ j : Nat, j < k ∧ fst S sp k = j ∧ v = .pointer (some ⟨E j, 0, none⟩))

set_option maxHeartbeats 1000000 in
theorem choice_any (F : Interp) (w : World) (B : Nat) (sp lo : ByteArray) (line : Int) (n : Nat) (S L : Nat → ByteArray) (I : Nat → Int) (E : Nat → Nat) (ca : Option Addr) (cc : Nat) (hT : Tree w B sp lo line n S L I E ca cc) (hF : F.answers w.tape)
    (hn : n ≤ 1048577) (hlo : lo.size ≤ 1048576) (hL : ∀ j, j < n → (L j).size ≤ 1048576)
    (Q : Ending → World → Prop)
    (hQ1 : Hid (∀ (j : Nat) (w' : World), cnt S sp n = 1 → j < n → fst S sp n = j → Below w.heap.size w w' → Q (.returned (.tuple #[.pointer (some ⟨E j, 0, none⟩), .nilIface])) w'))
    (hQ2 : Hid (∀ (a : Addr) (w' : World), cnt S sp n ≠ 1 → Below w.heap.size w w' → Q (.returned (.tuple #[.pointer none, .iface 52 (.pointer (some a))])) w')) :
    Calls Tryf.prog 9 #[.pointer (some ⟨B, 0, none⟩)] w Q := by
  have HT : Hid (Tree w B sp lo line n S L I E ca cc) := Hid.intro hT
  have HL : Hid (∀ j, j < n → (L j).size ≤ 1048576) := hL
  have HF : Hid (F.answers w.tape) := Hid.intro hF
  have r5 := HT.out.r5
  clear hT hL hF
  go_enter Tryf.func9, Tryf.ntmps9
  go_wp2_with fail
  go_loopw [4, 12] (fun ch i wr => ∃ k : Nat, k ≤ n ∧ i = .int .i64 k ∧ Below w.heap.size w wr ∧ Chosen S sp E k ch) (fun _ i _ => n - (intOf i).toNat)
  case atStart => exact ⟨0, Nat.zero_le _, rfl, Below.refl _ _, .inl ⟨rfl, rfl⟩⟩
  case round =>
    obtain ⟨k, hk, rfl, hb, hch⟩ := hrel
    have HT2 : Hid (Tree wr B sp lo line n S L I E ca cc) := Hid.intro (HT.out.below hb)
    have HF2 : Hid (F.answers wr.tape) := Hid.intro (by rw [hb.tape]; exact HF.out)
    clear r5
    by_cases hlt : k < n
    · have hi := fun w' => idx26 cc HT.out.ne w' k hlt
      have hel := HT2.out.el k hlt
      obtain ⟨k0, k1, k2, k6⟩ := HT2.out.kid k hlt
      have r0 := HT2.out.r0
      cases heq : ((S k).toList == sp.toList) with
      | false =>
        have HCH : Hid (Chosen S sp E (k + 1) u4) := Hid.intro (by
          obtain ⟨e1, e2⟩ := cnt_no heq
          unfold Chosen; rw [e1, e2]
          rcases hch with h | ⟨h, j, hj, h1, h2⟩
          · exact .inl h
          · exact .inr ⟨h, j, by omega, h1, h2⟩)
        clear hch
        go_wp2_with fail
        go_quiet (fail)
        go_wp2_with fail
        go_roundw
        case rel => exact ⟨k + 1, by omega, by go_num, below_drewN hb nq, HCH.out⟩
        case measure => simp [intOf]; omega
      | true =>
        rcases hch with ⟨h0, rfl⟩ | ⟨h0, j, hj, hfj, rfl⟩
        · have HCH : Hid (Chosen S sp E (k + 1) (.pointer (some ⟨E k, 0, none⟩))) := Hid.intro (by
            refine .inr ⟨by rw [cnt_yes heq, h0], k, by omega, fst_yes heq h0, rfl⟩)
          clear h0
          go_wp2_with fail
          go_quiet (fail)
          go_wp2_with fail
          go_roundw
          case rel => exact ⟨k + 1, by omega, by go_num, below_drewN hb nq, HCH.out⟩
          case measure => simp [intOf]; omega
        · have HN : Hid (cnt S sp n ≠ 1) := Hid.intro (by
            have h1 := cnt_mono S sp (show k + 1 ≤ n by omega)
            rw [cnt_yes heq, h0] at h1
            omega)
          obtain ⟨j0, j1, j2, j6⟩ := HT2.out.kid j (by omega)
          clear h0 hfj j0 j2 j6
          go_wp2_with fail
          go_quiet (fail)
          go_wp2_with fail
          have hbn : Below wr.heap.size wr ((wr.drewN nq).alloc (.cells #[.iface 9 (.string (L j))] 20)) := (below_drewN (Below.refl wr.heap.size wr) nq).alloc (Nat.le_refl _) _
          refine errKid_any F B (E k) wr.heap.size lo (L k) (L j) (I k) _ (by exact HF2.out) (keep_cell hbn HT2.out.r1) (keep_cell hbn HT2.out.r6) (keep_cell hbn k1) (keep_cell hbn k2) (keep_cell hbn k6) hlo (HL.out k hlt) (by exact new_one _ _ _) _ (Hid.intro ?_)
          intro aE wE bE
          have HB : Hid (Below w.heap.size w wE) := Hid.intro ((hb.trans (hbn.mono hb.size)).trans (bE.mono (Nat.le_trans hb.size hbn.size)))
          clear bE hbn
          go_wp2_with fail
          exact hQ2.out aE wE HN.out HB.out
    · obtain rfl : k = n := by omega
      rcases hch with ⟨h0, rfl⟩ | ⟨h0, j, hj, hfj, rfl⟩
      · have HN : Hid (cnt S sp k ≠ 1) := Hid.intro (by omega)
        clear h0
        go_wp2_with fail
        refine errRoot_any F B lo line wr HF2.out HT2.out.r1 HT2.out.r2 HT2.out.r6 _ (Hid.intro ?_)
        intro aE wE bE
        have HB : Hid (Below w.heap.size w wE) := Hid.intro (hb.trans (bE.mono hb.size))
        clear bE
        go_wp2_with fail
        exact hQ2.out aE wE HN.out HB.out
      · have HJ : Hid (cnt S sp k = 1 ∧ j < k ∧ fst S sp k = j) := Hid.intro ⟨h0, hj, hfj⟩
        clear h0 hfj
        go_wp2_with fail
        exact hQ1.out j wr HJ.out.1 HJ.out.2.1 HJ.out.2.2 hb
end Go.Proofs.Qxb6629177aFmt
