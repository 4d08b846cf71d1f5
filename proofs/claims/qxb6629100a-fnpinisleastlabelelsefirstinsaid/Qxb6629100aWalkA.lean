/-
  The walks of FnPinIsLeastLabelElseFirstIn.
-/
import Derived.Test.Qxb6629100aWalkB
import Derived.Test.Qxb6629100aBytesA
namespace Go.Proofs.Qxb6629100a
open Go.ChangeShapes Go.WideShapes Go.ChangeAt Go.RowKit

theorem Box.drew {W : World} {b : Nat} {l : ByteArray} {va : Option Addr} {vn vc : Nat} (h : Box W b l va vn vc) : Box W.drew b l va vn vc := h
theorem SV.drew {w : World} {a : Option Addr} {n : Nat} {f : Nat → ByteArray} (h : SV w a n f) : SV w.drew a n f := h
theorem SSV.drew {w : World} {a : Option Addr} {n : Nat} {A : Nat → Option Addr} {L C : Nat → Nat} {F : Nat → Nat → ByteArray} (h : SSV w a n A L C F) : SSV w.drew a n A L C F := h

theorem ReqAt.sv {W : World} {lo n : Nat} {nn : Bool} {f ops : Nat → ByteArray} {V : Nat → Option Addr} {Ln : Nat → Nat} {F : Nat → Nat → ByteArray} {q : Option Addr} (h : ReqAt W lo nn n f ops V Ln F q) {i : Nat} (hi : i < n) : SV W (V i) (Ln i) (F i) := by
  cases q with
  | none => have h1 := h.2.1 (by omega); have h2 := h.1; rw [h1] at h2; cases h2
  | some x =>
    obtain ⟨B, rfl, _, _, hr⟩ := h.2.2 x rfl
    exact (hr.2.2 i hi).2.2.2.1

set_option maxRecDepth 100000 in
set_option maxHeartbeats 2000000 in
theorem walkA_nil (a0 a1 a2 a3 a4 : Option Addr) (n0 n1 n2 n3 n4 c0 c1 c2 c3 c4 : Nat) (f0 f1 f2 f3 : Nat → ByteArray) (A : Nat → Option Addr) (L C : Nat → Nat) (F : Nat → Nat → ByteArray) (w : World)
    (h0 : SV w a0 n0 f0) (h1 : SV w a1 n1 f1) (h2 : SV w a2 n2 f2) (h3 : SV w a3 n3 f3) (h4 : SSV w a4 n4 A L C F) 
    (Q : Ending → World → Prop) (hQ : Hid (∀ w', Below w.heap.size w w' → Q (.returned (.bool true)) w')) :
    Calls Try.prog 3 #[.bool true, .slice a0 n0 c0, .slice a1 n1 c1, .slice a2 n2 c2, .slice a3 n3 c3, .slice a4 n4 c4] w Q := by
  have H0 : Hid (SV w a0 n0 f0) := h0
  have H1 : Hid (SV w a1 n1 f1) := h1
  have H2 : Hid (SV w a2 n2 f2) := h2
  have H3 : Hid (SV w a3 n3 f3) := h3
  have H4 : Hid (SSV w a4 n4 A L C F) := h4
  clear h0 h1 h2 h3 h4
  go_enter Try.func3, Try.ntmps3
  go_wp2_with fail
  refine bytes5_any _ _ _ _ _ _ _ _ _ _ _ _ _ _ _ _ f0 f1 f2 f3 A L C F _ H0.out H1.out H2.out H3.out H4.out _ fun b => ?_
  cases b
  · go_wp2_with fail
    exact hQ.out _ (Below.refl _ _)
  go_wp2_with fail
  refine fits_any _ _ _ _ _ _ _ _ _ _ _ _ _ _ _ f0 f1 f2 f3 A L C F _ _ _ H0.out H1.out H2.out H3.out H4.out (Nat.zero_le _) (Nat.zero_le _) _ fun b hb => ?_
  cases b
  · go_wp2_with fail
    exact hQ.out _ (Below.refl _ _)
  obtain ⟨b0, b1, b2, b3, b4, bL⟩ := hb rfl
  have BL : Hid (∀ r, r < n4 → L r ≤ 1048576) := bL
  clear hb bL
  go_wp2_with fail
  refine clone_any _ _ _ f0 _ H0.out b0 _ fun x0 w0 s0 g0 _ e0 => ?_
  have G0 : Hid (SV w0 x0 n0 f0) := g0
  clear g0
  go_wp2_with fail
  refine clone_any _ _ _ f1 _ (H1.out.below e0) b1 _ fun x1 w1 s1 g1 _ e1 => ?_
  have G1 : Hid (SV w1 x1 n1 f1) := g1
  clear g1
  go_wp2_with fail
  refine clone_any _ _ _ f2 _ ((H2.out.below e0).below e1) b2 _ fun x2 w2 s2 g2 _ e2 => ?_
  have G2 : Hid (SV w2 x2 n2 f2) := g2
  clear g2
  go_wp2_with fail
  refine clone_any _ _ _ f3 _ (((H3.out.below e0).below e1).below e2) b3 _ fun x3 w3 s3 g3 _ e3 => ?_
  have G3 : Hid (SV w3 x3 n3 f3) := g3
  clear g3
  go_wp2_with fail
  refine clone2_any _ _ _ A L C F _ ((((H4.out.below e0).below e1).below e2).below e3) b4 BL.out _ fun x4 A4 w4 s4 t4 g4 e4 => ?_
  have G4 : Hid (SSV w4 x4 n4 A4 L L F) := g4
  have E4 : Hid (Below w.heap.size w w4) := (((e0.trans (e1.mono e0.size)).trans (e2.mono (Nat.le_trans e0.size e1.size))).trans (e3.mono (Nat.le_trans (Nat.le_trans e0.size e1.size) e2.size))).trans (e4.mono (Nat.le_trans (Nat.le_trans (Nat.le_trans e0.size e1.size) e2.size) e3.size))
  have G0' : Hid (SV w4 x0 n0 f0) := (((G0.out.below e1).below e2).below e3).below e4
  have G1' : Hid (SV w4 x1 n1 f1) := ((G1.out.below e2).below e3).below e4
  have G2' : Hid (SV w4 x2 n2 f2) := (G2.out.below e3).below e4
  have G3' : Hid (SV w4 x3 n3 f3) := G3.out.below e4
  clear g4 t4 e0 e1 e2 e3 e4 G0 G1 G2 G3 H0 H1 H2 H3 H4 s1 s2 s3 s4
  go_wp2_with fail
  refine pin_nil _ _ fun w6 e6 => ?_
  go_wp2_with fail
  refine isZero_any _ _ fun w7 e7 => ?_
  go_wp2_with fail
  have a1 := E4.out.trans (e6.mono E4.out.size)
  have a2 := a1.alloc a1.size (.cells #[.string ⟨#[]⟩, .bool false, .slice none 0 0, .bool false, .pointer none] 32)
  exact hQ.out _ (a2.trans (e7.mono a2.size))


set_option maxRecDepth 100000 in
set_option maxHeartbeats 2000000 in
theorem walkA_labels (a0 a1 a2 a3 a4 : Option Addr) (n0 n1 n2 n3 n4 c0 c1 c2 c3 c4 : Nat) (f0 f1 f2 f3 : Nat → ByteArray) (A : Nat → Option Addr) (L C : Nat → Nat) (F : Nat → Nat → ByteArray) (w : World)
    (h0 : SV w a0 n0 f0) (h1 : SV w a1 n1 f1) (h2 : SV w a2 n2 f2) (h3 : SV w a3 n3 f3) (h4 : SSV w a4 n4 A L C F) (hn : 0 < n0)
    (Q : Ending → World → Prop) (hQ : Hid (∀ w', Below w.heap.size w w' → Q (.returned (.bool true)) w')) :
    Calls Try.prog 3 #[.bool false, .slice a0 n0 c0, .slice a1 n1 c1, .slice a2 n2 c2, .slice a3 n3 c3, .slice a4 n4 c4] w Q := by
  have H0 : Hid (SV w a0 n0 f0) := h0
  have H1 : Hid (SV w a1 n1 f1) := h1
  have H2 : Hid (SV w a2 n2 f2) := h2
  have H3 : Hid (SV w a3 n3 f3) := h3
  have H4 : Hid (SSV w a4 n4 A L C F) := h4
  clear h0 h1 h2 h3 h4
  go_enter Try.func3, Try.ntmps3
  go_wp2_with fail
  refine bytes5_any _ _ _ _ _ _ _ _ _ _ _ _ _ _ _ _ f0 f1 f2 f3 A L C F _ H0.out H1.out H2.out H3.out H4.out _ fun b => ?_
  cases b
  · go_wp2_with fail
    exact hQ.out _ (Below.refl _ _)
  go_wp2_with fail
  refine fits_any _ _ _ _ _ _ _ _ _ _ _ _ _ _ _ f0 f1 f2 f3 A L C F _ _ _ H0.out H1.out H2.out H3.out H4.out (Nat.zero_le _) (Nat.zero_le _) _ fun b hb => ?_
  cases b
  · go_wp2_with fail
    exact hQ.out _ (Below.refl _ _)
  obtain ⟨b0, b1, b2, b3, b4, bL⟩ := hb rfl
  have BL : Hid (∀ r, r < n4 → L r ≤ 1048576) := bL
  clear hb bL
  go_wp2_with fail
  refine clone_any _ _ _ f0 _ H0.out b0 _ fun x0 w0 s0 g0 _ e0 => ?_
  have G0 : Hid (SV w0 x0 n0 f0) := g0
  clear g0
  go_wp2_with fail
  refine clone_any _ _ _ f1 _ (H1.out.below e0) b1 _ fun x1 w1 s1 g1 _ e1 => ?_
  have G1 : Hid (SV w1 x1 n1 f1) := g1
  clear g1
  go_wp2_with fail
  refine clone_any _ _ _ f2 _ ((H2.out.below e0).below e1) b2 _ fun x2 w2 s2 g2 _ e2 => ?_
  have G2 : Hid (SV w2 x2 n2 f2) := g2
  clear g2
  go_wp2_with fail
  refine clone_any _ _ _ f3 _ (((H3.out.below e0).below e1).below e2) b3 _ fun x3 w3 s3 g3 _ e3 => ?_
  have G3 : Hid (SV w3 x3 n3 f3) := g3
  clear g3
  go_wp2_with fail
  refine clone2_any _ _ _ A L C F _ ((((H4.out.below e0).below e1).below e2).below e3) b4 BL.out _ fun x4 A4 w4 s4 t4 g4 e4 => ?_
  have G4 : Hid (SSV w4 x4 n4 A4 L L F) := g4
  have E4 : Hid (Below w.heap.size w w4) := (((e0.trans (e1.mono e0.size)).trans (e2.mono (Nat.le_trans e0.size e1.size))).trans (e3.mono (Nat.le_trans (Nat.le_trans e0.size e1.size) e2.size))).trans (e4.mono (Nat.le_trans (Nat.le_trans (Nat.le_trans e0.size e1.size) e2.size) e3.size))
  have G0' : Hid (SV w4 x0 n0 f0) := (((G0.out.below e1).below e2).below e3).below e4
  have G1' : Hid (SV w4 x1 n1 f1) := ((G1.out.below e2).below e3).below e4
  have G2' : Hid (SV w4 x2 n2 f2) := (G2.out.below e3).below e4
  have G3' : Hid (SV w4 x3 n3 f3) := G3.out.below e4
  clear g4 t4 e0 e1 e2 e3 e4 G0 G1 G2 G3 H0 H1 H2 H3 H4 s1 s2 s3 s4
  go_wp2_with fail
  refine build_any _ _ _ _ _ _ _ _ _ _ _ _ _ _ _ f0 f1 f2 f3 A4 L L F _ G0'.out G1'.out G2'.out G3'.out G4.out b0 b2 BL.out _ fun p r q V w5 hsel _ e5 => ?_
  have SEL : Hid (Sel w5 w4.heap.size p x0.isSome n0 (mpTo f0 (getS n1 f1) n0) x2.isSome n2 f2 (getS n3 f3) V (getL n4 L) F r q) := hsel
  clear hsel
  have hx0 : x0.isSome = true := G0'.out.1 hn
  obtain ⟨B, hB⟩ := Option.isSome_iff_exists.1 (show r.isSome = true from SEL.out.2.2.2.2.2.1.1.trans hx0)
  obtain ⟨_, D, hown, hmp, _⟩ := SEL.out.2.2.2.2.2.1.2 B hB
  have HOWN : Hid (OwnM w5 B n0 D) := hown
  have HMP : Hid (MP D (mpTo f0 (getS n1 f1) n0)) := hmp
  have hc : w5.cell? ⟨p, 0, none⟩ = some (.map (some B)) := by rw [← hB]; exact SEL.out.2.2.1
  have HT : Hid ((mpTo f0 (getS n1 f1) n0 (f0 0)).isSome = true) := mpTo_some.2 ⟨0, hn, rfl⟩
  clear hown hmp hB hx0
  go_wp2_with fail
  refine pin_labels p B n0 D _ (f0 0) _ (by exact SEL.out.2.1) (by exact hc) HOWN.out HMP.out HT.out _ fun l v g w6 hle hl hg hcg e6 => ?_
  clear hc
  have HLE : Hid (Least (mpTo f0 (getS n1 f1) n0) l) := hle
  have HV : Hid (mpTo f0 (getS n1 f1) n0 l = some v) := hl
  have HG : Hid (w6.cell? ⟨g, 0, none⟩ = some (.string v)) := hcg
  clear hle hl hcg
  go_wp2_with fail
  refine plain_any _ _ _ _ _ _ fun w7 e7 => ?_
  have ea : Below w6.heap.size w6 (w6.alloc (.cells #[.string l, .bool false, .slice (some ⟨g, 0, none⟩) 1 1, .bool false, .pointer none] 32)) := (Below.refl _ _).alloc (Nat.le_refl _) _
  have X : Hid (Box w7 w6.heap.size l (some ⟨g, 0, none⟩) 1 1) := (Box.made _ _ _ _ _).below e7
  have Y : Hid (w7.cell? ⟨g, 0, none⟩ = some (.string v)) := cell_below (cell_below HG.out ea) e7
  have S0 : Hid (SV w7 x0 n0 f0) := (((G0'.out.below e5).below e6).below ea).below e7
  have S1 : Hid (SV w7 x1 n1 f1) := (((G1'.out.below e5).below e6).below ea).below e7
  have E7 : Hid (Below w.heap.size w w7) := by
    have a1 := E4.out.trans (e5.mono E4.out.size)
    have a2 := a1.trans (e6.mono a1.size)
    have a3 := a2.trans (ea.mono a2.size)
    exact a3.trans (e7.mono a3.size)
  clear ea e5 e6 e7 G0' G1' G2' G3' G4 E4 SEL HOWN HMP HT HG
  obtain ⟨i0, i1, i2, i3, i4⟩ := X.out
  go_wp2_with fail
  go_loopw [16, 17, 18] (fun se la i wr => ∃ (j : Nat) (seen : Bool) (last : Nat), j ≤ n0 ∧ i = .int .i64 j ∧ se = .bool seen ∧ la = .int .i64 last ∧ Below w7.heap.size w7 wr ∧ (seen = false → ∀ i, i < j → f0 i ≠ l) ∧ (seen = true → last < j ∧ f0 last = l ∧ ∀ i, last < i → i < j → f0 i ≠ l)) (fun _ _ i _ => n0 - (intOf i).toNat)
  case atStart => exact ⟨0, false, 0, Nat.zero_le _, rfl, rfl, rfl, Below.refl _ _, fun _ i hi => by omega, fun h => by cases h⟩
  case round =>
    obtain ⟨j, seen, last, hj, rfl, rfl, rfl, hb, hno, hyes⟩ := hrel
    have HNO : Hid (seen = false → ∀ i, i < j → f0 i ≠ l) := hno
    have HYES : Hid (seen = true → last < j ∧ f0 last = l ∧ ∀ i, last < i → i < j → f0 i ≠ l) := hyes
    clear hno hyes
    have Xr : Hid (Box wr w6.heap.size l (some ⟨g, 0, none⟩) 1 1) := X.out.below hb
    clear i0 i1 i2 i3 i4
    obtain ⟨i0, i1, i2, i3, i4⟩ := Xr.out
    by_cases hlt : j < n0
    · have hi := fun w => idx22 n0 S0.out.1 w j hlt
      have hck := (S0.out.below hb).2.1 j hlt
      have hless : Op.bytesLess (f0 j).toList l.toList = false := HLE.out.2 (f0 j) (mpTo_some.2 ⟨j, hlt, rfl⟩)
      cases he : ((f0 j).toList == l.toList) with
      | false =>
        have hne : f0 j ≠ l := fun e => by rw [e] at he; simp at he
        have HNE : Hid (f0 j ≠ l) := hne
        clear hne
        go_wp2_with fail
        go_quiet (fail)
        go_wp2_with fail
        go_quiet (fail)
        go_wp2_with fail
        go_roundw
        case rel => exact ⟨j + 1, seen, last, by omega, by go_num, rfl, rfl, below_drewN hb _, fun h i hi => by
            by_cases e : i = j
            · subst e; exact HNE.out
            · exact HNO.out h i (by omega), fun h => ⟨by have := (HYES.out h).1; omega, (HYES.out h).2.1, fun i h1 h2 => by
            by_cases e : i = j
            · subst e; exact HNE.out
            · exact (HYES.out h).2.2 i h1 (by omega)⟩⟩
        case measure => simp [intOf]; omega
      | true =>
        have HEQ : Hid (f0 j = l) := bytes_toList_inj (by simpa using he)
        go_wp2_with fail
        go_quiet (fail)
        go_wp2_with fail
        go_quiet (fail)
        go_wp2_with fail
        go_roundw
        case rel => exact ⟨j + 1, true, j, by omega, by go_num, rfl, rfl, below_drewN hb _, (fun h => by cases h), fun _ => ⟨by omega, HEQ.out, fun i h1 h2 => by omega⟩⟩
        case measure => simp [intOf]; omega
    · obtain rfl : j = n0 := by omega
      obtain ⟨i, hi, hil⟩ := mpTo_some.1 HLE.out.1
      have hseen : seen = true := by
        cases seen with
        | true => rfl
        | false => exact absurd hil (HNO.out rfl i hi)
      subst hseen
      obtain ⟨hl1, hl2, hl3⟩ := HYES.out rfl
      have HVV : Hid (v = getS n1 f1 last) := by
        have h := mpTo_last (g := getS n1 f1) last hl1 hl2 hl3
        rw [HV.out] at h
        injection h
      have hy : wr.cell? ⟨g, 0, none⟩ = some (.string v) := cell_below Y.out hb
      have HBR : Hid (Below w7.heap.size w7 wr) := hb
      clear hl1 hl2 hl3 hil hi hb HYES HNO
      have hvv := HVV.out
      clear HVV
      subst hvv
      go_wp2_with fail
      go_region_held3 (fun w' => w'.cell? ⟨w6.heap.size, 2, none⟩ = some (.slice (some ⟨g, 0, none⟩) 1 1) ∧ w'.cell? ⟨g, 0, none⟩ = some (.string (getS n1 f1 last))) (go_keep)
        ((go_at_call 13; refine pinAt_any _ _ _ last f1 _ (by exact (S1.out.below HBR.out.drew)) _ (Hid.intro ?_)))
      all_goals go_wp2_with fail
      all_goals exact hQ.out _ ((E7.out.trans (HBR.out.mono E7.out.size)).drew)


set_option maxRecDepth 100000 in
set_option maxHeartbeats 2000000 in
theorem walkA_reqs (a0 a1 a2 a3 a4 : Option Addr) (n1 n2 n3 n4 c0 c1 c2 c3 c4 : Nat) (f0 f1 f2 f3 : Nat → ByteArray) (A : Nat → Option Addr) (L C : Nat → Nat) (F : Nat → Nat → ByteArray) (w : World)
    (h0 : SV w a0 0 f0) (h1 : SV w a1 n1 f1) (h2 : SV w a2 n2 f2) (h3 : SV w a3 n3 f3) (h4 : SSV w a4 n4 A L C F) 
    (Q : Ending → World → Prop) (hQ : Hid (∀ w', Below w.heap.size w w' → Q (.returned (.bool true)) w')) :
    Calls Try.prog 3 #[.bool false, .slice a0 0 c0, .slice a1 n1 c1, .slice a2 n2 c2, .slice a3 n3 c3, .slice a4 n4 c4] w Q := by
  have H0 : Hid (SV w a0 0 f0) := h0
  have H1 : Hid (SV w a1 n1 f1) := h1
  have H2 : Hid (SV w a2 n2 f2) := h2
  have H3 : Hid (SV w a3 n3 f3) := h3
  have H4 : Hid (SSV w a4 n4 A L C F) := h4
  clear h0 h1 h2 h3 h4
  go_enter Try.func3, Try.ntmps3
  go_wp2_with fail
  refine bytes5_any _ _ _ _ _ _ _ _ _ _ _ _ _ _ _ _ f0 f1 f2 f3 A L C F _ H0.out H1.out H2.out H3.out H4.out _ fun b => ?_
  cases b
  · go_wp2_with fail
    exact hQ.out _ (Below.refl _ _)
  go_wp2_with fail
  refine fits_any _ _ _ _ _ _ _ _ _ _ _ _ _ _ _ f0 f1 f2 f3 A L C F _ _ _ H0.out H1.out H2.out H3.out H4.out (Nat.zero_le _) (Nat.zero_le _) _ fun b hb => ?_
  cases b
  · go_wp2_with fail
    exact hQ.out _ (Below.refl _ _)
  obtain ⟨b0, b1, b2, b3, b4, bL⟩ := hb rfl
  have BL : Hid (∀ r, r < n4 → L r ≤ 1048576) := bL
  clear hb bL
  go_wp2_with fail
  refine clone_any _ _ _ f0 _ H0.out b0 _ fun x0 w0 s0 g0 _ e0 => ?_
  have G0 : Hid (SV w0 x0 0 f0) := g0
  clear g0
  go_wp2_with fail
  refine clone_any _ _ _ f1 _ (H1.out.below e0) b1 _ fun x1 w1 s1 g1 _ e1 => ?_
  have G1 : Hid (SV w1 x1 n1 f1) := g1
  clear g1
  go_wp2_with fail
  refine clone_any _ _ _ f2 _ ((H2.out.below e0).below e1) b2 _ fun x2 w2 s2 g2 _ e2 => ?_
  have G2 : Hid (SV w2 x2 n2 f2) := g2
  clear g2
  go_wp2_with fail
  refine clone_any _ _ _ f3 _ (((H3.out.below e0).below e1).below e2) b3 _ fun x3 w3 s3 g3 _ e3 => ?_
  have G3 : Hid (SV w3 x3 n3 f3) := g3
  clear g3
  go_wp2_with fail
  refine clone2_any _ _ _ A L C F _ ((((H4.out.below e0).below e1).below e2).below e3) b4 BL.out _ fun x4 A4 w4 s4 t4 g4 e4 => ?_
  have G4 : Hid (SSV w4 x4 n4 A4 L L F) := g4
  have E4 : Hid (Below w.heap.size w w4) := (((e0.trans (e1.mono e0.size)).trans (e2.mono (Nat.le_trans e0.size e1.size))).trans (e3.mono (Nat.le_trans (Nat.le_trans e0.size e1.size) e2.size))).trans (e4.mono (Nat.le_trans (Nat.le_trans (Nat.le_trans e0.size e1.size) e2.size) e3.size))
  have G0' : Hid (SV w4 x0 0 f0) := (((G0.out.below e1).below e2).below e3).below e4
  have G1' : Hid (SV w4 x1 n1 f1) := ((G1.out.below e2).below e3).below e4
  have G2' : Hid (SV w4 x2 n2 f2) := (G2.out.below e3).below e4
  have G3' : Hid (SV w4 x3 n3 f3) := G3.out.below e4
  clear g4 t4 e0 e1 e2 e3 e4 G0 G1 G2 G3 H0 H1 H2 H3 H4 s1 s2 s3 s4
  go_wp2_with fail
  refine build_any _ _ _ _ _ _ _ _ _ _ _ _ _ _ _ f0 f1 f2 f3 A4 L L F _ G0'.out G1'.out G2'.out G3'.out G4.out b0 b2 BL.out _ fun p r q V w5 hsel hV e5 => ?_
  have SEL : Hid (Sel w5 w4.heap.size p x0.isSome 0 (mpTo f0 (getS n1 f1) 0) x2.isSome n2 f2 (getS n3 f3) V (getL n4 L) F r q) := hsel
  have HVV : Hid (∀ i, i < n2 → (V i).isSome = (getA n4 A4 i).isSome) := hV
  clear hsel hV
  go_wp2_with fail
  refine pin_reqs p w4.heap.size n2 r q x2.isSome f2 (getS n3 f3) V (getL n4 L) F w5 SEL.out.2.1 SEL.out.2.2.1 SEL.out.2.2.2.1 (fun o ty => sel_len SEL.out o ty) SEL.out.2.2.2.2.2.2 b2 _ (fun i w6 hi hin hno e6 => ?_) (fun w6 hno e6 => ?_)
  · have HIN : Hid (isIn (getS n3 f3 i) = true) := hin
    have HNO : Hid (∀ j, j < i → isIn (getS n3 f3 j) = false) := hno
    have ea : Below w6.heap.size w6 (w6.alloc (.cells #[.string (f2 i), .bool false, .slice (V i) (getL n4 L i) (getL n4 L i), .bool false, .pointer none] 32)) := (Below.refl _ _).alloc (Nat.le_refl _) _
    have X : Hid (Box (w6.alloc (.cells #[.string (f2 i), .bool false, .slice (V i) (getL n4 L i) (getL n4 L i), .bool false, .pointer none] 32)) w6.heap.size (f2 i) (V i) (getL n4 L i) (getL n4 L i)) := Box.made _ _ _ _ _
    have S2 : Hid (SV (w6.alloc (.cells #[.string (f2 i), .bool false, .slice (V i) (getL n4 L i) (getL n4 L i), .bool false, .pointer none] 32)) x2 n2 f2) := ((G2'.out.below e5).below e6).below ea
    have S3 : Hid (SV (w6.alloc (.cells #[.string (f2 i), .bool false, .slice (V i) (getL n4 L i) (getL n4 L i), .bool false, .pointer none] 32)) x3 n3 f3) := ((G3'.out.below e5).below e6).below ea
    have S4 : Hid (SSV (w6.alloc (.cells #[.string (f2 i), .bool false, .slice (V i) (getL n4 L i) (getL n4 L i), .bool false, .pointer none] 32)) x4 n4 A4 L L F) := ((G4.out.below e5).below e6).below ea
    have SVI : Hid (SV (w6.alloc (.cells #[.string (f2 i), .bool false, .slice (V i) (getL n4 L i) (getL n4 L i), .bool false, .pointer none] 32)) (V i) (getL n4 L i) (F i)) := ((SEL.out.2.2.2.2.2.2.sv hi).below e6).below ea
    have E6 : Hid (Below w.heap.size w (w6.alloc (.cells #[.string (f2 i), .bool false, .slice (V i) (getL n4 L i) (getL n4 L i), .bool false, .pointer none] 32))) := by
      have a1 := E4.out.trans (e5.mono E4.out.size)
      have a2 := a1.trans (e6.mono a1.size)
      exact a2.trans (ea.mono a2.size)
    have HVI : Hid ((V i).isSome = (getA n4 A4 i).isSome) := HVV.out i hi
    clear hin hno ea e5 e6 G0' G1' G2' G3' G4 E4 SEL HVV
    obtain ⟨i0, i1, i2, i3, i4⟩ := X.out
    go_wp2_with fail
    generalize hW : w6.alloc (.cells #[.string (f2 i), .bool false, .slice (V i) (getL n4 L i) (getL n4 L i), .bool false, .pointer none] 32) = W at *
    clear hW
    go_loop [19] (fun c => ∃ j : Nat, j ≤ i ∧ c = .int .i64 j) (fun c => n2 - (intOf c).toNat)
    case atStart => exact ⟨0, Nat.zero_le _, rfl⟩
    case round =>
      obtain ⟨j, hj, rfl⟩ := hrel
      by_cases hlt : j < i
      · have hno : ((getS n3 f3 j).toList == [73, 110]) = false := HNO.out j hlt
        go_wp2_with fail
        refine pinAt_any _ _ _ j f3 _ S3.out _ (Hid.intro ?_)
        go_wp2_with fail
        go_round
        case rel => exact ⟨j + 1, by omega, by go_num⟩
        case measure => simp [intOf]; omega
      · obtain rfl : j = i := by omega
        have hyes : ((getS n3 f3 j).toList == [73, 110]) = true := HIN.out
        have hix := fun w => idx22 n2 S2.out.1 w j hi
        have hck := S2.out.2.1 j hi
        go_wp2_with fail
        refine pinAt_any _ _ _ j f3 _ S3.out _ (Hid.intro ?_)
        go_wp2_with fail
        go_region_held3 (fun w' => w'.cell? ⟨w6.heap.size, 0, none⟩ = some (.string (f2 j)) ∧ w'.cell? ⟨w6.heap.size, 1, none⟩ = some (.bool false) ∧ w'.cell? ⟨w6.heap.size, 2, none⟩ = some (.slice (V j) (getL n4 L j) (getL n4 L j)) ∧ w'.cell? ⟨w6.heap.size, 3, none⟩ = some (.bool false) ∧ w'.cell? ⟨w6.heap.size, 4, none⟩ = some (.pointer none) ∧ w'.cell? (atk x2 j) = some (.string (f2 j))) (go_keep)
          (first
            | (go_at_call 12; refine plain_any _ _ _ _ _ _ (fun w8 e8 => ?_);
               have X8 := X.out.drew.below e8;
               obtain ⟨k0, k1, k2, k3, k4⟩ := X8;
               have T2 := (S2.out.drew.below e8).2.1 j hi;
               have T4 : Hid (SSV w8 x4 n4 A4 L L F) := S4.out.drew.below e8;
               have TVI : Hid (SV w8 (V j) (getL n4 L j) (F j)) := SVI.out.drew.below e8;
               have E8 : Hid (Below w.heap.size w w8) := E6.out.drew.trans (e8.mono E6.out.size);
               clear e8)
            | (go_at_call 15; refine pinAtSlice_any _ _ _ j A4 L L F _ (by exact T4.out) _ (Hid.intro ?_))
            | (go_at_call 14; refine same_any _ _ _ _ _ (F j) _ (by exact TVI.out) (by exact (T4.out.get j)) (by exact HVI.out) _ (fun w9 e9 => ?_);
               have Y0 := cell_below k0 e9;
               have Y1 := cell_below k1 e9;
               have Y2 := cell_below k2 e9;
               have Y3 := cell_below k3 e9;
               have Y4 := cell_below k4 e9;
               have Y5 := cell_below T2 e9;
               have E9 : Hid (Below w.heap.size w w9) := E8.out.trans (e9.mono E8.out.size);
               clear e9))
        all_goals go_wp2_with fail
        all_goals exact hQ.out _ E9.out
  · have HNO : Hid (∀ j, j < n2 → isIn (getS n3 f3 j) = false) := hno
    have ea : Below w6.heap.size w6 (w6.alloc (.cells #[.string ⟨#[]⟩, .bool false, .slice none 0 0, .bool false, .pointer none] 32)) := (Below.refl _ _).alloc (Nat.le_refl _) _
    have X : Hid (Box (w6.alloc (.cells #[.string ⟨#[]⟩, .bool false, .slice none 0 0, .bool false, .pointer none] 32)) w6.heap.size ⟨#[]⟩ none 0 0) := Box.made _ _ _ _ _
    have S3 : Hid (SV (w6.alloc (.cells #[.string ⟨#[]⟩, .bool false, .slice none 0 0, .bool false, .pointer none] 32)) x3 n3 f3) := ((G3'.out.below e5).below e6).below ea
    have E6 : Hid (Below w.heap.size w (w6.alloc (.cells #[.string ⟨#[]⟩, .bool false, .slice none 0 0, .bool false, .pointer none] 32))) := by
      have a1 := E4.out.trans (e5.mono E4.out.size)
      have a2 := a1.trans (e6.mono a1.size)
      exact a2.trans (ea.mono a2.size)
    clear hno ea e5 e6 G0' G1' G2' G3' G4 E4 SEL HVV
    obtain ⟨i0, i1, i2, i3, i4⟩ := X.out
    go_wp2_with fail
    generalize hW : w6.alloc (.cells #[.string ⟨#[]⟩, .bool false, .slice none 0 0, .bool false, .pointer none] 32) = W at *
    clear hW
    go_loop [19] (fun c => ∃ j : Nat, j ≤ n2 ∧ c = .int .i64 j) (fun c => n2 - (intOf c).toNat)
    case atStart => exact ⟨0, Nat.zero_le _, rfl⟩
    case round =>
      obtain ⟨j, hj, rfl⟩ := hrel
      by_cases hlt : j < n2
      · have hno : ((getS n3 f3 j).toList == [73, 110]) = false := HNO.out j hlt
        go_wp2_with fail
        refine pinAt_any _ _ _ j f3 _ S3.out _ (Hid.intro ?_)
        go_wp2_with fail
        go_round
        case rel => exact ⟨j + 1, by omega, by go_num⟩
        case measure => simp [intOf]; omega
      · obtain rfl : j = n2 := by omega
        go_wp2_with fail
        refine isZero_any _ _ fun w7 e7 => ?_
        go_wp2_with fail
        exact hQ.out _ (E6.out.trans (e7.mono E6.out.size))
end Go.Proofs.Qxb6629100a
