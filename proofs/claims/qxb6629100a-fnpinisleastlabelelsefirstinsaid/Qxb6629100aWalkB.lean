/-
  The walk of FnPinAfterAddingALabel.
-/
import Derived.Test.Qxb6629100aPinReq
import Derived.Test.Qxb6629100aBytesB
namespace Go.Proofs.Qxb6629100a
open Go.ChangeShapes Go.WideShapes Go.ChangeAt Go.RowKit

/-- a Pin in block b, plain -/
def Box (W : World) (b : Nat) (l : ByteArray) (va : Option Addr) (vn vc : Nat) : Prop :=
  W.cell? ⟨b, 0, none⟩ = some (.string l) ∧ W.cell? ⟨b, 1, none⟩ = some (.bool false) ∧ W.cell? ⟨b, 2, none⟩ = some (.slice va vn vc) ∧ W.cell? ⟨b, 3, none⟩ = some (.bool false) ∧ W.cell? ⟨b, 4, none⟩ = some (.pointer none)

theorem Box.made (W : World) (l : ByteArray) (va : Option Addr) (vn vc : Nat) : Box (W.alloc (.cells #[.string l, .bool false, .slice va vn vc, .bool false, .pointer none] 32)) W.heap.size l va vn vc := by
  refine ⟨?_, ?_, ?_, ?_, ?_⟩ <;> (rw [World.cell?_alloc_new]; rfl)

theorem Box.lt {W : World} {b : Nat} {l : ByteArray} {va : Option Addr} {vn vc : Nat} (h : Box W b l va vn vc) : b < W.heap.size := cell_some_lt h.1

theorem Box.below {W W' : World} {b : Nat} {l : ByteArray} {va : Option Addr} {vn vc : Nat} (h : Box W b l va vn vc) (hb : Below W.heap.size W W') : Box W' b l va vn vc := by
  have hl := h.lt
  obtain ⟨h0, h1, h2, h3, h4⟩ := h
  exact ⟨by rw [hb.cell (p := ⟨b, 0, none⟩) hl]; exact h0, by rw [hb.cell (p := ⟨b, 1, none⟩) hl]; exact h1, by rw [hb.cell (p := ⟨b, 2, none⟩) hl]; exact h2, by rw [hb.cell (p := ⟨b, 3, none⟩) hl]; exact h3, by rw [hb.cell (p := ⟨b, 4, none⟩) hl]; exact h4⟩

theorem cell_below {W W' : World} {p : Addr} {v : Value} (h : W.cell? p = some v) (hb : Below W.heap.size W W') : W'.cell? p = some v := by
  rw [hb.cell (cell_some_lt h)]; exact h

theorem cell_grown {W W' : World} {p : Addr} {v : Value} {B : Nat} (h : W.cell? p = some v) (hg : W.grownBy W' (some B)) (hne : p.block ≠ B) : W'.cell? p = some v := by
  have e : W'.cell? p = W.cell? p := World.cell?_of_block (hg.block p.block (cell_some_lt h) (fun e => hne (by injection e)))
  rw [e]; exact h

/-- a cell does not lie in a map's block -/
theorem cell_ne_map {W : World} {p : Addr} {v : Value} {B n : Nat} {D : DataW Unit} (h : W.cell? p = some v) (ho : OwnM W B n D) : p.block ≠ B := fun e => by
  obtain ⟨es, clock, hbk, _⟩ := ho
  unfold World.cell? at h
  rw [e, hbk] at h
  cases h

theorem Box.grown {W W' : World} {b : Nat} {l : ByteArray} {va : Option Addr} {vn vc : Nat} {B n : Nat} {D : DataW Unit} (h : Box W b l va vn vc) (ho : OwnM W B n D) (hg : W.grownBy W' (some B)) : Box W' b l va vn vc := by
  have hne : b ≠ B := cell_ne_map h.1 ho
  obtain ⟨h0, h1, h2, h3, h4⟩ := h
  exact ⟨cell_grown h0 hg hne, cell_grown h1 hg hne, cell_grown h2 hg hne, cell_grown h3 hg hne, cell_grown h4 hg hne⟩

set_option maxRecDepth 100000 in
set_option maxHeartbeats 2000000 in
theorem walkB_some (a0 a1 a2 a3 a4 : Option Addr) (n0 n1 n2 n3 n4 c0 c1 c2 c3 c4 : Nat) (f0 f1 f2 f3 : Nat → ByteArray) (A : Nat → Option Addr) (L C : Nat → Nat) (F : Nat → Nat → ByteArray) (k v : ByteArray) (w : World)
    (h0 : SV w a0 n0 f0) (h1 : SV w a1 n1 f1) (h2 : SV w a2 n2 f2) (h3 : SV w a3 n3 f3) (h4 : SSV w a4 n4 A L C F) (hk : k.size ≤ maxLen) (hv : v.size ≤ maxLen) (hn : 0 < n0)
    (Q : Ending → World → Prop) (hQ : Hid (∀ w', Below w.heap.size w w' → Q (.returned (.bool true)) w')) :
    Calls Try.prog 4 #[.slice a0 n0 c0, .slice a1 n1 c1, .slice a2 n2 c2, .slice a3 n3 c3, .slice a4 n4 c4, .string k, .string v] w Q := by
  have H0 : Hid (SV w a0 n0 f0) := h0
  have H1 : Hid (SV w a1 n1 f1) := h1
  have H2 : Hid (SV w a2 n2 f2) := h2
  have H3 : Hid (SV w a3 n3 f3) := h3
  have H4 : Hid (SSV w a4 n4 A L C F) := h4
  have heq := fun w r => run_eql_map_nil (P := Try.prog) w 39 9 9 r Try.underlying39
  clear h0 h1 h2 h3 h4
  go_enter Try.func4, Try.ntmps4
  go_wp2_with fail
  refine bytes16_any _ _ _ _ _ _ _ _ _ _ _ _ _ _ _ f0 f1 f2 f3 A L C F _ _ _ H0.out H1.out H2.out H3.out H4.out hk hv _ fun b => ?_
  cases b
  · go_wp2_with fail
    exact hQ.out _ (Below.refl _ _)
  go_wp2_with fail
  refine fits_any _ _ _ _ _ _ _ _ _ _ _ _ _ _ _ f0 f1 f2 f3 A L C F _ _ _ H0.out H1.out H2.out H3.out H4.out hk hv _ fun b hb => ?_
  cases b
  · go_wp2_with fail
    exact hQ.out _ (Below.refl _ _)
  obtain ⟨b0, b1, b2, b3, b4, bL⟩ := hb rfl
  have BL : Hid (∀ r, r < n4 → L r ≤ 1048576) := bL
  clear hb bL
  go_wp2_with fail
  refine clone_any _ _ _ f0 _ H0.out b0 _ fun x0 w0 s0 g0 _ e0 => ?_
  have G0 : Hid (SV w0 x0 n0 f0) := g0
  clear g0
  go_wp2_with fail
  refine clone_any _ _ _ f1 _ (H1.out.below e0) b1 _ fun x1 w1 s1 g1 _ e1 => ?_
  have G1 : Hid (SV w1 x1 n1 f1) := g1
  clear g1
  go_wp2_with fail
  refine clone_any _ _ _ f2 _ ((H2.out.below e0).below e1) b2 _ fun x2 w2 s2 g2 _ e2 => ?_
  have G2 : Hid (SV w2 x2 n2 f2) := g2
  clear g2
  go_wp2_with fail
  refine clone_any _ _ _ f3 _ (((H3.out.below e0).below e1).below e2) b3 _ fun x3 w3 s3 g3 _ e3 => ?_
  have G3 : Hid (SV w3 x3 n3 f3) := g3
  clear g3
  go_wp2_with fail
  refine clone2_any _ _ _ A L C F _ ((((H4.out.below e0).below e1).below e2).below e3) b4 BL.out _ fun x4 A4 w4 s4 t4 g4 e4 => ?_
  have G4 : Hid (SSV w4 x4 n4 A4 L L F) := g4
  have E4 : Hid (Below w.heap.size w w4) := (((e0.trans (e1.mono e0.size)).trans (e2.mono (Nat.le_trans e0.size e1.size))).trans (e3.mono (Nat.le_trans (Nat.le_trans e0.size e1.size) e2.size))).trans (e4.mono (Nat.le_trans (Nat.le_trans (Nat.le_trans e0.size e1.size) e2.size) e3.size))
  have G0' : Hid (SV w4 x0 n0 f0) := (((G0.out.below e1).below e2).below e3).below e4
  have G1' : Hid (SV w4 x1 n1 f1) := ((G1.out.below e2).below e3).below e4
  have G2' : Hid (SV w4 x2 n2 f2) := (G2.out.below e3).below e4
  have G3' : Hid (SV w4 x3 n3 f3) := G3.out.below e4
  clear g4 t4 e0 e1 e2 e3 e4 G0 G1 G2 G3 H0 H1 H2 H3 H4 s1 s2 s3 s4
  go_wp2_with fail
  refine build_any _ _ _ _ _ _ _ _ _ _ _ _ _ _ _ f0 f1 f2 f3 A4 L L F _ G0'.out G1'.out G2'.out G3'.out G4.out b0 b2 BL.out _ fun p r q V w5 hsel _ e5 => ?_
  have SEL : Hid (Sel w5 w4.heap.size p x0.isSome n0 (mpTo f0 (getS n1 f1) n0) x2.isSome n2 f2 (getS n3 f3) V (getL n4 L) F r q) := hsel
  clear hsel
  have hx0 : x0.isSome = true := G0'.out.1 hn
  obtain ⟨B, hB⟩ := Option.isSome_iff_exists.1 (show r.isSome = true from SEL.out.2.2.2.2.2.1.1.trans hx0)
  obtain ⟨_, D, hown, hmp, _⟩ := SEL.out.2.2.2.2.2.1.2 B hB
  have HOWN : Hid (OwnM w5 B n0 D) := hown
  have HMP : Hid (MP D (mpTo f0 (getS n1 f1) n0)) := hmp
  have hc : w5.cell? ⟨p, 0, none⟩ = some (.map (some B)) := by rw [← hB]; exact SEL.out.2.2.1
  have ht0 : (mpTo f0 (getS n1 f1) n0 (f0 0)).isSome = true := mpTo_some.2 ⟨0, hn, rfl⟩
  have HT : Hid ((mpTo f0 (getS n1 f1) n0 (f0 0)).isSome = true) := ht0
  clear hown hmp ht0 hB hx0
  go_wp2_with fail
  refine pin_labels p B n0 D _ (f0 0) _ (by exact SEL.out.2.1) (by exact hc) HOWN.out HMP.out HT.out _ fun l1 v1 g1 w6 hle hl1 hg1 hcg e6 => ?_
  clear hc
  have HLE1 : Hid (Least (mpTo f0 (getS n1 f1) n0) l1) := hle
  have HV1 : Hid (mpTo f0 (getS n1 f1) n0 l1 = some v1) := hl1
  have HG1 : Hid (w6.cell? ⟨g1, 0, none⟩ = some (.string v1)) := hcg
  have e7 : Below w6.heap.size w6 (w6.alloc (.cells #[.string l1, .bool false, .slice (some ⟨g1, 0, none⟩) 1 1, .bool false, .pointer none] 32)) := (Below.refl _ _).alloc (Nat.le_refl _) _
  have BX1 : Hid (Box (w6.alloc (.cells #[.string l1, .bool false, .slice (some ⟨g1, 0, none⟩) 1 1, .bool false, .pointer none] 32)) w6.heap.size l1 (some ⟨g1, 0, none⟩) 1 1) := Box.made _ _ _ _ _
  clear hle hl1 hcg
  go_wp2_with fail
  refine build_any _ _ _ _ _ _ _ _ _ _ _ _ _ _ _ f0 f1 f2 f3 A4 L L F _ (by exact ((G0'.out.below e5).below e6).below e7) (by exact ((G1'.out.below e5).below e6).below e7) (by exact ((G2'.out.below e5).below e6).below e7) (by exact ((G3'.out.below e5).below e6).below e7) (by exact ((G4.out.below e5).below e6).below e7) b0 b2 BL.out _ fun p' r' q' V' w8 hsel' _ e8 => ?_
  have BX1' : Hid (Box w8 w6.heap.size l1 (some ⟨g1, 0, none⟩) 1 1) := BX1.out.below e8
  have HG1' : Hid (w8.cell? ⟨g1, 0, none⟩ = some (.string v1)) := by
    have h : w6.cell? ⟨g1, 0, none⟩ = some (.string v1) := HG1.out
    have hl := cell_some_lt h
    have h2 : (w6.alloc (.cells #[.string l1, .bool false, .slice (some ⟨g1, 0, none⟩) 1 1, .bool false, .pointer none] 32)).cell? ⟨g1, 0, none⟩ = some (.string v1) := by rw [World.cell?_alloc_lt _ _ _ hl]; exact h
    show w8.cell? ⟨g1, 0, none⟩ = _
    rw [e8.cell (cell_some_lt h2)]; exact h2
  have a3 : Below w.heap.size w (w6.alloc (.cells #[.string l1, .bool false, .slice (some ⟨g1, 0, none⟩) 1 1, .bool false, .pointer none] 32)) := by
    have a1 := E4.out.trans (e5.mono E4.out.size)
    have a2 := a1.trans (e6.mono a1.size)
    exact a2.trans (e7.mono a2.size)
  have hlow := a3.size
  have E8 : Hid (Below w.heap.size w w8) := a3.trans (e8.mono hlow)
  have SEL' : Hid (Sel w8 (w6.alloc (.cells #[.string l1, .bool false, .slice (some ⟨g1, 0, none⟩) 1 1, .bool false, .pointer none] 32)).heap.size p' x0.isSome n0 (mpTo f0 (getS n1 f1) n0) x2.isSome n2 f2 (getS n3 f3) V' (getL n4 L) F r' q') := hsel'
  clear hsel' a3 e5 e6 e7 e8 HOWN HMP SEL HG1 BX1
  have hx0 : x0.isSome = true := G0'.out.1 hn
  obtain ⟨B', hB'⟩ := Option.isSome_iff_exists.1 (show r'.isSome = true from SEL'.out.2.2.2.2.2.1.1.trans hx0)
  obtain ⟨hBlo, D', hown, hmp, _⟩ := SEL'.out.2.2.2.2.2.1.2 B' hB'
  have hc : w8.cell? ⟨p', 0, none⟩ = some (.map (some B')) := by rw [← hB']; exact SEL'.out.2.2.1
  obtain ⟨w9, hrun, hown9, hgrow9⟩ := hown.update law9 Try.underlying39 (by unfold maxLen; omega) (keyOf9 hk) (elem9 hv)
  have hc9 : w9.cell? ⟨p', 0, none⟩ = some (.map (some B')) := cell_grown hc hgrow9 (cell_ne_map hc hown)
  have E9 : Hid (Below w.heap.size w w9) := E8.out.grown hgrow9 E8.out.size (fun j hj => by cases hj; exact Nat.le_trans hlow hBlo)
  have hBX : Box w9 w6.heap.size l1 (some ⟨g1, 0, none⟩) 1 1 := BX1'.out.grown hown hgrow9
  have hg9 : w9.cell? ⟨g1, 0, none⟩ = some (.string v1) := cell_grown HG1'.out hgrow9 (cell_ne_map HG1'.out hown)
  have hp9 : p' < w9.heap.size := Nat.lt_of_lt_of_le SEL'.out.2.1 hgrow9.size
  have HOWN9 : Hid (OwnM w9 B' (n0 + 1) (D'.put (key k) (val v))) := hown9
  have HMP9 : Hid (MP (D'.put (key k) (val v)) (mpPut (mpTo f0 (getS n1 f1) n0) k v)) := hmp.put k v
  have BX9 : Hid (Box w9 w6.heap.size l1 (some ⟨g1, 0, none⟩) 1 1) := hBX
  have HG9 : Hid (w9.cell? ⟨g1, 0, none⟩ = some (.string v1)) := hg9
  clear hown hmp hown9 hgrow9 hBX hg9 hBlo hB' BX1' HG1' SEL' E8 hlow
  go_wp2_with fail
  refine pin_labels p' B' (n0 + 1) _ _ k _ (by exact hp9) (by exact hc9) HOWN9.out HMP9.out (mpPut_key k v) _ fun l2 v2 g2 w10 hle2 hl2 hg2 hcg2 e10 => ?_
  clear hc hc9 hrun HOWN9 HMP9
  have HLE2 : Hid (Least (mpPut (mpTo f0 (getS n1 f1) n0) k v) l2) := hle2
  have HV2 : Hid (mpPut (mpTo f0 (getS n1 f1) n0) k v l2 = some v2) := hl2
  have BX10 : Hid (Box w10 w6.heap.size l1 (some ⟨g1, 0, none⟩) 1 1) := BX9.out.below e10
  have HG10 : Hid (w10.cell? ⟨g1, 0, none⟩ = some (.string v1)) := cell_below HG9.out e10
  have E10 : Hid (Below w.heap.size w w10) := E9.out.trans (e10.mono E9.out.size)
  have HG2 : Hid (w10.cell? ⟨g2, 0, none⟩ = some (.string v2)) := hcg2
  clear hle2 hl2 BX9 HG9 e10 hcg2 E9
  go_wp2_with fail
  refine plain_any _ _ _ _ _ _ fun w11 e11 => ?_
  have ea : Below w10.heap.size w10 (w10.alloc (.cells #[.string l2, .bool false, .slice (some ⟨g2, 0, none⟩) 1 1, .bool false, .pointer none] 32)) := (Below.refl _ _).alloc (Nat.le_refl _) _
  have X2 : Hid (Box w11 w10.heap.size l2 (some ⟨g2, 0, none⟩) 1 1) := (Box.made _ _ _ _ _).below e11
  have X1 : Hid (Box w11 w6.heap.size l1 (some ⟨g1, 0, none⟩) 1 1) := (BX10.out.below ea).below e11
  have Y1 : Hid (w11.cell? ⟨g1, 0, none⟩ = some (.string v1)) := cell_below (cell_below HG10.out ea) e11
  have Y2 : Hid (w11.cell? ⟨g2, 0, none⟩ = some (.string v2)) := cell_below (cell_below HG2.out ea) e11
  have E11 : Hid (Below w.heap.size w w11) := by
    have a1 := E10.out.trans (ea.mono E10.out.size)
    exact a1.trans (e11.mono a1.size)
  clear ea e11 BX10 HG10 HG2 E10
  obtain ⟨i0, i1, i2, i3, i4⟩ := X1.out
  obtain ⟨j0, j1, j2, j3, j4⟩ := X2.out
  go_wp2_with fail
  refine plain_any _ _ _ _ _ _ fun w12 e12 => ?_
  have E12 : Hid (Below w.heap.size w w12) := E11.out.trans (e12.mono E11.out.size)
  have X2' : Hid (Box w12 w10.heap.size l2 (some ⟨g2, 0, none⟩) 1 1) := X2.out.below e12
  have X1' : Hid (Box w12 w6.heap.size l1 (some ⟨g1, 0, none⟩) 1 1) := X1.out.below e12
  have y1 : w12.cell? ⟨g1, 0, none⟩ = some (.string v1) := cell_below Y1.out e12
  have y2 : w12.cell? ⟨g2, 0, none⟩ = some (.string v2) := cell_below Y2.out e12
  clear i0 i1 i2 i3 i4 j0 j1 j2 j3 j4 e12 X1 X2 Y1 Y2
  obtain ⟨i0, i1, i2, i3, i4⟩ := X1'.out
  obtain ⟨j0, j1, j2, j3, j4⟩ := X2'.out
  cases hgt : (Op.bytesLess k.toList l1.toList || k.toList == l1.toList) with
  | false =>
    rw [Bool.or_eq_false_iff] at hgt
    obtain ⟨rfl, rfl⟩ := least_above HLE1.out HV1.out HLE2.out HV2.out hgt.1 (fun e => by rw [e] at hgt; simp at hgt)
    obtain ⟨hgt1, hgt2⟩ := hgt
    go_wp2_with fail
    go_quiet (fail)
    go_wp2_with fail
    exact hQ.out _ (below_drewN E12.out _)
  | true =>
    have hor : Op.bytesLess k.toList l1.toList = true ∨ k = l1 := by
      rw [Bool.or_eq_true] at hgt
      rcases hgt with h | h
      · exact Or.inl h
      · exact Or.inr (bytes_toList_inj (by simpa using h))
    obtain ⟨rfl, rfl⟩ := least_below (hold_of_le HLE1.out hor) HLE2.out HV2.out
    clear hor
    go_wp2_with fail
    exact hQ.out _ E12.out
/-- 'len' of the selector's map where there is no label -/
theorem sel_len {W : World} {lo p n2 : Nat} {nn0 nn2 : Bool} {mp : ByteArray → Option ByteArray} {f ops : Nat → ByteArray} {V : Nat → Option Addr} {Ln : Nat → Nat} {F : Nat → Nat → ByteArray} {r : Option Nat} {q : Option Addr}
    (h : Sel W lo p nn0 0 mp nn2 n2 f ops V Ln F r q) (o : Obj) (ty : TypeId) : (Builtin.len_ #[39] ty #[.map r]).run Try.prog (W.alloc o) = .ok (.int .i64 0) (W.alloc o) := by
  cases r with
  | none => exact Maps.len_nil Try.underlying39 ty
  | some B =>
    obtain ⟨_, D, hown, _, hz⟩ := h.2.2.2.2.2.1.2 B rfl
    have := (hown.alloc o).len Try.underlying39 ty
    rw [hz rfl] at this
    exact this

theorem pin_sel0 {lo p n2 : Nat} {nn0 nn2 : Bool} {mp : ByteArray → Option ByteArray} {f ops : Nat → ByteArray} {V : Nat → Option Addr} {Ln : Nat → Nat} {F : Nat → Nat → ByteArray} {r : Option Nat} {q : Option Addr} (w : World)
    (h : Sel w lo p nn0 0 mp nn2 n2 f ops V Ln F r q) (hn : n2 ≤ 1048576)
    (Q : Ending → World → Prop)
    (hQ : Hid (∀ (l : ByteArray) (va : Option Addr) (vn vc : Nat) (ok : Bool) (w' : World), Below w.heap.size w w' → Q (.returned (.tuple #[.agg #[.string l, .bool false, .slice va vn vc, .bool false, .pointer none], .bool ok])) w')) :
    Calls Try.prog 10 #[.pointer (some ⟨p, 0, none⟩)] w Q :=
  pin_reqs p lo n2 r q nn2 f ops V Ln F w h.2.1 h.2.2.1 h.2.2.2.1 (fun o ty => sel_len h o ty) h.2.2.2.2.2.2 hn Q
    (fun _ w' _ _ _ hb => hQ.out _ _ _ _ _ w' hb) (fun w' _ hb => hQ.out _ _ _ _ _ w' hb)

set_option maxRecDepth 100000 in
set_option maxHeartbeats 2000000 in
theorem walkB_zero (a0 a1 a2 a3 a4 : Option Addr) (n1 n2 n3 n4 c0 c1 c2 c3 c4 : Nat) (f0 f1 f2 f3 : Nat → ByteArray) (A : Nat → Option Addr) (L C : Nat → Nat) (F : Nat → Nat → ByteArray) (k v : ByteArray) (w : World)
    (h0 : SV w a0 0 f0) (h1 : SV w a1 n1 f1) (h2 : SV w a2 n2 f2) (h3 : SV w a3 n3 f3) (h4 : SSV w a4 n4 A L C F) (hk : k.size ≤ maxLen) (hv : v.size ≤ maxLen) 
    (Q : Ending → World → Prop) (hQ : Hid (∀ w', Below w.heap.size w w' → Q (.returned (.bool true)) w')) :
    Calls Try.prog 4 #[.slice a0 0 c0, .slice a1 n1 c1, .slice a2 n2 c2, .slice a3 n3 c3, .slice a4 n4 c4, .string k, .string v] w Q := by
  have H0 : Hid (SV w a0 0 f0) := h0
  have H1 : Hid (SV w a1 n1 f1) := h1
  have H2 : Hid (SV w a2 n2 f2) := h2
  have H3 : Hid (SV w a3 n3 f3) := h3
  have H4 : Hid (SSV w a4 n4 A L C F) := h4
  have heq := fun w r => run_eql_map_nil (P := Try.prog) w 39 9 9 r Try.underlying39
  clear h0 h1 h2 h3 h4
  go_enter Try.func4, Try.ntmps4
  go_wp2_with fail
  refine bytes16_any _ _ _ _ _ _ _ _ _ _ _ _ _ _ _ f0 f1 f2 f3 A L C F _ _ _ H0.out H1.out H2.out H3.out H4.out hk hv _ fun b => ?_
  cases b
  · go_wp2_with fail
    exact hQ.out _ (Below.refl _ _)
  go_wp2_with fail
  refine fits_any _ _ _ _ _ _ _ _ _ _ _ _ _ _ _ f0 f1 f2 f3 A L C F _ _ _ H0.out H1.out H2.out H3.out H4.out hk hv _ fun b hb => ?_
  cases b
  · go_wp2_with fail
    exact hQ.out _ (Below.refl _ _)
  obtain ⟨b0, b1, b2, b3, b4, bL⟩ := hb rfl
  have BL : Hid (∀ r, r < n4 → L r ≤ 1048576) := bL
  clear hb bL
  go_wp2_with fail
  refine clone_any _ _ _ f0 _ H0.out b0 _ fun x0 w0 s0 g0 _ e0 => ?_
  have G0 : Hid (SV w0 x0 0 f0) := g0
  clear g0
  go_wp2_with fail
  refine clone_any _ _ _ f1 _ (H1.out.below e0) b1 _ fun x1 w1 s1 g1 _ e1 => ?_
  have G1 : Hid (SV w1 x1 n1 f1) := g1
  clear g1
  go_wp2_with fail
  refine clone_any _ _ _ f2 _ ((H2.out.below e0).below e1) b2 _ fun x2 w2 s2 g2 _ e2 => ?_
  have G2 : Hid (SV w2 x2 n2 f2) := g2
  clear g2
  go_wp2_with fail
  refine clone_any _ _ _ f3 _ (((H3.out.below e0).below e1).below e2) b3 _ fun x3 w3 s3 g3 _ e3 => ?_
  have G3 : Hid (SV w3 x3 n3 f3) := g3
  clear g3
  go_wp2_with fail
  refine clone2_any _ _ _ A L C F _ ((((H4.out.below e0).below e1).below e2).below e3) b4 BL.out _ fun x4 A4 w4 s4 t4 g4 e4 => ?_
  have G4 : Hid (SSV w4 x4 n4 A4 L L F) := g4
  have E4 : Hid (Below w.heap.size w w4) := (((e0.trans (e1.mono e0.size)).trans (e2.mono (Nat.le_trans e0.size e1.size))).trans (e3.mono (Nat.le_trans (Nat.le_trans e0.size e1.size) e2.size))).trans (e4.mono (Nat.le_trans (Nat.le_trans (Nat.le_trans e0.size e1.size) e2.size) e3.size))
  have G0' : Hid (SV w4 x0 0 f0) := (((G0.out.below e1).below e2).below e3).below e4
  have G1' : Hid (SV w4 x1 n1 f1) := ((G1.out.below e2).below e3).below e4
  have G2' : Hid (SV w4 x2 n2 f2) := (G2.out.below e3).below e4
  have G3' : Hid (SV w4 x3 n3 f3) := G3.out.below e4
  clear g4 t4 e0 e1 e2 e3 e4 G0 G1 G2 G3 H0 H1 H2 H3 H4 s1 s2 s3 s4
  go_wp2_with fail
  refine build_any _ _ _ _ _ _ _ _ _ _ _ _ _ _ _ f0 f1 f2 f3 A4 L L F _ G0'.out G1'.out G2'.out G3'.out G4.out b0 b2 BL.out _ fun p r q V w5 hsel _ e5 => ?_
  have SEL : Hid (Sel w5 w4.heap.size p x0.isSome 0 (mpTo f0 (getS n1 f1) 0) x2.isSome n2 f2 (getS n3 f3) V (getL n4 L) F r q) := hsel
  clear hsel
  go_wp2_with fail
  refine pin_sel0 _ SEL.out b2 _ fun l1 va vn vc ok w6 e6 => ?_
  have e7 : Below w6.heap.size w6 (w6.alloc (.cells #[.string l1, .bool false, .slice va vn vc, .bool false, .pointer none] 32)) := (Below.refl _ _).alloc (Nat.le_refl _) _
  go_wp2_with fail
  refine build_any _ _ _ _ _ _ _ _ _ _ _ _ _ _ _ f0 f1 f2 f3 A4 L L F _ (by exact ((G0'.out.below e5).below e6).below e7) (by exact ((G1'.out.below e5).below e6).below e7) (by exact ((G2'.out.below e5).below e6).below e7) (by exact ((G3'.out.below e5).below e6).below e7) (by exact ((G4.out.below e5).below e6).below e7) b0 b2 BL.out _ fun p' r' q' V' w8 hsel' _ e8 => ?_
  have a3 : Below w.heap.size w (w6.alloc (.cells #[.string l1, .bool false, .slice va vn vc, .bool false, .pointer none] 32)) := by
    have a1 := E4.out.trans (e5.mono E4.out.size)
    have a2 := a1.trans (e6.mono a1.size)
    exact a2.trans (e7.mono a2.size)
  have hlow := a3.size
  have E8 : Hid (Below w.heap.size w w8) := a3.trans (e8.mono hlow)
  have hplo : w.heap.size ≤ p' := Nat.le_trans hlow hsel'.1
  obtain ⟨_, hp8, hc, hc1, hfz, hmap, _⟩ := hsel'
  have HMAP : Hid (MapAt w8 (w6.alloc (.cells #[.string l1, .bool false, .slice va vn vc, .bool false, .pointer none] 32)).heap.size x0.isSome 0 (mpTo f0 (getS n1 f1) 0) r') := hmap
  have HMM : Hid (MP (.map []) (mpTo f0 (getS n1 f1) 0)) := MP_empty
  clear a3 e5 e6 e7 e8 SEL hmap
  have hfz0 := hfz 0
  clear hfz
  cases r' with
  | none =>
    have hmm := @run_makeMap Try.prog
    have hmade : OwnM ((w8.setCell ⟨p', 0, none⟩ (.map (some w8.heap.size))).alloc (.map #[] 0)) w8.heap.size 0 (.map []) := by
      have h := World.ownsMap_made (w8.setCell ⟨p', 0, none⟩ (.map (some w8.heap.size))) Try.prog 9 (plainElem (H := Unit) Try.prog 9)
      rw [World.size_setCell] at h
      exact h
    obtain ⟨w9, hrun, hown9, hgrow9⟩ := hmade.update law9 Try.underlying39 (by unfold maxLen; omega) (keyOf9 hk) (elem9 hv)
    have hcp : ((w8.setCell ⟨p', 0, none⟩ (.map (some w8.heap.size))).alloc (.map #[] 0)).cell? ⟨p', 0, none⟩ = some (.map (some w8.heap.size)) := by
      rw [World.cell?_alloc_lt _ _ _ (by rw [World.size_setCell]; exact hp8)]
      exact World.cell?_setCell_same w8 _ _ hc
    have hc9 : w9.cell? ⟨p', 0, none⟩ = some (.map (some w8.heap.size)) := cell_grown hcp hgrow9 (Nat.ne_of_lt hp8)
    have E9 : Hid (Below w.heap.size w w9) := by
      have a1 := (E8.out.setCell (p := ⟨p', 0, none⟩) hplo (.map (some w8.heap.size))).alloc (by rw [World.size_setCell]; exact E8.out.size) (.map #[] 0)
      exact a1.grown hgrow9 a1.size (fun j hj => by cases hj; exact E8.out.size)
    have hp9 : p' < w9.heap.size := cell_some_lt hc9
    have HOWN9 : Hid (OwnM w9 w8.heap.size 1 ((DataW.map []).put (key k) (val v))) := hown9
    have HMP9 : Hid (MP ((DataW.map []).put (key k) (val v)) (mpPut (mpTo f0 (getS n1 f1) 0) k v)) := HMM.out.put k v
    clear hown9 hgrow9 hmade hcp HMM HMAP hc1 E8 hlow hplo
    go_wp2_with fail
    refine pin_labels p' w8.heap.size 1 _ _ k _ (by exact hp9) (by exact hc9) HOWN9.out HMP9.out (mpPut_key k v) _ fun l2 v2 g2 w10 hle2 hl2 hg2 hcg2 e10 => ?_
    clear hc hc9 hrun HOWN9 HMP9 hmm
    obtain ⟨rfl, rfl⟩ := least_below (fun t ht => by simp [mpTo] at ht) hle2 hl2
    have E10 : Hid (Below w.heap.size w w10) := E9.out.trans (e10.mono E9.out.size)
    have HG2 : Hid (w10.cell? ⟨g2, 0, none⟩ = some (.string v2)) := hcg2
    clear hle2 hl2 e10 hcg2 E9
    go_wp2_with fail
    refine plain_any _ _ _ _ _ _ fun w11 e11 => ?_
    have ea : Below w10.heap.size w10 (w10.alloc (.cells #[.string l2, .bool false, .slice (some ⟨g2, 0, none⟩) 1 1, .bool false, .pointer none] 32)) := (Below.refl _ _).alloc (Nat.le_refl _) _
    have X2 : Hid (Box w11 w10.heap.size l2 (some ⟨g2, 0, none⟩) 1 1) := (Box.made _ _ _ _ _).below e11
    have y2 : w11.cell? ⟨g2, 0, none⟩ = some (.string v2) := cell_below (cell_below HG2.out ea) e11
    have E11 : Hid (Below w.heap.size w w11) := by
      have a1 := E10.out.trans (ea.mono E10.out.size)
      exact a1.trans (e11.mono a1.size)
    clear ea e11 HG2 E10
    obtain ⟨j0, j1, j2, j3, j4⟩ := X2.out
    go_wp2_with fail
    exact hQ.out _ E11.out
  | some B' =>
    obtain ⟨hBlo, D', hown, hmp, _⟩ := HMAP.out.2 B' rfl
    obtain ⟨w9, hrun, hown9, hgrow9⟩ := hown.update law9 Try.underlying39 (by unfold maxLen; omega) (keyOf9 hk) (elem9 hv)
    have hc9 : w9.cell? ⟨p', 0, none⟩ = some (.map (some B')) := cell_grown hc hgrow9 (cell_ne_map hc hown)
    have E9 : Hid (Below w.heap.size w w9) := E8.out.grown hgrow9 E8.out.size (fun j hj => by cases hj; exact Nat.le_trans hlow hBlo)
    have hp9 : p' < w9.heap.size := cell_some_lt hc9
    have HOWN9 : Hid (OwnM w9 B' 1 (D'.put (key k) (val v))) := hown9
    have HMP9 : Hid (MP (D'.put (key k) (val v)) (mpPut (mpTo f0 (getS n1 f1) 0) k v)) := hmp.put k v
    clear hown hmp hown9 hgrow9 HMM HMAP hc1 E8 hlow hplo hBlo
    go_wp2_with fail
    refine pin_labels p' B' 1 _ _ k _ (by exact hp9) (by exact hc9) HOWN9.out HMP9.out (mpPut_key k v) _ fun l2 v2 g2 w10 hle2 hl2 hg2 hcg2 e10 => ?_
    clear hc hc9 hrun HOWN9 HMP9
    obtain ⟨rfl, rfl⟩ := least_below (fun t ht => by simp [mpTo] at ht) hle2 hl2
    have E10 : Hid (Below w.heap.size w w10) := E9.out.trans (e10.mono E9.out.size)
    have HG2 : Hid (w10.cell? ⟨g2, 0, none⟩ = some (.string v2)) := hcg2
    clear hle2 hl2 e10 hcg2 E9
    go_wp2_with fail
    refine plain_any _ _ _ _ _ _ fun w11 e11 => ?_
    have ea : Below w10.heap.size w10 (w10.alloc (.cells #[.string l2, .bool false, .slice (some ⟨g2, 0, none⟩) 1 1, .bool false, .pointer none] 32)) := (Below.refl _ _).alloc (Nat.le_refl _) _
    have X2 : Hid (Box w11 w10.heap.size l2 (some ⟨g2, 0, none⟩) 1 1) := (Box.made _ _ _ _ _).below e11
    have y2 : w11.cell? ⟨g2, 0, none⟩ = some (.string v2) := cell_below (cell_below HG2.out ea) e11
    have E11 : Hid (Below w.heap.size w w11) := by
      have a1 := E10.out.trans (ea.mono E10.out.size)
      exact a1.trans (e11.mono a1.size)
    clear ea e11 HG2 E10
    obtain ⟨j0, j1, j2, j3, j4⟩ := X2.out
    go_wp2_with fail
    exact hQ.out _ E11.out
end Go.Proofs.Qxb6629100a
