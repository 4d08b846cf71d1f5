/-
  The walk of FnChoiceIgnoresForeignAndRefusesSecond: it returns true.
-/
import Derived.Test.Qxb6629177aFmtPlus
import Derived.Test.Qxb6629177aFmtWalkA
namespace Go.Proofs.Qxb6629177aFmt
open Go.ChangeShapes Go.WideShapes Go.ChangeAt Go.RowKit
open Go.Extern.Stop Go.Stop Go.Extern

theorem Tryf.info36 : (Tryf.prog.info? 36).map (fun i => (i.zero, i.size, i.bytes)) = some (some (.agg #[.string ByteArray.empty, .string ByteArray.empty, .int .i64 0]), 3, 40) := by kernel_rfl

theorem news3 (w : World) (a b c : Value) (t : TypeId) : ∀ j u, [a, b, c][j]? = some u → (w.alloc (.cells #[a, b, c] t)).cell? ((⟨w.heap.size, 0, none⟩ : Addr).add j) = some u := by
  intro j u hj
  rw [add_plain, Nat.zero_add, World.cell?_alloc_new]
  simpa using hj

set_option maxRecDepth 100000 in
set_option maxHeartbeats 2000000 in
theorem walkB (F : Interp) (sp lo : ByteArray) (line : Int) (a : Option Addr) (n c : Nat) (S L : Nat → ByteArray) (I : Nat → Int) (kk : Int) (xs xl : ByteArray) (xi : Int) (w : World) (hs : CV w a n S L I) (h0 : sp.size ≤ maxLen) (h1 : lo.size ≤ maxLen) (h2 : xs.size ≤ maxLen) (h3 : xl.size ≤ maxLen) (hF : F.answers w.tape)
    (Q : Ending → World → Prop) (hQ : Hid (∀ w' : World, Below w.heap.size w w' → Q (.returned (.bool true)) w')) :
    Calls Tryf.prog 4 #[.string sp, .string lo, .int .i64 line, .slice a n c, .int .i64 kk, .agg #[.string xs, .string xl, .int .i64 xi]] w Q := by
  have HS : Hid (CV w a n S L I) := Hid.intro hs
  have HF : Hid (F.answers w.tape) := Hid.intro hF
  clear hs hF
  obtain ⟨i0, hi0, hz0, hz1, hz2⟩ := info_parts Tryf.info36
  have HB0 : Hid (Below w.heap.size w (w.alloc (.cells #[.string xs, .string xl, .int .i64 xi] 36))) := Hid.intro ((Below.refl _ _).alloc (Nat.le_refl _) _)
  go_enter Tryf.func4, Tryf.ntmps4
  go_wp2_with fail
  refine bytes10_any sp lo line a n c S L I (w.alloc (.cells #[.string xs, .string xl, .int .i64 xi] 36)) kk xs xl xi (HS.out.below HB0.out) h2 h3 h0 h1 _ (Hid.intro ?_)
  intro b w1 hlim hb1'
  have hb1 : Below w.heap.size w w1 := below_of HB0.out hb1'
  have x0 := keep_cell hb1' (new0 w (.string xs) (.string xl) (.int .i64 xi) 36)
  have x1 := keep_cell hb1' (new1 w (.string xs) (.string xl) (.int .i64 xi) 36)
  have x2 := keep_cell hb1' (new2 w (.string xs) (.string xl) (.int .i64 xi) 36)
  clear hb1'
  cases b with
  | false => go_wp2_with fail; exact hQ.out w1 hb1
  | true =>
    have HLIM : Hid (lim n sp lo S L) := Hid.intro (hlim rfl).1
    have l0 := (hlim rfl).2.1
    have l1 := (hlim rfl).2.2
    clear hlim
    go_wp2_with fail
    refine size_any (40 + (xs.size : Int) + (xl.size : Int)) sp lo a n c S L I w1 (by omega) (by omega) (HS.out.below hb1) HLIM.out _ (Hid.intro ?_)
    intro b
    cases b with
    | false => go_wp2_with fail; exact hQ.out w1 hb1
    | true =>
      by_cases k0 : kk < 0
      · go_wp2_with fail; exact hQ.out w1 hb1
      by_cases k1 : (n : Int) < kk
      · go_wp2_with fail; exact hQ.out w1 hb1
      obtain ⟨k, rfl⟩ : ∃ k : Nat, kk = k := ⟨kk.toNat, by omega⟩
      have hkn : k ≤ n := by omega
      have hn : n ≤ 1048576 := HLIM.out.2.2.1
      clear k0
      go_wp2_with fail
      refine build_any sp lo line a n c S L I w1 (HS.out.below hb1) (by omega) _ (Hid.intro ?_)
      intro E1 ca1 cc1 w2 hT1 hK1 hb2
      have HT1 : Hid (Tree w2 w1.heap.size sp lo line n S L I E1 ca1 cc1) := Hid.intro hT1
      have HK1 : Hid (∀ j, j < n → w2.cell? ⟨w1.heap.size + 1, j, none⟩ = some (.pointer (some ⟨E1 j, 0, none⟩))) := hK1
      have hb02 : Below w.heap.size w w2 := below_of hb1 hb2
      replace x0 := keep_cell hb2 x0
      replace x1 := keep_cell hb2 x1
      replace x2 := keep_cell hb2 x2
      clear hT1 hK1 HB0
      go_wp2_with (at_make; refine wpList_make_own _ rfl _ _ 22 rfl w2.heap.size 36 i0 (.agg #[.string ByteArray.empty, .string ByteArray.empty, .int .i64 0]) 3 Tryf.underlying22 hi0 hz0 hz1 .i64 .i64 _ (n + 1) rfl rfl (by simp) (by rw [hz2]; omega) (by unfold maxLen; omega) (Nat.le_refl _) ?_; intro w3 hown3 hgrow3)
      have HO3 : Hid (w3.ownsRow w2.heap.size 36 3 (.slice (some ⟨w2.heap.size, 0, none⟩) 0 (n + 1)) 0 []) := Hid.intro hown3
      have hb3 : Below w2.heap.size w2 w3 := (Below.refl _ _).grown hgrow3 (Nat.le_refl _) (fun k hk => by cases hk)
      clear hown3 hgrow3
      go_wp2_with fail
      go_loopw [15, 16] (fun v i wr => ∃ j : Nat, j ≤ k ∧ i = .int .i64 j ∧ wr.ownsRow w2.heap.size 36 3 v j (cells3 S L I j) ∧ Below w2.heap.size w2 wr) (fun _ i _ => k - (intOf i).toNat)
      case atStart => exact ⟨0, Nat.zero_le _, rfl, HO3.out, hb3⟩
      case round =>
        obtain ⟨j, hj, rfl, hown, hb⟩ := hrel
        have HO : Hid (wr.ownsRow w2.heap.size 36 3 u15 j (cells3 S L I j)) := Hid.intro hown
        clear hown HO3 hb3
        by_cases hlt : j < k
        · have hi := fun w' => idx22 c HS.out.1 w' j (by omega)
          obtain ⟨c0, c1, c2⟩ := ((HS.out.below hb02).below hb).2.1 j (by omega)
          go_wp2_with (at_builtin; refine wpList_append_lies _ rfl _ _ 22 rfl w2.heap.size 36 i0 (.agg #[.string ByteArray.empty, .string ByteArray.empty, .int .i64 0]) 3 40 Tryf.underlying22 hi0 hz0 hz1 hz2 rfl (by omega) u15 j (cells3 S L I j) rfl (by exact HO.out.alloc _) ⟨wr.heap.size, 0, none⟩ 1 1 [.string (S j), .string (L j), .int .i64 (I j)] rfl rfl (by exact news3 _ _ _ _ _) (by intro u hu; simp at hu; rcases hu with rfl | rfl | rfl <;> rfl) (by omega) (by unfold maxLen; omega) (by omega) (by have := hb.size; simp; omega) (wr.heap.size + 1) (by simp) ?_; intro g4 cap4 w4 hown4 hgrow4 hat4 hlt4)
          have HM : Hid (w4.ownsRow w2.heap.size 36 3 (.slice (some ⟨g4, 0, none⟩) (j + 1) cap4) (j + 1) (cells3 S L I (j + 1)) ∧ Below w2.heap.size w2 w4) := Hid.intro (own_more rfl rfl rfl hb.size HO.out hb hgrow4 hown4)
          clear hown4 hgrow4 hat4 hlt4
          go_wp2_with fail
          go_roundw
          case rel => exact ⟨j + 1, by omega, by go_num, HM.out.1, HM.out.2⟩
          case measure => simp [intOf]; omega
        · obtain rfl : k = j := by omega
          have X0 : Hid (w2.cell? ⟨w.heap.size, 0, none⟩ = some (.string xs)) := Hid.intro x0
          replace x0 := keep_cell hb x0
          replace x1 := keep_cell hb x1
          replace x2 := keep_cell hb x2
          have HOp : Hid (wr.ownsRow w2.heap.size 36 3 u15 k (cells3 (plus k xs S) (plus k xl L) (plus k xi I) k)) := Hid.intro (by
            rw [← cells3_congr (S := S) (L := L) (I := I) (fun j hj => ⟨(plus_lt xs S hj).symm, (plus_lt xl L hj).symm, (plus_lt xi I hj).symm⟩)]
            exact HO.out)
          clear HO
          go_wp2_with (at_builtin; refine wpList_append_lies _ rfl _ _ 22 rfl w2.heap.size 36 i0 (.agg #[.string ByteArray.empty, .string ByteArray.empty, .int .i64 0]) 3 40 Tryf.underlying22 hi0 hz0 hz1 hz2 rfl (by omega) u15 k (cells3 (plus k xs S) (plus k xl L) (plus k xi I) k) rfl (by exact HOp.out.alloc _) ⟨wr.heap.size, 0, none⟩ 1 1 [.string xs, .string xl, .int .i64 xi] rfl rfl (by exact news3 _ _ _ _ _) (by intro u hu; simp at hu; rcases hu with rfl | rfl | rfl <;> rfl) (by omega) (by unfold maxLen; omega) (by omega) (by have := hb.size; simp; omega) (wr.heap.size + 1) (by simp) ?_; intro g4 cap4 w4 hown4 hgrow4 hat4 hlt4)
          have HM : Hid (w4.ownsRow w2.heap.size 36 3 (.slice (some ⟨g4, 0, none⟩) (k + 1) cap4) (k + 1) (cells3 (plus k xs S) (plus k xl L) (plus k xi I) (k + 1)) ∧ Below w2.heap.size w2 w4) := Hid.intro (own_more (plus_at _ _ _) (plus_at _ _ _) (plus_at _ _ _) hb.size HOp.out hb hgrow4 hown4)
          clear hown4 hgrow4 hat4 hlt4 HOp x0 x1 x2 hlt hb hj
          go_wp2_with fail
          go_loopw [15, 17] (fun v i wr => ∃ j : Nat, k ≤ j ∧ j ≤ n ∧ i = .int .i64 j ∧ wr.ownsRow w2.heap.size 36 3 v (j + 1) (cells3 (plus k xs S) (plus k xl L) (plus k xi I) (j + 1)) ∧ Below w2.heap.size w2 wr) (fun _ i _ => n - (intOf i).toNat)
          case atStart => exact ⟨k, Nat.le_refl _, hkn, rfl, HM.out.1, HM.out.2⟩
          case round =>
            obtain ⟨j, hkj, hj, rfl, hown, hb⟩ := hrel
            have HO : Hid (wr.ownsRow w2.heap.size 36 3 u15 (j + 1) (cells3 (plus k xs S) (plus k xl L) (plus k xi I) (j + 1))) := Hid.intro hown
            clear hown HM
            by_cases hlt : j < n
            · have hi := fun w' => idx22 c HS.out.1 w' j (by omega)
              obtain ⟨c0, c1, c2⟩ := ((HS.out.below hb02).below hb).2.1 j (by omega)
              go_wp2_with (at_builtin; refine wpList_append_lies _ rfl _ _ 22 rfl w2.heap.size 36 i0 (.agg #[.string ByteArray.empty, .string ByteArray.empty, .int .i64 0]) 3 40 Tryf.underlying22 hi0 hz0 hz1 hz2 rfl (by omega) u15 (j + 1) (cells3 (plus k xs S) (plus k xl L) (plus k xi I) (j + 1)) rfl (by exact HO.out.alloc _) ⟨wr.heap.size, 0, none⟩ 1 1 [.string (S j), .string (L j), .int .i64 (I j)] rfl rfl (by exact news3 _ _ _ _ _) (by intro u hu; simp at hu; rcases hu with rfl | rfl | rfl <;> rfl) (by omega) (by unfold maxLen; omega) (by omega) (by have := hb.size; simp; omega) (wr.heap.size + 1) (by simp) ?_; intro g5 cap5 w5 hown5 hgrow5 hat5 hlt5)
              have HM : Hid (w5.ownsRow w2.heap.size 36 3 (.slice (some ⟨g5, 0, none⟩) (j + 1 + 1) cap5) (j + 1 + 1) (cells3 (plus k xs S) (plus k xl L) (plus k xi I) (j + 1 + 1)) ∧ Below w2.heap.size w2 w5) := Hid.intro (own_more (plus_gt xs S hkj) (plus_gt xl L hkj) (plus_gt xi I hkj) hb.size HO.out hb hgrow5 hown5)
              clear hown5 hgrow5 hat5 hlt5
              go_wp2_with fail
              go_roundw
              case rel => exact ⟨j + 1, by omega, by omega, by go_num, HM.out.1, HM.out.2⟩
              case measure => simp [intOf]; omega
            · obtain rfl : n = j := by omega
              obtain ⟨g, cap, rfl, _, _⟩ := HO.out.form (by omega)
              have HC : Hid (CV wr (some ⟨g, 0, none⟩) (n + 1) (plus k xs S) (plus k xl L) (plus k xi I)) := Hid.intro (cv_own HO.out (fun j hj => ⟨plus_size k xs S n hkn h2 (fun j hj => (HS.out.2.2.1 j hj).1) j hj, plus_size k xl L n hkn h3 (fun j hj => (HS.out.2.2.1 j hj).2) j hj⟩) (by unfold maxLen; omega))
              clear HO hlt hj hkj
              have hb06 : Below w.heap.size w wr := below_of hb02 hb
              have hb26 : Below w2.heap.size w2 wr := hb
              clear hb
              go_wp2_with fail
              refine build_any sp lo line (some ⟨g, 0, none⟩) (n + 1) cap (plus k xs S) (plus k xl L) (plus k xi I) wr HC.out (by omega) _ (Hid.intro ?_)
              intro E2 ca2 cc2 w7 hT2 hK2 hb7
              have HT2 : Hid (Tree w7 wr.heap.size sp lo line (n + 1) (plus k xs S) (plus k xl L) (plus k xi I) E2 ca2 cc2) := Hid.intro hT2
              have HK2 : Hid (∀ j, j < n + 1 → w7.cell? ⟨wr.heap.size + 1, j, none⟩ = some (.pointer (some ⟨E2 j, 0, none⟩))) := hK2
              have hb07 : Below w.heap.size w w7 := below_of hb06 hb7
              have hb27 : Below w2.heap.size w2 w7 := below_of hb26 hb7
              clear hT2 hK2 HC hb7
              go_wp2_with fail
              refine count_any sp a n c S L I w7 (HS.out.below hb07) hn _ (Hid.intro ?_)
              go_wp2_with fail
              have HLAW := Hid.intro (plus_law k n hkn xs S sp)
              have hL : ∀ j, j < n → (L j).size ≤ 1048576 := fun j hj => (HLIM.out.2.2.2 j hj).2
              have hL2 : ∀ j, j < n + 1 → (plus k xl L j).size ≤ 1048576 := plus_size k xl L n hkn l1 hL
              have HL2 : Hid (∀ j, j < n + 1 → (plus k xl L j).size ≤ 1048576) := hL2
              clear hL2
              refine choice_any F w7 w1.heap.size sp lo line n S L I E1 ca1 cc1 (HT1.out.below hb27) (by rw [hb07.tape]; exact HF.out) (by omega) HLIM.out.2.1 hL _ (Hid.intro ?_) (Hid.intro ?_)
              · intro j w8 hc hj hf hb8
                clear hL
                have hb08 : Below w.heap.size w w8 := below_of hb07 hb8
                rw [hc, hf]
                go_wp2_with fail
                refine choice_any F w8 wr.heap.size sp lo line (n + 1) (plus k xs S) (plus k xl L) (plus k xi I) E2 ca2 cc2 (HT2.out.below hb8) (by rw [hb08.tape]; exact HF.out) (by omega) HLIM.out.2.1 HL2.out _ (Hid.intro ?_) (Hid.intro ?_)
                · intro j2 w9 hc2 hj2 hf2 hb9
                  have HB : Hid (Below w.heap.size w w9) := Hid.intro (below_of hb08 hb9)
                  cases hx : (xs.toList == sp.toList) with
                  | true => have := (HLAW.out.2 hx).1; omega
                  | false =>
                    have hj2' := (HLAW.out.1 hx).2
                    rw [hf, hf2] at hj2'
                    have hk1 := keep_cell hb9 (keep_cell hb8 (keep_cell hb27 (HK1.out j hj)))
                    have hk2 := keep_cell hb9 (keep_cell hb8 (HK2.out j2 hj2))
                    have hx0 := keep_cell hb9 (keep_cell hb8 (keep_cell hb27 X0.out))
                    have hi1 := fun w' => idx26_new (g := w1.heap.size + 1) n w' j hj
                    have hi2 := fun w' => idx26_new (g := wr.heap.size + 1) (n + 1) w' j2 hj2
                    clear hb9 hb8 hb08 hb07 hb27 hb06 hb26 hb02 hb2 hb1 hc hc2 hf hf2
                    by_cases hkj : k ≤ j
                    · rw [if_pos (by omega)] at hj2'
                      obtain rfl : j2 = j + 1 := by omega
                      have hi3 : ∀ w', (Instr.indexAt 26 (.slice (some ⟨wr.heap.size + 1, 0, none⟩) (n + 1) (n + 1)) (.int .i64 ((j : Int) + 1))).run Tryf.prog w' = .ok (.pointer (some ⟨wr.heap.size + 1, j + 1, none⟩)) w' := hi2
                      clear hj2' hi2
                      go_wp2_with fail
                      go_quiet (fail)
                      go_wp2_with fail
                      exact hQ.out _ (below_drewN HB.out _)
                    · rw [if_neg (by omega)] at hj2'
                      obtain rfl : j = j2 := by omega
                      clear hj2'
                      go_wp2_with fail
                      go_quiet (fail)
                      go_wp2_with fail
                      exact hQ.out _ (below_drewN HB.out _)
                · intro aE w9 hc2 hb9
                  have HB : Hid (Below w.heap.size w w9) := Hid.intro (below_of hb08 hb9)
                  cases hx : (xs.toList == sp.toList) with
                  | false => have := (HLAW.out.1 hx).1; omega
                  | true =>
                    have hk1 := keep_cell hb9 (keep_cell hb8 (keep_cell hb27 (HK1.out j hj)))
                    have hx0 := keep_cell hb9 (keep_cell hb8 (keep_cell hb27 X0.out))
                    have hi1 := fun w' => idx26_new (g := w1.heap.size + 1) n w' j hj
                    clear hb9 hb8 hb08 hb07 hb27 hb06 hb26 hb02 hb2 hb1 hc hc2 hf
                    go_wp2_with fail
                    exact hQ.out w9 HB.out
              · intro aE w8 hc hb8
                clear hL
                have hb08 : Below w.heap.size w w8 := below_of hb07 hb8
                have hne : ¬ ((cnt S sp n : Int) = 1) := by omega
                go_wp2_with fail
                refine choice_any F w8 wr.heap.size sp lo line (n + 1) (plus k xs S) (plus k xl L) (plus k xi I) E2 ca2 cc2 (HT2.out.below hb8) (by rw [hb08.tape]; exact HF.out) (by omega) HLIM.out.2.1 HL2.out _ (Hid.intro ?_) (Hid.intro ?_)
                · intro j2 w9 hc2 hj2 hf2 hb9
                  have HB : Hid (Below w.heap.size w w9) := Hid.intro (below_of hb08 hb9)
                  cases hx : (xs.toList == sp.toList) with
                  | false => have := (HLAW.out.1 hx).1; omega
                  | true =>
                    have hz := (HLAW.out.2 hx).1
                    have hc0 : cnt S sp n = 0 := by omega
                    have hj2' := (HLAW.out.2 hx).2 hc0
                    rw [hf2] at hj2'
                    obtain rfl : k = j2 := by omega
                    have hk2 := keep_cell hb9 (keep_cell hb8 (HK2.out k hj2))
                    have hx0 := keep_cell hb9 (keep_cell hb8 (keep_cell hb27 X0.out))
                    have hi2 := fun w' => idx26_new (g := wr.heap.size + 1) (n + 1) w' k hj2
                    clear hb9 hb8 hb08 hb07 hb27 hb06 hb26 hb02 hb2 hb1 hc2 hf2 hj2' hz hne
                    rw [hc0]
                    go_wp2_with fail
                    exact hQ.out w9 HB.out
                · intro aE2 w9 hc2 hb9
                  have HB : Hid (Below w.heap.size w w9) := Hid.intro (below_of hb08 hb9)
                  have hx0 := keep_cell hb9 (keep_cell hb8 (keep_cell hb27 X0.out))
                  cases hx : (xs.toList == sp.toList) with
                  | false =>
                    clear hb9 hb8 hb08 hb07 hb27 hb06 hb26 hb02 hb2 hb1 hc2 hc
                    go_wp2_with fail
                    go_quiet (fail)
                    go_wp2_with fail
                    exact hQ.out _ (below_drewN HB.out _)
                  | true =>
                    have hz := (HLAW.out.2 hx).1
                    have hc0 : ¬ ((cnt S sp n : Int) = 0) := by omega
                    clear hb9 hb8 hb08 hb07 hb27 hb06 hb26 hb02 hb2 hb1 hc2 hc hz
                    go_wp2_with fail
                    exact hQ.out w9 HB.out
end Go.Proofs.Qxb6629177aFmt
