/-
  The contract of LenientQueryUnescape: it computes 'dec'.
-/
import Derived.Test.Qxb6629145aSmall
import Derived.Test.Qxb6629145aShelf
import Derived.Deep.RegionHeld3
namespace Go.Proofs.Qxb6629145a
open Go.ChangeShapes Go.WideShapes Go.ChangeAt Go.RowKit

/-- a string's bytes -/
def by_ (s : ByteArray) : List UInt8 := s.data.toList
theorem by_length (s : ByteArray) : (by_ s).length = s.size := by unfold by_; simp
theorem bt_by (s : ByteArray) (i : Nat) : bt s i = ((by_ s).getD i 0).toNat := rfl

theorem drop_cons (s : ByteArray) {k : Nat} (h : k < s.size) : (by_ s).drop k = (by_ s).getD k 0 :: (by_ s).drop (k + 1) := by
  have hl : k < (by_ s).length := by rw [by_length]; exact h
  rw [List.drop_eq_getElem_cons hl, List.getD_eq_getElem?_getD, List.getElem?_eq_getElem hl]; rfl

theorem u8_eq_of_int {c : UInt8} {n : Nat} (h : (c.toNat : Int) = n) (hn : n < 256) : c = UInt8.ofNat n := by
  apply UInt8.toNat_inj.1
  rw [UInt8.toNat_ofNat']
  omega

theorem starts_iff (s : ByteArray) {k : Nat} (h : k < s.size) : starts ((by_ s).drop k) ↔ (bt s k = 37 ∧ escB s k = true) := by
  constructor
  · rintro ⟨a, b, r, e, ha, hb⟩
    have hl := congrArg List.length e
    simp [by_length] at hl
    have h2 : k + 2 < s.size := by omega
    rw [drop_cons s h, drop_cons s (show k + 1 < s.size by omega), drop_cons s h2] at e
    simp only [List.cons.injEq] at e
    obtain ⟨e0, e1, e2, _⟩ := e
    refine ⟨by rw [bt_by, e0]; rfl, ?_⟩
    unfold escB
    rw [bt_by, bt_by, e1, e2]
    simp only [h2, decide_true, Bool.true_and]
    exact Bool.and_eq_true_iff.2 ⟨ha, hb⟩
  · rintro ⟨h0, he⟩
    unfold escB at he
    simp only [Bool.and_eq_true, decide_eq_true_eq] at he
    obtain ⟨h2, ha, hb⟩ := he
    refine ⟨(by_ s).getD (k + 1) 0, (by_ s).getD (k + 2) 0, (by_ s).drop (k + 3), ?_, ha, hb⟩
    rw [drop_cons s h, drop_cons s (show k + 1 < s.size by omega), drop_cons s h2]
    rw [bt_by] at h0
    rw [u8_eq_of_int (n := 37) h0 (by omega)]; rfl

theorem step_plus {s : ByteArray} {k : Nat} (h : k < s.size) (h0 : bt s k = 43) : dec ((by_ s).drop k) = 32 :: dec ((by_ s).drop (k + 1)) := by
  have hs : ¬ starts ((by_ s).drop k) := fun e => by have := (starts_iff s h).1 e; omega
  rw [drop_cons s h] at hs ⊢
  rw [dec_plain hs]
  rw [bt_by] at h0
  rw [u8_eq_of_int (n := 43) h0 (by omega)]; rfl

theorem step_plain {s : ByteArray} {k : Nat} (h : k < s.size) (h0 : bt s k ≠ 43) (h1 : ¬ (bt s k = 37 ∧ escB s k = true)) : dec ((by_ s).drop k) = (by_ s).getD k 0 :: dec ((by_ s).drop (k + 1)) := by
  have hs : ¬ starts ((by_ s).drop k) := fun e => h1 ((starts_iff s h).1 e)
  rw [drop_cons s h] at hs ⊢
  rw [dec_plain hs]
  congr 1
  unfold plainB
  rw [if_neg]
  intro e
  rw [bt_by, e] at h0
  exact h0 rfl

theorem step_esc {s : ByteArray} {k : Nat} (h0 : bt s k = 37) (he : escB s k = true) : k + 2 < s.size ∧ hexI (bt s (k + 1)) = true ∧ hexI (bt s (k + 2)) = true ∧ dec ((by_ s).drop k) = byteOf ((by_ s).getD (k + 1) 0) ((by_ s).getD (k + 2) 0) :: dec ((by_ s).drop (k + 3)) := by
  have he' := he
  unfold escB at he'
  simp only [Bool.and_eq_true, decide_eq_true_eq] at he'
  obtain ⟨h2, ha, hb⟩ := he'
  refine ⟨h2, ha, hb, ?_⟩
  rw [drop_cons s (show k < s.size by omega), drop_cons s (show k + 1 < s.size by omega), drop_cons s h2]
  rw [bt_by] at h0
  rw [u8_eq_of_int (n := 37) h0 (by omega)]
  exact dec_esc ha hb _

theorem unhex_same (c : Int) (h : hexI c = true) (w : World) : Calls Try.prog 13 #[.int .u8 c] w fun e w' => e = .returned (.int .u8 (valI c)) ∧ w' = w := unhex_any c h w _ ⟨rfl, rfl⟩

theorem idxS (s : ByteArray) (i : Nat) (x : Int) (hx : x = i) (h : i < s.size) (w : World) : (Instr.index 9 (.string s) (.int .i64 x)).run Try.prog w = .ok (.int .u8 (bt s i)) w := by
  subst hx
  rw [run_index_string w 9 s .i64 (i : Int) Try.underlying9, dif_pos ⟨by omega, by omega⟩]
  have e := bt_get s i h
  simp only [Int.toNat_natCast]
  rw [e]

theorem or16_fin : ∀ x y : Fin 16, bits BinOp.or IntKind.u8 ((x.val : Int) * 16 % 256) (y.val : Int) = (x.val : Int) * 16 + (y.val : Int) := by decide +kernel

theorem or16 {x y : Int} (hx : 0 ≤ x ∧ x ≤ 15) (hy : 0 ≤ y ∧ y ≤ 15) : bits BinOp.or IntKind.u8 (x * 16 % 256) y = x * 16 + y := by
  obtain ⟨m, rfl⟩ := Int.eq_ofNat_of_zero_le hx.1
  obtain ⟨n, rfl⟩ := Int.eq_ofNat_of_zero_le hy.1
  exact or16_fin ⟨m, by omega⟩ ⟨n, by omega⟩

theorem byteOf_toNat {a b : UInt8} (ha : hexB a = true) (hb : hexB b = true) : ((byteOf a b).toNat : Int) = valI a.toNat * 16 + valI b.toNat := by
  have h1 := valI_range ha
  have h2 := valI_range hb
  unfold byteOf
  rw [UInt8.toNat_ofNat']
  omega

theorem or_byte {a b : UInt8} (ha : hexI (a.toNat : Int) = true) (hb : hexI (b.toNat : Int) = true) : bits BinOp.or IntKind.u8 (valI a.toNat * 16 % 256) (valI b.toNat) = ((byteOf a b).toNat : Int) := by
  rw [byteOf_toNat ha hb]
  exact or16 (valI_range ha) (valI_range hb)

theorem by_extract (s : ByteArray) (k : Nat) : (s.extract 0 k).data.toList = (by_ s).take k := by
  unfold by_
  simp [ByteArray.data_extract]

/-- the decoded string -/
def decB (s : ByteArray) : ByteArray := ⟨(dec (by_ s)).toArray⟩

theorem take_step (s : ByteArray) {k : Nat} (h : k < s.size) : (by_ s).take (k + 1) = (by_ s).take k ++ [(by_ s).getD k 0] := by
  have hl : k < (by_ s).length := by rw [by_length]; exact h
  rw [List.take_succ_eq_append_getElem hl, List.getD_eq_getElem?_getD, List.getElem?_eq_getElem hl]; rfl

set_option maxRecDepth 100000 in
set_option maxHeartbeats 1000000 in
theorem lenient_any (s : ByteArray) (hs : s.size ≤ 4000000) (w : World) (Q : Ending → World → Prop) (hQ : Hid (∀ w', Below w.heap.size w w' → Q (.returned (.string (decB s))) w')) : Calls Try.prog 6 #[.string s] w Q := by
  go_enter Try.func6, Try.ntmps6
  go_wp2_with fail
  go_loop [3] (fun i => ∃ k : Nat, k ≤ s.size ∧ i = .int .i64 k ∧ dec (by_ s) = (by_ s).take k ++ dec ((by_ s).drop k)) (fun i => s.size - (intOf i).toNat)
  case atStart => exact ⟨0, Nat.zero_le _, rfl, by simp⟩
  case round =>
    obtain ⟨k, hk, rfl, hd⟩ := hrel
    have HD : Hid (dec (by_ s) = (by_ s).take k ++ dec ((by_ s).drop k)) := hd
    clear hd
    by_cases hlt : k < s.size
    · have hbt := bt_get s k hlt
      by_cases c1 : bt s k = 43
      · go_wp2_with fail
        refine (Builder_Grow_fresh w.heap.size w.heap.size s.size _ (Nat.le_refl _) (MapKept.heap_alloc w _).1 (by simp) (by omega)).mono ?_
        rintro e w1 ⟨rfl, hbu1, e1⟩
        have hz1 : w.heap.size ≤ w1.heap.size := Nat.le_of_lt hbu1.lt
        go_wp2_with fail
        refine (Builder_WriteString w.heap.size w.heap.size [] (s.extract 0 k) w1 (Or.inr hbu1) (by simp; omega) hz1).mono ?_
        rintro e w2 ⟨rfl, hbu2, e2⟩
        have hz2 : w.heap.size ≤ w2.heap.size := Nat.le_of_lt hbu2.lt
        have HBU : Hid (Lib.BuilderAt 31 5 w.heap.size w.heap.size (.pointer (some ⟨w.heap.size, 0, none⟩)) (Lib.byteCells ((by_ s).take k)) w2) := by
          have e : [] ++ Lib.strCells (s.extract 0 k) = Lib.byteCells ((by_ s).take k) := by rw [List.nil_append, Lib.strCells_eq, by_extract]
          rw [← e]; exact hbu2
        have E2 : Hid (Below w.heap.size w w2) := (((Below.refl _ _).alloc (Nat.le_refl _) _).trans e1).trans e2
        clear hbu1 hbu2 e1 e2 hz1 hbt
        go_wp2_with fail
        go_loopw [3, 5] (fun i _ wr => ∃ (j : Nat) (l : List UInt8), j ≤ s.size ∧ i = .int .i64 j ∧ l.length ≤ j ∧ Lib.BuilderAt 31 5 w.heap.size w.heap.size (.pointer (some ⟨w.heap.size, 0, none⟩)) (Lib.byteCells l) wr ∧ Below w.heap.size w wr ∧ dec (by_ s) = l ++ dec ((by_ s).drop j)) (fun i _ _ => s.size - (intOf i).toNat)
        case atStart => exact ⟨k, (by_ s).take k, hk, rfl, by simp; omega, HBU.out, E2.out, HD.out⟩
        case round =>
          obtain ⟨j, l, hj, rfl, hl, hbu, hbe, hd⟩ := hrel
          have HBW : Hid (Lib.BuilderAt 31 5 w.heap.size w.heap.size (.pointer (some ⟨w.heap.size, 0, none⟩)) (Lib.byteCells l) wr) := hbu
          have HDD : Hid (dec (by_ s) = l ++ dec ((by_ s).drop j)) := hd
          have hzr : w.heap.size ≤ wr.heap.size := Nat.le_of_lt hbu.lt
          clear hbu hd
          by_cases hjl : j < s.size
          · have hbj := bt_get s j hjl
            by_cases d1 : bt s j = 43
            · go_wp2_with fail
              refine (Builder_WriteByte w.heap.size w.heap.size (Lib.byteCells l) 32 wr (Or.inr HBW.out) (by rw [Lib.byteCells_length]; omega) hzr).mono ?_
              rintro e w3 ⟨rfl, hbu3, e3⟩
              have HB3 : Hid (Lib.BuilderAt 31 5 w.heap.size w.heap.size (.pointer (some ⟨w.heap.size, 0, none⟩)) (Lib.byteCells (l ++ [32])) w3) := by rw [Lib.byteCells_append]; exact hbu3
              clear hbu3
              go_wp2_with fail
              go_roundw
              case rel => exact ⟨j + 1, l ++ [32], by omega, by go_num, by simp; omega, HB3.out, hbe.trans e3, by rw [HDD.out, step_plus hjl d1, List.append_assoc]; rfl⟩
              case measure => simp [intOf]; omega
            · by_cases d2 : bt s j = 37
              · cases d3 : escB s j with
                | true =>
                  obtain ⟨q1, q2, q3, q4⟩ := step_esc d2 d3
                  have HQ4 : Hid (dec ((by_ s).drop j) = byteOf ((by_ s).getD (j + 1) 0) ((by_ s).getD (j + 2) 0) :: dec ((by_ s).drop (j + 3))) := q4
                  clear q4
                  have hb1 := bt_get s (j + 1) (by omega)
                  have hb2 := bt_get s (j + 2) (by omega)
                  have g1 : (0 : Int) ≤ (j : Int) + 1 := by omega
                  have g2 : (j : Int) + 1 < (s.size : Int) := by omega
                  have g3 : (0 : Int) ≤ (j : Int) + 2 := by omega
                  have g4 : (j : Int) + 2 < (s.size : Int) := by omega
                  have v1 : IntKind.i64.wrap ((j : Int) + 1) = (j : Int) + 1 := by rw [IntKind.wrap_i64]; omega
                  have v2 : IntKind.i64.wrap ((j : Int) + 2) = (j : Int) + 2 := by rw [IntKind.wrap_i64]; omega
                  have x1 := idxS s (j + 1) ((j : Int) + 1) (by omega) (by omega)
                  have x2 := idxS s (j + 2) ((j : Int) + 2) (by omega) (by omega)
                  have HOR : Hid (bits BinOp.or IntKind.u8 (valI (bt s (j + 1)) * 16 % 256) (valI (bt s (j + 2))) = ((byteOf ((by_ s).getD (j + 1) 0) ((by_ s).getD (j + 2) 0)).toNat : Int)) := or_byte q2 q3
                  clear hb1 hb2
                  go_wp2_with fail
                  refine escapeAt_any s j hs hjl _ _ (Hid.intro ?_)
                  rw [d3]
                  go_wp2_with fail
                  go_region_held3 (fun _ => True) (trivial) ((go_at_call 13; refine unhex_any _ (by first | exact q2 | exact q3) _ _ (Hid.intro ?_)))
                  all_goals go_wp2_with fail
                  all_goals
                    rw [HOR.out]
                    refine (Builder_WriteByte w.heap.size w.heap.size (Lib.byteCells l) _ wr.drew (Or.inr HBW.out.drew) (by rw [Lib.byteCells_length]; omega) hzr).mono ?_
                    rintro e w3 ⟨rfl, hbu3, e3⟩
                    have HB3 : Hid (Lib.BuilderAt 31 5 w.heap.size w.heap.size (.pointer (some ⟨w.heap.size, 0, none⟩)) (Lib.byteCells (l ++ [byteOf ((by_ s).getD (j + 1) 0) ((by_ s).getD (j + 2) 0)])) w3) := by rw [Lib.byteCells_append]; exact hbu3
                    clear hbu3
                    go_wp2_with fail
                    go_roundw
                    case rel => exact ⟨j + 3, l ++ [byteOf ((by_ s).getD (j + 1) 0) ((by_ s).getD (j + 2) 0)], by omega, by go_num, by simp; omega, HB3.out, hbe.drew.trans e3, by rw [HDD.out, HQ4.out, List.append_assoc]; rfl⟩
                    case measure => simp [intOf]; omega
                | false =>
                  go_wp2_with fail
                  refine escapeAt_any s j hs hjl _ _ (Hid.intro ?_)
                  rw [d3]
                  go_wp2_with fail
                  refine (Builder_WriteByte w.heap.size w.heap.size (Lib.byteCells l) 37 wr (Or.inr HBW.out) (by rw [Lib.byteCells_length]; omega) hzr).mono ?_
                  rintro e w3 ⟨rfl, hbu3, e3⟩
                  have HB3 : Hid (Lib.BuilderAt 31 5 w.heap.size w.heap.size (.pointer (some ⟨w.heap.size, 0, none⟩)) (Lib.byteCells (l ++ [(by_ s).getD j 0])) w3) := by
                    rw [Lib.byteCells_append]
                    have e : Lib.byteCells [(by_ s).getD j 0] = [.int .u8 37] := by show [Value.int .u8 (bt s j)] = _; rw [d2]
                    rw [e]; exact hbu3
                  clear hbu3
                  go_wp2_with fail
                  go_roundw
                  case rel => exact ⟨j + 1, l ++ [(by_ s).getD j 0], by omega, by go_num, by simp; omega, HB3.out, hbe.trans e3, by rw [HDD.out, step_plain hjl d1 (fun h => by rw [d3] at h; cases h.2), List.append_assoc]; rfl⟩
                  case measure => simp [intOf]; omega
              · go_wp2_with fail
                refine (Builder_WriteByte w.heap.size w.heap.size (Lib.byteCells l) (bt s j) wr (Or.inr HBW.out) (by rw [Lib.byteCells_length]; omega) hzr).mono ?_
                rintro e w3 ⟨rfl, hbu3, e3⟩
                have HB3 : Hid (Lib.BuilderAt 31 5 w.heap.size w.heap.size (.pointer (some ⟨w.heap.size, 0, none⟩)) (Lib.byteCells (l ++ [(by_ s).getD j 0])) w3) := by rw [Lib.byteCells_append]; exact hbu3
                clear hbu3
                go_wp2_with fail
                go_roundw
                case rel => exact ⟨j + 1, l ++ [(by_ s).getD j 0], by omega, by go_num, by simp; omega, HB3.out, hbe.trans e3, by rw [HDD.out, step_plain hjl d1 (fun h => d2 h.1), List.append_assoc]; rfl⟩
                case measure => simp [intOf]; omega
          · obtain rfl : j = s.size := by omega
            have HE : Hid (decB s = ⟨l.toArray⟩) := by
              have h := HDD.out
              rw [List.drop_of_length_le (by rw [by_length]; exact Nat.le_refl _), dec, List.append_nil] at h
              show (⟨(dec (by_ s)).toArray⟩ : ByteArray) = _
              rw [h]
            go_wp2_with fail
            refine (Builder_String_any w.heap.size w.heap.size l wr (Or.inr HBW.out) hzr).mono ?_
            rintro e w3 ⟨rfl, e3⟩
            go_wp2_with fail
            have hq := hQ.out w3 (hbe.trans e3)
            rw [HE.out] at hq
            exact hq
      · by_cases c2 : bt s k = 37
        · cases c3 : escB s k with
          | true =>
            go_wp2_with fail
            refine escapeAt_any s k hs hlt _ _ (Hid.intro ?_)
            rw [c3]
            go_wp2_with fail
            refine (Builder_Grow_fresh w.heap.size w.heap.size s.size _ (Nat.le_refl _) (MapKept.heap_alloc w _).1 (by simp) (by omega)).mono ?_
            rintro e w1 ⟨rfl, hbu1, e1⟩
            have hz1 : w.heap.size ≤ w1.heap.size := Nat.le_of_lt hbu1.lt
            go_wp2_with fail
            refine (Builder_WriteString w.heap.size w.heap.size [] (s.extract 0 k) w1 (Or.inr hbu1) (by simp; omega) hz1).mono ?_
            rintro e w2 ⟨rfl, hbu2, e2⟩
            have hz2 : w.heap.size ≤ w2.heap.size := Nat.le_of_lt hbu2.lt
            have HBU : Hid (Lib.BuilderAt 31 5 w.heap.size w.heap.size (.pointer (some ⟨w.heap.size, 0, none⟩)) (Lib.byteCells ((by_ s).take k)) w2) := by
              have e : [] ++ Lib.strCells (s.extract 0 k) = Lib.byteCells ((by_ s).take k) := by rw [List.nil_append, Lib.strCells_eq, by_extract]
              rw [← e]; exact hbu2
            have E2 : Hid (Below w.heap.size w w2) := (((Below.refl _ _).alloc (Nat.le_refl _) _).trans e1).trans e2
            clear hbu1 hbu2 e1 e2 hz1 hbt
            go_wp2_with fail
            go_loopw [3, 5] (fun i _ wr => ∃ (j : Nat) (l : List UInt8), j ≤ s.size ∧ i = .int .i64 j ∧ l.length ≤ j ∧ Lib.BuilderAt 31 5 w.heap.size w.heap.size (.pointer (some ⟨w.heap.size, 0, none⟩)) (Lib.byteCells l) wr ∧ Below w.heap.size w wr ∧ dec (by_ s) = l ++ dec ((by_ s).drop j)) (fun i _ _ => s.size - (intOf i).toNat)
            case atStart => exact ⟨k, (by_ s).take k, hk, rfl, by simp; omega, HBU.out, E2.out, HD.out⟩
            case round =>
              obtain ⟨j, l, hj, rfl, hl, hbu, hbe, hd⟩ := hrel
              have HBW : Hid (Lib.BuilderAt 31 5 w.heap.size w.heap.size (.pointer (some ⟨w.heap.size, 0, none⟩)) (Lib.byteCells l) wr) := hbu
              have HDD : Hid (dec (by_ s) = l ++ dec ((by_ s).drop j)) := hd
              have hzr : w.heap.size ≤ wr.heap.size := Nat.le_of_lt hbu.lt
              clear hbu hd
              by_cases hjl : j < s.size
              · have hbj := bt_get s j hjl
                by_cases d1 : bt s j = 43
                · go_wp2_with fail
                  refine (Builder_WriteByte w.heap.size w.heap.size (Lib.byteCells l) 32 wr (Or.inr HBW.out) (by rw [Lib.byteCells_length]; omega) hzr).mono ?_
                  rintro e w3 ⟨rfl, hbu3, e3⟩
                  have HB3 : Hid (Lib.BuilderAt 31 5 w.heap.size w.heap.size (.pointer (some ⟨w.heap.size, 0, none⟩)) (Lib.byteCells (l ++ [32])) w3) := by rw [Lib.byteCells_append]; exact hbu3
                  clear hbu3
                  go_wp2_with fail
                  go_roundw
                  case rel => exact ⟨j + 1, l ++ [32], by omega, by go_num, by simp; omega, HB3.out, hbe.trans e3, by rw [HDD.out, step_plus hjl d1, List.append_assoc]; rfl⟩
                  case measure => simp [intOf]; omega
                · by_cases d2 : bt s j = 37
                  · cases d3 : escB s j with
                    | true =>
                      obtain ⟨q1, q2, q3, q4⟩ := step_esc d2 d3
                      have HQ4 : Hid (dec ((by_ s).drop j) = byteOf ((by_ s).getD (j + 1) 0) ((by_ s).getD (j + 2) 0) :: dec ((by_ s).drop (j + 3))) := q4
                      clear q4
                      have hb1 := bt_get s (j + 1) (by omega)
                      have hb2 := bt_get s (j + 2) (by omega)
                      have g1 : (0 : Int) ≤ (j : Int) + 1 := by omega
                      have g2 : (j : Int) + 1 < (s.size : Int) := by omega
                      have g3 : (0 : Int) ≤ (j : Int) + 2 := by omega
                      have g4 : (j : Int) + 2 < (s.size : Int) := by omega
                      have v1 : IntKind.i64.wrap ((j : Int) + 1) = (j : Int) + 1 := by rw [IntKind.wrap_i64]; omega
                      have v2 : IntKind.i64.wrap ((j : Int) + 2) = (j : Int) + 2 := by rw [IntKind.wrap_i64]; omega
                      have x1 := idxS s (j + 1) ((j : Int) + 1) (by omega) (by omega)
                      have x2 := idxS s (j + 2) ((j : Int) + 2) (by omega) (by omega)
                      have HOR : Hid (bits BinOp.or IntKind.u8 (valI (bt s (j + 1)) * 16 % 256) (valI (bt s (j + 2))) = ((byteOf ((by_ s).getD (j + 1) 0) ((by_ s).getD (j + 2) 0)).toNat : Int)) := or_byte q2 q3
                      clear hb1 hb2
                      go_wp2_with fail
                      refine escapeAt_any s j hs hjl _ _ (Hid.intro ?_)
                      rw [d3]
                      go_wp2_with fail
                      go_region_held3 (fun _ => True) (trivial) ((go_at_call 13; refine unhex_any _ (by first | exact q2 | exact q3) _ _ (Hid.intro ?_)))
                      all_goals go_wp2_with fail
                      all_goals
                        rw [HOR.out]
                        refine (Builder_WriteByte w.heap.size w.heap.size (Lib.byteCells l) _ wr.drew (Or.inr HBW.out.drew) (by rw [Lib.byteCells_length]; omega) hzr).mono ?_
                        rintro e w3 ⟨rfl, hbu3, e3⟩
                        have HB3 : Hid (Lib.BuilderAt 31 5 w.heap.size w.heap.size (.pointer (some ⟨w.heap.size, 0, none⟩)) (Lib.byteCells (l ++ [byteOf ((by_ s).getD (j + 1) 0) ((by_ s).getD (j + 2) 0)])) w3) := by rw [Lib.byteCells_append]; exact hbu3
                        clear hbu3
                        go_wp2_with fail
                        go_roundw
                        case rel => exact ⟨j + 3, l ++ [byteOf ((by_ s).getD (j + 1) 0) ((by_ s).getD (j + 2) 0)], by omega, by go_num, by simp; omega, HB3.out, hbe.drew.trans e3, by rw [HDD.out, HQ4.out, List.append_assoc]; rfl⟩
                        case measure => simp [intOf]; omega
                    | false =>
                      go_wp2_with fail
                      refine escapeAt_any s j hs hjl _ _ (Hid.intro ?_)
                      rw [d3]
                      go_wp2_with fail
                      refine (Builder_WriteByte w.heap.size w.heap.size (Lib.byteCells l) 37 wr (Or.inr HBW.out) (by rw [Lib.byteCells_length]; omega) hzr).mono ?_
                      rintro e w3 ⟨rfl, hbu3, e3⟩
                      have HB3 : Hid (Lib.BuilderAt 31 5 w.heap.size w.heap.size (.pointer (some ⟨w.heap.size, 0, none⟩)) (Lib.byteCells (l ++ [(by_ s).getD j 0])) w3) := by
                        rw [Lib.byteCells_append]
                        have e : Lib.byteCells [(by_ s).getD j 0] = [.int .u8 37] := by show [Value.int .u8 (bt s j)] = _; rw [d2]
                        rw [e]; exact hbu3
                      clear hbu3
                      go_wp2_with fail
                      go_roundw
                      case rel => exact ⟨j + 1, l ++ [(by_ s).getD j 0], by omega, by go_num, by simp; omega, HB3.out, hbe.trans e3, by rw [HDD.out, step_plain hjl d1 (fun h => by rw [d3] at h; cases h.2), List.append_assoc]; rfl⟩
                      case measure => simp [intOf]; omega
                  · go_wp2_with fail
                    refine (Builder_WriteByte w.heap.size w.heap.size (Lib.byteCells l) (bt s j) wr (Or.inr HBW.out) (by rw [Lib.byteCells_length]; omega) hzr).mono ?_
                    rintro e w3 ⟨rfl, hbu3, e3⟩
                    have HB3 : Hid (Lib.BuilderAt 31 5 w.heap.size w.heap.size (.pointer (some ⟨w.heap.size, 0, none⟩)) (Lib.byteCells (l ++ [(by_ s).getD j 0])) w3) := by rw [Lib.byteCells_append]; exact hbu3
                    clear hbu3
                    go_wp2_with fail
                    go_roundw
                    case rel => exact ⟨j + 1, l ++ [(by_ s).getD j 0], by omega, by go_num, by simp; omega, HB3.out, hbe.trans e3, by rw [HDD.out, step_plain hjl d1 (fun h => d2 h.1), List.append_assoc]; rfl⟩
                    case measure => simp [intOf]; omega
              · obtain rfl : j = s.size := by omega
                have HE : Hid (decB s = ⟨l.toArray⟩) := by
                  have h := HDD.out
                  rw [List.drop_of_length_le (by rw [by_length]; exact Nat.le_refl _), dec, List.append_nil] at h
                  show (⟨(dec (by_ s)).toArray⟩ : ByteArray) = _
                  rw [h]
                go_wp2_with fail
                refine (Builder_String_any w.heap.size w.heap.size l wr (Or.inr HBW.out) hzr).mono ?_
                rintro e w3 ⟨rfl, e3⟩
                go_wp2_with fail
                have hq := hQ.out w3 (hbe.trans e3)
                rw [HE.out] at hq
                exact hq
          | false =>
            have HST : Hid (dec (by_ s) = (by_ s).take (k + 1) ++ dec ((by_ s).drop (k + 1))) := by
              show dec (by_ s) = _
              rw [HD.out, step_plain hlt c1 (fun h => by rw [c3] at h; cases h.2), take_step s hlt, List.append_assoc]; rfl
            go_wp2_with fail
            refine escapeAt_any s k hs hlt _ _ (Hid.intro ?_)
            rw [c3]
            go_wp2_with fail
            go_round
            case rel => exact ⟨k + 1, by omega, by go_num, HST.out⟩
            case measure => simp [intOf]; omega
        · have HST : Hid (dec (by_ s) = (by_ s).take (k + 1) ++ dec ((by_ s).drop (k + 1))) := by
            show dec (by_ s) = _
            rw [HD.out, step_plain hlt c1 (fun h => c2 h.1), take_step s hlt, List.append_assoc]; rfl
          go_wp2_with fail
          go_round
          case rel => exact ⟨k + 1, by omega, by go_num, HST.out⟩
          case measure => simp [intOf]; omega
    · obtain rfl : k = s.size := by omega
      have HE : Hid (s = decB s) := by
        have h := HD.out
        rw [List.take_of_length_le (by rw [by_length]; exact Nat.le_refl _), List.drop_of_length_le (by rw [by_length]; exact Nat.le_refl _)] at h
        show s = ⟨(dec (by_ s)).toArray⟩
        rw [h]
        simp [dec, by_]
      go_wp2_with fail
      have hq := hQ.out w (Below.refl _ _)
      rw [← HE.out] at hq
      exact hq
end Go.Proofs.Qxb6629145a
