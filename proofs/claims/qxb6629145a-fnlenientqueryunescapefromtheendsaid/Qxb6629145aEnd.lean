/-
  The contract of zzDecodeFromTheEnd: it computes 'dec' too.
-/
import Derived.Test.Qxb6629145aSplit
import Derived.Deep.AppendLies
import Derived.Deep.OwnRows
namespace Go.Proofs.Qxb6629145a
open Go.ChangeShapes Go.WideShapes Go.ChangeAt Go.RowKit

theorem Try.info5 : (Try.prog.info? 5).map (fun i => (i.zero, i.size, i.bytes)) = some (some (.int .u8 0), 1, 1) := by kernel_rfl

/-! ### The plain steps, from the end -/
theorem take3 (s : ByteArray) {i : Nat} (h : i + 2 < s.size) : (by_ s).take (i + 3) = (by_ s).take i ++ [(by_ s).getD i 0, (by_ s).getD (i + 1) 0, (by_ s).getD (i + 2) 0] := by
  rw [take_step s h, take_step s (show i + 1 < s.size by omega), take_step s (show i < s.size by omega)]
  simp

theorem end_esc {s : ByteArray} {i : Nat} (h : i + 2 < s.size) (h0 : bt s i = 37) (h1 : hexI (bt s (i + 1)) = true) (h2 : hexI (bt s (i + 2)) = true) :
    dec ((by_ s).take (i + 3)) = dec ((by_ s).take i) ++ [byteOf ((by_ s).getD (i + 1) 0) ((by_ s).getD (i + 2) 0)] := by
  rw [take3 s h]
  rw [bt_by] at h0
  rw [u8_eq_of_int (n := 37) h0 (by omega)]
  exact dec_end_esc _ h1 h2

theorem ends_iff {s : ByteArray} {j : Nat} (hj : j < s.size) (h : ends ((by_ s).take (j + 1))) : ∃ i, j = i + 2 ∧ bt s i = 37 ∧ hexI (bt s (i + 1)) = true ∧ hexI (bt s (i + 2)) = true := by
  obtain ⟨p, a, b, e, ha, hb⟩ := h
  have hl := congrArg List.length e
  simp [by_length] at hl
  obtain ⟨i, rfl⟩ : ∃ i, j = i + 2 := ⟨j - 2, by omega⟩
  rw [show i + 2 + 1 = i + 3 from rfl, take3 s hj] at e
  have e2 := List.append_inj_right' e rfl
  simp only [List.cons.injEq, and_true] at e2
  obtain ⟨e0, e1, e2⟩ := e2
  exact ⟨i, rfl, by rw [bt_by, e0]; rfl, by rw [bt_by, e1]; exact ha, by rw [bt_by, e2]; exact hb⟩

theorem end_plain {s : ByteArray} {j : Nat} (hj : j < s.size) (h : ∀ i, j = i + 2 → ¬ (bt s i = 37 ∧ hexI (bt s (i + 1)) = true ∧ hexI (bt s (i + 2)) = true)) :
    dec ((by_ s).take (j + 1)) = dec ((by_ s).take j) ++ [plainB ((by_ s).getD j 0)] := by
  rw [take_step s hj]
  refine dec_end_plain _ _ _ (Nat.le_refl _) ?_
  rw [← take_step s hj]
  intro he
  obtain ⟨i, e, h1⟩ := ends_iff hj he
  exact h i e h1

/-- the byte that a plain byte stands for, over Int -/
def plainI (c : Int) : Int := if c = 43 then 32 else c
theorem plainB_toNat (c : UInt8) : ((plainB c).toNat : Int) = plainI c.toNat := by
  unfold plainB plainI
  by_cases h : c = 43
  · subst h; rfl
  · rw [if_neg h, if_neg]
    intro e
    exact h (u8_eq_of_int (n := 43) e (by omega))

/-! ### Rows -/
theorem ownsRow_cell {w : World} {B g n cap : Nat} {e : TypeId} {xs : List Value} (h : w.ownsRow B e 1 (.slice (some ⟨g, 0, none⟩) n cap) n xs) {i : Nat} {v : Value} (hv : xs[i]? = some v) : w.cell? ⟨g, i, none⟩ = some v := by
  obtain ⟨hl, h⟩ := h
  rcases h with ⟨h, _⟩ | ⟨g', cap', cur, h, _, hg, _, _, _, ht⟩
  · cases h
  · cases h
    rw [cell_of_row w g i cur e (0, 0) hg]
    have hi : i < n * 1 := by
      have := (List.getElem?_eq_some_iff.1 hv).1
      omega
    rw [← ht, List.getElem?_take_of_lt hi] at hv
    simpa using hv

/-- byte i of the list turned round -/
def rb (l : List UInt8) (i : Nat) : Int := (l.reverse.getD i 0).toNat
theorem int_eq {a b : Int} (h : a = b) : Value.int .i64 a = .int .i64 b := by rw [h]
theorem own_next {w1 : World} {B g cap : Nat} {l : List UInt8} {x : UInt8} {c : Int} (h : w1.ownsRow B 5 1 (.slice (some ⟨g, 0, none⟩) (l.length + 1) cap) (l.length + 1) (Lib.byteCells l ++ [.int .u8 c])) (hc : c = (x.toNat : Int)) :
    w1.ownsRow B 5 1 (.slice (some ⟨g, 0, none⟩) (l ++ [x]).length cap) (l ++ [x]).length (Lib.byteCells (l ++ [x])) := by
  have e : (l ++ [x]).length = l.length + 1 := by simp
  rw [e, Lib.byteCells_append]
  subst hc
  exact h
theorem own_base {w1 : World} {B g n cap : Nat} {e : TypeId} {xs : List Value} (h : w1.ownsRow B e 1 (.slice (some ⟨g, 0, none⟩) n cap) n xs) : B ≤ g := by
  rcases h.2 with ⟨h, _⟩ | ⟨g', cap', cur, h, hb, _⟩
  · cases h
  · cases h; exact hb

def Row (wr : World) (B n k : Nat) (g : Nat → Value) : Prop :=
  (∀ j, j < n → ∃ v, wr.cell? ⟨B, j, none⟩ = some v) ∧ (∀ j, j < k → wr.cell? ⟨B, j, none⟩ = some (g j)) ∧ ∀ j, wr.frozen? ⟨B, j, none⟩ = false

theorem Row.made (w : World) (M : Array Value) (t : TypeId) (g : Nat → Value) : Row (w.alloc (.cells M t)) w.heap.size M.size 0 g :=
  ⟨fun j hj => ⟨M[j], by rw [World.cell?_alloc_new]; simp [hj]⟩, fun j hj => by omega, fun j => World.frozen?_alloc_new w M t j⟩

theorem Row.store {wr : World} {B n k : Nat} {g : Nat → Value} (h : Row wr B n k g) (hk : k < n) : Row (wr.setCell ⟨B, k, none⟩ (g k)) B n (k + 1) g := by
  obtain ⟨h1, h2, h3⟩ := h
  have same : (wr.setCell ⟨B, k, none⟩ (g k)).cell? ⟨B, k, none⟩ = some (g k) := by
    obtain ⟨v, hv⟩ := h1 k hk
    exact World.cell?_setCell_same wr _ _ hv
  have other : ∀ j, j ≠ k → (wr.setCell ⟨B, k, none⟩ (g k)).cell? ⟨B, j, none⟩ = wr.cell? ⟨B, j, none⟩ := fun j hj =>
    World.cell?_setCell_other wr ⟨B, k, none⟩ ⟨B, j, none⟩ (g k) (fun e => hj (by cases e; rfl))
  refine ⟨fun j hj => ?_, fun j hj => ?_, fun j => by rw [World.frozen?_setCell]; exact h3 j⟩
  · by_cases e : j = k
    · subst e; exact ⟨_, same⟩
    · rw [other j e]; exact h1 j hj
  · by_cases e : j = k
    · subst e; exact same
    · rw [other j e]; exact h2 j (by omega)

set_option maxRecDepth 100000 in
set_option maxHeartbeats 1000000 in
theorem fromEnd_any (s : ByteArray) (hs : s.size ≤ 4000000) (w : World) (Q : Ending → World → Prop) (hQ : Hid (∀ w', Below w.heap.size w w' → Q (.returned (.string (decB s))) w')) : Calls Try.prog 7 #[.string s] w Q := by
  obtain ⟨i0, hi0, hz0, hz1, hz2⟩ := info_parts Try.info5
  go_enter Try.func7, Try.ntmps7
  go_wp2_with (at_make; refine wpList_make_own _ rfl _ _ 27 rfl w.heap.size 5 i0 (.int .u8 0) 1 Try.underlying27 hi0 hz0 hz1 .i64 .i64 _ s.size rfl rfl rfl (by rw [hz2]; omega) (by unfold maxLen; omega) (Nat.le_refl _) ?_; intro w1 hown1 hgrow1)
  go_loopw [4, 5, 6, 7, 8] (fun rv jv _ _ _ wr => ∃ (j : Nat) (l : List UInt8) (g cap : Nat), l.length + j ≤ s.size ∧ jv = .int .i64 j ∧ rv = .slice (some ⟨g, 0, none⟩) l.length cap ∧ wr.ownsRow w.heap.size 5 1 (.slice (some ⟨g, 0, none⟩) l.length cap) l.length (Lib.byteCells l) ∧ g < wr.heap.size ∧ w.heap.size ≤ g ∧ Below w.heap.size w wr ∧ dec (by_ s) = dec ((by_ s).take j) ++ l.reverse) (fun _ jv _ _ _ _ => (intOf jv).toNat)
  case atStart =>
    refine ⟨s.size, [], w.heap.size, s.size, by simp, rfl, rfl, hown1, ?_, Nat.le_refl _, (Below.refl _ _).grown hgrow1 (Nat.le_refl _) (fun k hk => by cases hk), ?_⟩
    · rcases hown1.2 with ⟨h, _⟩ | ⟨g, cap, cur, h, _, hg, _⟩
      · cases h
      · cases h; exact (Array.getElem?_eq_some_iff.1 hg).1
    · rw [List.take_of_length_le (by rw [by_length]; exact Nat.le_refl _)]; simp
  case round =>
    obtain ⟨j, l, g, cap, hlj, rfl, rfl, hown, hg, hgw, hb, hd⟩ := hrel
    have HO : Hid (wr.ownsRow w.heap.size 5 1 (.slice (some ⟨g, 0, none⟩) l.length cap) l.length (Lib.byteCells l)) := hown
    have HD : Hid (dec (by_ s) = dec ((by_ s).take j) ++ l.reverse) := hd
    clear hown hd hown1 hgrow1
    by_cases hj : 0 < j
    · by_cases h3 : 3 ≤ j
      · obtain ⟨i, rfl⟩ : ∃ i, j = i + 3 := ⟨j - 3, by omega⟩
        have hb0 := bt_get s i (by omega)
        have hb1 := bt_get s (i + 1) (by omega)
        have hb2 := bt_get s (i + 2) (by omega)
        have r1 := bt_range s (i + 1)
        have r2 := bt_range s (i + 2)
        by_cases c0 : bt s i = 37
        · cases c1 : hexI (bt s (i + 1)) with
          | true =>
            have v1 := valI_range c1
            cases c2 : hexI (bt s (i + 2)) with
            | true =>
              have v2 := valI_range c2
              have HST : Hid (dec ((by_ s).take (i + 3)) = dec ((by_ s).take i) ++ [byteOf ((by_ s).getD (i + 1) 0) ((by_ s).getD (i + 2) 0)]) := end_esc (by omega) c0 c1 c2
              go_wp2_with fail
              refine hexVal_any (bt s (i + 1)) r1.1 r1.2 _ _ (Hid.intro ?_)
              rw [hvI_pos c1]
              go_wp2_with fail
              refine hexVal_any (bt s (i + 2)) r2.1 r2.2 _ _ (Hid.intro ?_)
              rw [hvI_pos c2]
              go_wp2_with (at_builtin; refine wpList_append_lies _ rfl _ _ 27 rfl w.heap.size 5 i0 (.int .u8 0) 1 1 Try.underlying27 hi0 hz0 hz1 hz2 rfl (by omega) _ l.length (Lib.byteCells l) rfl (by exact HO.out.alloc _) ⟨wr.heap.size, 0, none⟩ 1 1 [.int .u8 (valI (bt s (i + 1)) * 16 + valI (bt s (i + 2)))] rfl rfl (by exact cell_one_new _ _ _) (by exact ints_oneCell .u8 [valI (bt s (i + 1)) * 16 + valI (bt s (i + 2))]) (by omega) (by unfold maxLen; omega) (by omega) (by simp; omega) (wr.heap.size + 1) (by simp) ?_; intro g2 cap2 w2 hown2 hgrow2 hat2 hlt2)
              have HO2 : Hid (w2.ownsRow w.heap.size 5 1 (.slice (some ⟨g2, 0, none⟩) (l ++ [byteOf ((by_ s).getD (i + 1) 0) ((by_ s).getD (i + 2) 0)]).length cap2) (l ++ [byteOf ((by_ s).getD (i + 1) 0) ((by_ s).getD (i + 2) 0)]).length (Lib.byteCells (l ++ [byteOf ((by_ s).getD (i + 1) 0) ((by_ s).getD (i + 2) 0)]))) := own_next hown2 (byteOf_toNat (a := (by_ s).getD (i + 1) 0) (b := (by_ s).getD (i + 2) 0) c1 c2).symm
              have hg2 : w.heap.size ≤ g2 := own_base hown2
              have hb2' : Below w.heap.size w w2 := (hb.alloc hb.size _).grown hgrow2 (by have := hb.size; simp; omega) (fun k hk => by cases hk; exact hgw)
              clear hown2 hgrow2 hat2
              go_wp2_with fail
              go_roundw
              case rel => exact ⟨i, l ++ [byteOf ((by_ s).getD (i + 1) 0) ((by_ s).getD (i + 2) 0)], g2, cap2, by simp; omega, int_eq (by omega), by simp, HO2.out, hlt2, hg2, hb2', by rw [HD.out, HST.out]; simp⟩
              case measure => first | (simp [intOf]; done) | (simp [intOf]; omega)
            | false =>
              have HST : Hid (dec ((by_ s).take (i + 2 + 1)) = dec ((by_ s).take (i + 2)) ++ [plainB ((by_ s).getD (i + 2) 0)]) := end_plain (by omega) (fun q hq hh => by (obtain rfl : q = i := by omega); rw [c2] at hh; cases hh.2.2)
              go_wp2_with fail
              refine hexVal_any (bt s (i + 1)) r1.1 r1.2 _ _ (Hid.intro ?_)
              rw [hvI_pos c1]
              go_wp2_with fail
              refine hexVal_any (bt s (i + 2)) r2.1 r2.2 _ _ (Hid.intro ?_)
              rw [hvI_neg c2]
              by_cases cp : bt s (i + 2) = 43
              · skip
                go_wp2_with (at_builtin; refine wpList_append_lies _ rfl _ _ 27 rfl w.heap.size 5 i0 (.int .u8 0) 1 1 Try.underlying27 hi0 hz0 hz1 hz2 rfl (by omega) _ l.length (Lib.byteCells l) rfl (by exact HO.out.alloc _) ⟨wr.heap.size, 0, none⟩ 1 1 [.int .u8 (32)] rfl rfl (by exact cell_one_new _ _ _) (by exact ints_oneCell .u8 [32]) (by omega) (by unfold maxLen; omega) (by omega) (by simp; omega) (wr.heap.size + 1) (by simp) ?_; intro g2 cap2 w2 hown2 hgrow2 hat2 hlt2)
                have HO2 : Hid (w2.ownsRow w.heap.size 5 1 (.slice (some ⟨g2, 0, none⟩) (l ++ [plainB ((by_ s).getD (i + 2) 0)]).length cap2) (l ++ [plainB ((by_ s).getD (i + 2) 0)]).length (Lib.byteCells (l ++ [plainB ((by_ s).getD (i + 2) 0)]))) := own_next hown2 (by rw [plainB_toNat]; show (32 : Int) = plainI (bt s (i + 2)); unfold plainI; rw [if_pos cp])
                have hg2 : w.heap.size ≤ g2 := own_base hown2
                have hb2' : Below w.heap.size w w2 := (hb.alloc hb.size _).grown hgrow2 (by have := hb.size; simp; omega) (fun k hk => by cases hk; exact hgw)
                clear hown2 hgrow2 hat2
                go_wp2_with fail
                go_roundw
                case rel => exact ⟨i + 2, l ++ [plainB ((by_ s).getD (i + 2) 0)], g2, cap2, by simp; omega, int_eq (by omega), by simp, HO2.out, hlt2, hg2, hb2', by rw [HD.out, HST.out]; simp⟩
                case measure => first | (simp [intOf]; done) | (simp [intOf]; omega)
              · skip
                go_wp2_with (at_builtin; refine wpList_append_lies _ rfl _ _ 27 rfl w.heap.size 5 i0 (.int .u8 0) 1 1 Try.underlying27 hi0 hz0 hz1 hz2 rfl (by omega) _ l.length (Lib.byteCells l) rfl (by exact HO.out.alloc _) ⟨wr.heap.size, 0, none⟩ 1 1 [.int .u8 (bt s (i + 2))] rfl rfl (by exact cell_one_new _ _ _) (by exact ints_oneCell .u8 [bt s (i + 2)]) (by omega) (by unfold maxLen; omega) (by omega) (by simp; omega) (wr.heap.size + 1) (by simp) ?_; intro g2 cap2 w2 hown2 hgrow2 hat2 hlt2)
                have HO2 : Hid (w2.ownsRow w.heap.size 5 1 (.slice (some ⟨g2, 0, none⟩) (l ++ [plainB ((by_ s).getD (i + 2) 0)]).length cap2) (l ++ [plainB ((by_ s).getD (i + 2) 0)]).length (Lib.byteCells (l ++ [plainB ((by_ s).getD (i + 2) 0)]))) := own_next hown2 (by rw [plainB_toNat]; show bt s (i + 2) = plainI (bt s (i + 2)); unfold plainI; rw [if_neg cp])
                have hg2 : w.heap.size ≤ g2 := own_base hown2
                have hb2' : Below w.heap.size w w2 := (hb.alloc hb.size _).grown hgrow2 (by have := hb.size; simp; omega) (fun k hk => by cases hk; exact hgw)
                clear hown2 hgrow2 hat2
                go_wp2_with fail
                go_roundw
                case rel => exact ⟨i + 2, l ++ [plainB ((by_ s).getD (i + 2) 0)], g2, cap2, by simp; omega, int_eq (by omega), by simp, HO2.out, hlt2, hg2, hb2', by rw [HD.out, HST.out]; simp⟩
                case measure => first | (simp [intOf]; done) | (simp [intOf]; omega)
          | false =>
            cases c2 : hexI (bt s (i + 2)) with
            | true =>
              have v2 := valI_range c2
              have HST : Hid (dec ((by_ s).take (i + 2 + 1)) = dec ((by_ s).take (i + 2)) ++ [plainB ((by_ s).getD (i + 2) 0)]) := end_plain (by omega) (fun q hq hh => by (obtain rfl : q = i := by omega); rw [c1] at hh; cases hh.2.1)
              go_wp2_with fail
              refine hexVal_any (bt s (i + 1)) r1.1 r1.2 _ _ (Hid.intro ?_)
              rw [hvI_neg c1]
              go_wp2_with fail
              refine hexVal_any (bt s (i + 2)) r2.1 r2.2 _ _ (Hid.intro ?_)
              rw [hvI_pos c2]
              by_cases cp : bt s (i + 2) = 43
              · skip
                go_wp2_with (at_builtin; refine wpList_append_lies _ rfl _ _ 27 rfl w.heap.size 5 i0 (.int .u8 0) 1 1 Try.underlying27 hi0 hz0 hz1 hz2 rfl (by omega) _ l.length (Lib.byteCells l) rfl (by exact HO.out.alloc _) ⟨wr.heap.size, 0, none⟩ 1 1 [.int .u8 (32)] rfl rfl (by exact cell_one_new _ _ _) (by exact ints_oneCell .u8 [32]) (by omega) (by unfold maxLen; omega) (by omega) (by simp; omega) (wr.heap.size + 1) (by simp) ?_; intro g2 cap2 w2 hown2 hgrow2 hat2 hlt2)
                have HO2 : Hid (w2.ownsRow w.heap.size 5 1 (.slice (some ⟨g2, 0, none⟩) (l ++ [plainB ((by_ s).getD (i + 2) 0)]).length cap2) (l ++ [plainB ((by_ s).getD (i + 2) 0)]).length (Lib.byteCells (l ++ [plainB ((by_ s).getD (i + 2) 0)]))) := own_next hown2 (by rw [plainB_toNat]; show (32 : Int) = plainI (bt s (i + 2)); unfold plainI; rw [if_pos cp])
                have hg2 : w.heap.size ≤ g2 := own_base hown2
                have hb2' : Below w.heap.size w w2 := (hb.alloc hb.size _).grown hgrow2 (by have := hb.size; simp; omega) (fun k hk => by cases hk; exact hgw)
                clear hown2 hgrow2 hat2
                go_wp2_with fail
                go_roundw
                case rel => exact ⟨i + 2, l ++ [plainB ((by_ s).getD (i + 2) 0)], g2, cap2, by simp; omega, int_eq (by omega), by simp, HO2.out, hlt2, hg2, hb2', by rw [HD.out, HST.out]; simp⟩
                case measure => first | (simp [intOf]; done) | (simp [intOf]; omega)
              · skip
                go_wp2_with (at_builtin; refine wpList_append_lies _ rfl _ _ 27 rfl w.heap.size 5 i0 (.int .u8 0) 1 1 Try.underlying27 hi0 hz0 hz1 hz2 rfl (by omega) _ l.length (Lib.byteCells l) rfl (by exact HO.out.alloc _) ⟨wr.heap.size, 0, none⟩ 1 1 [.int .u8 (bt s (i + 2))] rfl rfl (by exact cell_one_new _ _ _) (by exact ints_oneCell .u8 [bt s (i + 2)]) (by omega) (by unfold maxLen; omega) (by omega) (by simp; omega) (wr.heap.size + 1) (by simp) ?_; intro g2 cap2 w2 hown2 hgrow2 hat2 hlt2)
                have HO2 : Hid (w2.ownsRow w.heap.size 5 1 (.slice (some ⟨g2, 0, none⟩) (l ++ [plainB ((by_ s).getD (i + 2) 0)]).length cap2) (l ++ [plainB ((by_ s).getD (i + 2) 0)]).length (Lib.byteCells (l ++ [plainB ((by_ s).getD (i + 2) 0)]))) := own_next hown2 (by rw [plainB_toNat]; show bt s (i + 2) = plainI (bt s (i + 2)); unfold plainI; rw [if_neg cp])
                have hg2 : w.heap.size ≤ g2 := own_base hown2
                have hb2' : Below w.heap.size w w2 := (hb.alloc hb.size _).grown hgrow2 (by have := hb.size; simp; omega) (fun k hk => by cases hk; exact hgw)
                clear hown2 hgrow2 hat2
                go_wp2_with fail
                go_roundw
                case rel => exact ⟨i + 2, l ++ [plainB ((by_ s).getD (i + 2) 0)], g2, cap2, by simp; omega, int_eq (by omega), by simp, HO2.out, hlt2, hg2, hb2', by rw [HD.out, HST.out]; simp⟩
                case measure => first | (simp [intOf]; done) | (simp [intOf]; omega)
            | false =>
              have HST : Hid (dec ((by_ s).take (i + 2 + 1)) = dec ((by_ s).take (i + 2)) ++ [plainB ((by_ s).getD (i + 2) 0)]) := end_plain (by omega) (fun q hq hh => by (obtain rfl : q = i := by omega); rw [c1] at hh; cases hh.2.1)
              go_wp2_with fail
              refine hexVal_any (bt s (i + 1)) r1.1 r1.2 _ _ (Hid.intro ?_)
              rw [hvI_neg c1]
              go_wp2_with fail
              refine hexVal_any (bt s (i + 2)) r2.1 r2.2 _ _ (Hid.intro ?_)
              rw [hvI_neg c2]
              by_cases cp : bt s (i + 2) = 43
              · skip
                go_wp2_with (at_builtin; refine wpList_append_lies _ rfl _ _ 27 rfl w.heap.size 5 i0 (.int .u8 0) 1 1 Try.underlying27 hi0 hz0 hz1 hz2 rfl (by omega) _ l.length (Lib.byteCells l) rfl (by exact HO.out.alloc _) ⟨wr.heap.size, 0, none⟩ 1 1 [.int .u8 (32)] rfl rfl (by exact cell_one_new _ _ _) (by exact ints_oneCell .u8 [32]) (by omega) (by unfold maxLen; omega) (by omega) (by simp; omega) (wr.heap.size + 1) (by simp) ?_; intro g2 cap2 w2 hown2 hgrow2 hat2 hlt2)
                have HO2 : Hid (w2.ownsRow w.heap.size 5 1 (.slice (some ⟨g2, 0, none⟩) (l ++ [plainB ((by_ s).getD (i + 2) 0)]).length cap2) (l ++ [plainB ((by_ s).getD (i + 2) 0)]).length (Lib.byteCells (l ++ [plainB ((by_ s).getD (i + 2) 0)]))) := own_next hown2 (by rw [plainB_toNat]; show (32 : Int) = plainI (bt s (i + 2)); unfold plainI; rw [if_pos cp])
                have hg2 : w.heap.size ≤ g2 := own_base hown2
                have hb2' : Below w.heap.size w w2 := (hb.alloc hb.size _).grown hgrow2 (by have := hb.size; simp; omega) (fun k hk => by cases hk; exact hgw)
                clear hown2 hgrow2 hat2
                go_wp2_with fail
                go_roundw
                case rel => exact ⟨i + 2, l ++ [plainB ((by_ s).getD (i + 2) 0)], g2, cap2, by simp; omega, int_eq (by omega), by simp, HO2.out, hlt2, hg2, hb2', by rw [HD.out, HST.out]; simp⟩
                case measure => first | (simp [intOf]; done) | (simp [intOf]; omega)
              · skip
                go_wp2_with (at_builtin; refine wpList_append_lies _ rfl _ _ 27 rfl w.heap.size 5 i0 (.int .u8 0) 1 1 Try.underlying27 hi0 hz0 hz1 hz2 rfl (by omega) _ l.length (Lib.byteCells l) rfl (by exact HO.out.alloc _) ⟨wr.heap.size, 0, none⟩ 1 1 [.int .u8 (bt s (i + 2))] rfl rfl (by exact cell_one_new _ _ _) (by exact ints_oneCell .u8 [bt s (i + 2)]) (by omega) (by unfold maxLen; omega) (by omega) (by simp; omega) (wr.heap.size + 1) (by simp) ?_; intro g2 cap2 w2 hown2 hgrow2 hat2 hlt2)
                have HO2 : Hid (w2.ownsRow w.heap.size 5 1 (.slice (some ⟨g2, 0, none⟩) (l ++ [plainB ((by_ s).getD (i + 2) 0)]).length cap2) (l ++ [plainB ((by_ s).getD (i + 2) 0)]).length (Lib.byteCells (l ++ [plainB ((by_ s).getD (i + 2) 0)]))) := own_next hown2 (by rw [plainB_toNat]; show bt s (i + 2) = plainI (bt s (i + 2)); unfold plainI; rw [if_neg cp])
                have hg2 : w.heap.size ≤ g2 := own_base hown2
                have hb2' : Below w.heap.size w w2 := (hb.alloc hb.size _).grown hgrow2 (by have := hb.size; simp; omega) (fun k hk => by cases hk; exact hgw)
                clear hown2 hgrow2 hat2
                go_wp2_with fail
                go_roundw
                case rel => exact ⟨i + 2, l ++ [plainB ((by_ s).getD (i + 2) 0)], g2, cap2, by simp; omega, int_eq (by omega), by simp, HO2.out, hlt2, hg2, hb2', by rw [HD.out, HST.out]; simp⟩
                case measure => first | (simp [intOf]; done) | (simp [intOf]; omega)
        · skip
          have HST : Hid (dec ((by_ s).take (i + 2 + 1)) = dec ((by_ s).take (i + 2)) ++ [plainB ((by_ s).getD (i + 2) 0)]) := end_plain (by omega) (fun q hq hh => by (obtain rfl : q = i := by omega); exact c0 hh.1)
          by_cases cp : bt s (i + 2) = 43
          · skip
            go_wp2_with (at_builtin; refine wpList_append_lies _ rfl _ _ 27 rfl w.heap.size 5 i0 (.int .u8 0) 1 1 Try.underlying27 hi0 hz0 hz1 hz2 rfl (by omega) _ l.length (Lib.byteCells l) rfl (by exact HO.out.alloc _) ⟨wr.heap.size, 0, none⟩ 1 1 [.int .u8 (32)] rfl rfl (by exact cell_one_new _ _ _) (by exact ints_oneCell .u8 [32]) (by omega) (by unfold maxLen; omega) (by omega) (by simp; omega) (wr.heap.size + 1) (by simp) ?_; intro g2 cap2 w2 hown2 hgrow2 hat2 hlt2)
            have HO2 : Hid (w2.ownsRow w.heap.size 5 1 (.slice (some ⟨g2, 0, none⟩) (l ++ [plainB ((by_ s).getD (i + 2) 0)]).length cap2) (l ++ [plainB ((by_ s).getD (i + 2) 0)]).length (Lib.byteCells (l ++ [plainB ((by_ s).getD (i + 2) 0)]))) := own_next hown2 (by rw [plainB_toNat]; show (32 : Int) = plainI (bt s (i + 2)); unfold plainI; rw [if_pos cp])
            have hg2 : w.heap.size ≤ g2 := own_base hown2
            have hb2' : Below w.heap.size w w2 := (hb.alloc hb.size _).grown hgrow2 (by have := hb.size; simp; omega) (fun k hk => by cases hk; exact hgw)
            clear hown2 hgrow2 hat2
            go_wp2_with fail
            go_roundw
            case rel => exact ⟨i + 2, l ++ [plainB ((by_ s).getD (i + 2) 0)], g2, cap2, by simp; omega, int_eq (by omega), by simp, HO2.out, hlt2, hg2, hb2', by rw [HD.out, HST.out]; simp⟩
            case measure => first | (simp [intOf]; done) | (simp [intOf]; omega)
          · skip
            go_wp2_with (at_builtin; refine wpList_append_lies _ rfl _ _ 27 rfl w.heap.size 5 i0 (.int .u8 0) 1 1 Try.underlying27 hi0 hz0 hz1 hz2 rfl (by omega) _ l.length (Lib.byteCells l) rfl (by exact HO.out.alloc _) ⟨wr.heap.size, 0, none⟩ 1 1 [.int .u8 (bt s (i + 2))] rfl rfl (by exact cell_one_new _ _ _) (by exact ints_oneCell .u8 [bt s (i + 2)]) (by omega) (by unfold maxLen; omega) (by omega) (by simp; omega) (wr.heap.size + 1) (by simp) ?_; intro g2 cap2 w2 hown2 hgrow2 hat2 hlt2)
            have HO2 : Hid (w2.ownsRow w.heap.size 5 1 (.slice (some ⟨g2, 0, none⟩) (l ++ [plainB ((by_ s).getD (i + 2) 0)]).length cap2) (l ++ [plainB ((by_ s).getD (i + 2) 0)]).length (Lib.byteCells (l ++ [plainB ((by_ s).getD (i + 2) 0)]))) := own_next hown2 (by rw [plainB_toNat]; show bt s (i + 2) = plainI (bt s (i + 2)); unfold plainI; rw [if_neg cp])
            have hg2 : w.heap.size ≤ g2 := own_base hown2
            have hb2' : Below w.heap.size w w2 := (hb.alloc hb.size _).grown hgrow2 (by have := hb.size; simp; omega) (fun k hk => by cases hk; exact hgw)
            clear hown2 hgrow2 hat2
            go_wp2_with fail
            go_roundw
            case rel => exact ⟨i + 2, l ++ [plainB ((by_ s).getD (i + 2) 0)], g2, cap2, by simp; omega, int_eq (by omega), by simp, HO2.out, hlt2, hg2, hb2', by rw [HD.out, HST.out]; simp⟩
            case measure => first | (simp [intOf]; done) | (simp [intOf]; omega)
      · obtain ⟨i, rfl⟩ : ∃ i, j = i + 1 := ⟨j - 1, by omega⟩
        have hb2 := bt_get s i (by omega)
        have r2 := bt_range s i
        have HST : Hid (dec ((by_ s).take (i + 1)) = dec ((by_ s).take (i)) ++ [plainB ((by_ s).getD (i) 0)]) := end_plain (by omega) (fun q hq hh => by omega)
        by_cases cp : bt s (i) = 43
        · skip
          go_wp2_with (at_builtin; refine wpList_append_lies _ rfl _ _ 27 rfl w.heap.size 5 i0 (.int .u8 0) 1 1 Try.underlying27 hi0 hz0 hz1 hz2 rfl (by omega) _ l.length (Lib.byteCells l) rfl (by exact HO.out.alloc _) ⟨wr.heap.size, 0, none⟩ 1 1 [.int .u8 (32)] rfl rfl (by exact cell_one_new _ _ _) (by exact ints_oneCell .u8 [32]) (by omega) (by unfold maxLen; omega) (by omega) (by simp; omega) (wr.heap.size + 1) (by simp) ?_; intro g2 cap2 w2 hown2 hgrow2 hat2 hlt2)
          have HO2 : Hid (w2.ownsRow w.heap.size 5 1 (.slice (some ⟨g2, 0, none⟩) (l ++ [plainB ((by_ s).getD (i) 0)]).length cap2) (l ++ [plainB ((by_ s).getD (i) 0)]).length (Lib.byteCells (l ++ [plainB ((by_ s).getD (i) 0)]))) := own_next hown2 (by rw [plainB_toNat]; show (32 : Int) = plainI (bt s (i)); unfold plainI; rw [if_pos cp])
          have hg2 : w.heap.size ≤ g2 := own_base hown2
          have hb2' : Below w.heap.size w w2 := (hb.alloc hb.size _).grown hgrow2 (by have := hb.size; simp; omega) (fun k hk => by cases hk; exact hgw)
          clear hown2 hgrow2 hat2
          go_wp2_with fail
          go_roundw
          case rel => exact ⟨i, l ++ [plainB ((by_ s).getD (i) 0)], g2, cap2, by simp; omega, int_eq (by omega), by simp, HO2.out, hlt2, hg2, hb2', by rw [HD.out, HST.out]; simp⟩
          case measure => first | (simp [intOf]; done) | (simp [intOf]; omega)
        · skip
          go_wp2_with (at_builtin; refine wpList_append_lies _ rfl _ _ 27 rfl w.heap.size 5 i0 (.int .u8 0) 1 1 Try.underlying27 hi0 hz0 hz1 hz2 rfl (by omega) _ l.length (Lib.byteCells l) rfl (by exact HO.out.alloc _) ⟨wr.heap.size, 0, none⟩ 1 1 [.int .u8 (bt s (i))] rfl rfl (by exact cell_one_new _ _ _) (by exact ints_oneCell .u8 [bt s (i)]) (by omega) (by unfold maxLen; omega) (by omega) (by simp; omega) (wr.heap.size + 1) (by simp) ?_; intro g2 cap2 w2 hown2 hgrow2 hat2 hlt2)
          have HO2 : Hid (w2.ownsRow w.heap.size 5 1 (.slice (some ⟨g2, 0, none⟩) (l ++ [plainB ((by_ s).getD (i) 0)]).length cap2) (l ++ [plainB ((by_ s).getD (i) 0)]).length (Lib.byteCells (l ++ [plainB ((by_ s).getD (i) 0)]))) := own_next hown2 (by rw [plainB_toNat]; show bt s (i) = plainI (bt s (i)); unfold plainI; rw [if_neg cp])
          have hg2 : w.heap.size ≤ g2 := own_base hown2
          have hb2' : Below w.heap.size w w2 := (hb.alloc hb.size _).grown hgrow2 (by have := hb.size; simp; omega) (fun k hk => by cases hk; exact hgw)
          clear hown2 hgrow2 hat2
          go_wp2_with fail
          go_roundw
          case rel => exact ⟨i, l ++ [plainB ((by_ s).getD (i) 0)], g2, cap2, by simp; omega, int_eq (by omega), by simp, HO2.out, hlt2, hg2, hb2', by rw [HD.out, HST.out]; simp⟩
          case measure => first | (simp [intOf]; done) | (simp [intOf]; omega)
    · obtain rfl : j = 0 := by omega
      have hll : l.length ≤ 4000000 := by omega
      have HE : Hid (decB s = ⟨l.reverse.toArray⟩) := by
        have h := HD.out
        rw [List.take_zero, dec, List.nil_append] at h
        show (⟨(dec (by_ s)).toArray⟩ : ByteArray) = _
        rw [h]
      have hmk := fun w => run_make_row' (P := Try.prog) 27 5 (.int .u8 0) 1 Try.underlying27 Try.info5 rfl .i64 .i64 l.length (by omega) (by omega) w
      have hM : (madeCells #[.int .u8 0] l.length).size = l.length := size_madeCells _ _
      generalize madeCells #[.int .u8 0] l.length = M at hmk hM
      have HM : Hid (M.size = l.length) := hM
      obtain ⟨wo, rfl⟩ : ∃ wo : World, wo = wr := ⟨_, rfl⟩
      clear hM hj HD
      go_wp2_with fail
      go_loopw [10] (fun iv wr => ∃ k : Nat, k ≤ l.length ∧ iv = .int .i64 k ∧ Below wo.heap.size wo wr ∧ wo.heap.size < wr.heap.size ∧ Row wr wo.heap.size l.length k fun i => .int .u8 (rb l i)) (fun iv _ => l.length - (intOf iv).toNat)
      case atStart => exact ⟨0, Nat.zero_le _, rfl, (Below.refl _ _).alloc (Nat.le_refl _) _, by simp, by rw [← HM.out]; exact Row.made _ _ _ _⟩
      case round =>
        obtain ⟨k, hk, rfl, hbr, hzr, hrow⟩ := hrel
        have HR : Hid (Row wr wo.heap.size l.length k fun i => .int .u8 (rb l i)) := hrow
        clear hrow
        by_cases hlt : k < l.length
        · obtain ⟨v0, hv0⟩ := HR.out.1 k hlt
          have hfz := HR.out.2.2 k
          obtain ⟨q, hq⟩ : ∃ q, q + 1 + k = l.length := ⟨l.length - 1 - k, by omega⟩
          have hck : wr.cell? ⟨g, q, none⟩ = some (.int .u8 (rb l k)) := by
            rw [hbr.cell (p := ⟨g, q, none⟩) hg]
            refine ownsRow_cell HO.out ?_
            unfold rb
            rw [Lib.byteCells, List.getElem?_map, List.getD_eq_getElem?_getD, List.getElem?_reverse hlt, show l.length - 1 - k = q by omega]
            rw [List.getElem?_eq_getElem (show q < l.length by omega)]
            rfl
          have hqq : (l.length : Int) - 1 - k = q := by omega
          go_wp2_with fail
          go_roundw
          case rel => exact ⟨k + 1, by omega, by go_num, hbr.setCell (Nat.le_refl _) _, by rw [World.size_setCell]; exact hzr, HR.out.store hlt⟩
          case measure => simp [intOf]; omega
        · obtain rfl : k = l.length := by omega
          have hcv := conv_string wr wo.heap.size l.length l.length l.reverse (by simp) (fun i hi => HR.out.2.1 i hi)
          go_wp2_with fail
          have hq := hQ.out wr (hb.trans (hbr.mono hb.size))
          rw [HE.out] at hq
          exact hq
theorem bytes5_any (s : ByteArray) (hs : s.size ≤ maxLen) (w : World) (Q : Ending → World → Prop) (hQ : Hid (Q (.returned (.bool (decide (s.size ≤ 1048576)))) w)) : Calls Try.prog 5 #[.string s] w Q := by
  unfold maxLen at hs
  by_cases h : s.size ≤ 1048576
  · have hq := hQ.out
    rw [decide_eq_true h] at hq
    clear hQ
    go_enter Try.func5, Try.ntmps5
    go_wp2
    exact hq
  · have hq := hQ.out
    rw [decide_eq_false h] at hq
    clear hQ
    go_enter Try.func5, Try.ntmps5
    go_wp2
    exact hq

theorem fromEnd_all (s : ByteArray) (hs : s.size ≤ maxLen) (w : World) : Calls Try.prog 3 #[.string s] w fun e w' => e = .returned (.bool true) ∧ Below w.heap.size w w' := by
  by_cases h : s.size ≤ 1048576
  · go_enter Try.func3, Try.ntmps3
    go_wp2_with fail
    refine bytes5_any s hs w _ (Hid.intro ?_)
    rw [decide_eq_true h]
    go_wp2_with fail
    refine lenient_any s (by omega) _ _ fun w1 b1 => ?_
    go_wp2_with fail
    refine fromEnd_any s (by omega) _ _ fun w2 b2 => ?_
    go_wp2_with fail
    go_ret
    exact ⟨rfl, belowTrans b1 b2⟩
  · go_enter Try.func3, Try.ntmps3
    go_wp2_with fail
    refine bytes5_any s hs w _ (Hid.intro ?_)
    rw [decide_eq_false h]
    go_wp2_with fail
    go_ret
    exact ⟨rfl, Below.refl _ _⟩

end Go.Proofs.Qxb6629145a
