/-
  Contracts of pinClone and pinClone2: copies in new memory.
-/
import Derived.Test.Qxb6629100aBase
import Derived.Deep.OwnRows
namespace Go.Proofs.Qxb6629100a
open Go.ChangeShapes Go.WideShapes Go.ChangeAt Go.RowKit

theorem Try.info9 : (Try.prog.info? 9).map (fun i => (i.zero, i.size, i.bytes)) = some (some (.string ByteArray.empty), 1, 16) := by kernel_rfl
theorem Try.info22 : (Try.prog.info? 22).map (fun i => (i.zero, i.size, i.bytes)) = some (some (.slice none 0 0), 1, 24) := by kernel_rfl

theorem atk_new (b k : Nat) : atk (some ⟨b, 0, none⟩) k = ⟨b, k, none⟩ := by
  show (⟨b, 0, none⟩ : Addr).add k = _; rw [add_plain, Nat.zero_add]

theorem cell_some_lt {w : World} {p : Addr} {v : Value} (h : w.cell? p = some v) : p.block < w.heap.size := by
  unfold World.cell? at h
  split at h
  · rename_i hc; exact (Array.getElem?_eq_some_iff.1 hc).1
  · cases h

/-- an old []string reads the same where nothing old has turned -/
theorem SV.below {w w' : World} {a : Option Addr} {n : Nat} {f : Nat → ByteArray} (h : SV w a n f) (hb : Below w.heap.size w w') : SV w' a n f :=
  ⟨h.1, fun k hk => by rw [hb.cell (cell_some_lt (h.2.1 k hk))]; exact h.2.1 k hk, h.2.2.1, h.2.2.2⟩
theorem SSV.below {w w' : World} {a : Option Addr} {n : Nat} {A : Nat → Option Addr} {L C : Nat → Nat} {F : Nat → Nat → ByteArray} (h : SSV w a n A L C F) (hb : Below w.heap.size w w') : SSV w' a n A L C F :=
  ⟨h.1, fun k hk => by rw [hb.cell (cell_some_lt (h.2.1 k hk))]; exact h.2.1 k hk, fun r hr => (h.2.2.1 r hr).below hb, h.2.2.2⟩

/-- where a slice of the call's own lies -/
def NewAt (w w' : World) (a : Option Addr) : Prop := ∀ x, a = some x → w.heap.size ≤ x.block ∧ x.block < w'.heap.size

/-- block B of wr is a row of n cells that may be written, of which the first k hold g -/
def Row (wr : World) (B n k : Nat) (g : Nat → Value) : Prop :=
  (∀ j, j < n → ∃ v, wr.cell? ⟨B, j, none⟩ = some v) ∧ (∀ j, j < k → wr.cell? ⟨B, j, none⟩ = some (g j)) ∧ ∀ j, wr.frozen? ⟨B, j, none⟩ = false

theorem Row.made (w : World) (M : Array Value) (t : TypeId) (g : Nat → Value) : Row (w.alloc (.cells M t)) w.heap.size M.size 0 g :=
  ⟨fun j hj => ⟨M[j], by rw [World.cell?_alloc_new]; simp [hj]⟩, fun j hj => by omega, fun j => World.frozen?_alloc_new w M t j⟩

theorem Row.store {wr : World} {B n k : Nat} {g : Nat → Value} (h : Row wr B n k g) (hk : k < n) : Row (wr.setCell ⟨B, k, none⟩ (g k)) B n (k + 1) g := by
  obtain ⟨h1, h2, h3⟩ := h
  have same : (wr.setCell ⟨B, k, none⟩ (g k)).cell? ⟨B, k, none⟩ = some (g k) := by
    obtain ⟨v, hv⟩ := h1 k hk
    exact World.cell?_setCell_same wr _ _ hv
  have other : ∀ j, j ≠ k → (wr.setCell ⟨B, k, none⟩ (g k)).cell? ⟨B, j, none⟩ = wr.cell? ⟨B, j, none⟩ := fun j hj =>
    World.cell?_setCell_other wr ⟨B, k, none⟩ ⟨B, j, none⟩ (g k) (fun e => hj (by cases e; rfl))
  refine ⟨fun j hj => ?_, fun j hj => ?_, fun j => by rw [World.frozen?_setCell]; exact h3 j⟩
  · by_cases e : j = k
    · subst e; exact ⟨_, same⟩
    · rw [other j e]; exact h1 j hj
  · by_cases e : j = k
    · subst e; exact same
    · rw [other j e]; exact h2 j (by omega)

theorem Row.below {w w' : World} {B n k : Nat} {g : Nat → Value} (h : Row w B n k g) (hB : B < w.heap.size) (hb : Below w.heap.size w w') : Row w' B n k g :=
  ⟨fun j hj => by rw [hb.cell (p := ⟨B, j, none⟩) hB]; exact h.1 j hj, fun j hj => by rw [hb.cell (p := ⟨B, j, none⟩) hB]; exact h.2.1 j hj, fun j => by rw [hb.frozen (p := ⟨B, j, none⟩) hB]; exact h.2.2 j⟩

set_option maxHeartbeats 400000 in
theorem clone_any (a : Option Addr) (n c : Nat) (f : Nat → ByteArray) (w : World) (hs : SV w a n f) (hn : n ≤ 1048576)
    (Q : Ending → World → Prop) (hQ : Hid (∀ (a' : Option Addr) (w' : World), a'.isSome = a.isSome → SV w' a' n f → NewAt w w' a' → Below w.heap.size w w' → Q (.returned (.slice a' n n)) w')) :
    Calls Try.prog 7 #[.slice a n c] w Q := by
  have heq := fun w => Lib.run_eql_slice_nil (P := Try.prog) w 22 9 a n c 0 0 Try.underlying22
  cases a with
  | none =>
    obtain rfl : n = 0 := by
      rcases Nat.eq_zero_or_pos n with h | h
      · exact h
      · have := hs.1 h; simp at this
    go_enter Try.func7, Try.ntmps7
    go_wp2
    exact hQ.out none w rfl hs (fun x hx => by cases hx) (Below.refl _ _)
  | some x =>
    have HS : Hid (SV w (some x) n f) := hs
    have hmk := fun w => run_make_row' (P := Try.prog) 22 9 (.string ByteArray.empty) 16 Try.underlying22 Try.info9 rfl .i64 .i64 n (by omega) (by omega) w
    have hM : (madeCells #[.string ByteArray.empty] n).size = n := size_madeCells _ _
    generalize madeCells #[.string ByteArray.empty] n = M at hmk hM
    clear hs
    have HM : Hid (M.size = n) := hM
    clear hM
    go_enter Try.func7, Try.ntmps7
    go_wp2
    go_loopw [4] (fun i wr => ∃ k : Nat, k ≤ n ∧ i = .int .i64 k ∧ Below w.heap.size w wr ∧ w.heap.size < wr.heap.size ∧ Row wr w.heap.size n k fun j => .string (f j)) (fun i _ => n - (intOf i).toNat)
    case atStart => exact ⟨0, Nat.zero_le _, rfl, (Below.refl _ _).alloc (Nat.le_refl _) _, by simp, by rw [← HM.out]; exact Row.made _ _ _ _⟩
    case round =>
      obtain ⟨k, hk, rfl, hb, hz, hrow⟩ := hrel
      have HR : Hid (Row wr w.heap.size n k fun j => .string (f j)) := hrow
      clear hrow
      by_cases hlt : k < n
      · have hi := idx22 c HS.out.1 wr k hlt
        have hck := (HS.out.below hb).2.1 k hlt
        obtain ⟨v0, hv0⟩ := HR.out.1 k hlt
        have hfz := HR.out.2.2 k
        go_wp2
        go_roundw
        case rel => exact ⟨k + 1, by omega, by go_num, hb.setCell (Nat.le_refl _) _, by rw [World.size_setCell]; exact hz, HR.out.store hlt⟩
        case measure => simp [intOf]; omega
      · obtain rfl : k = n := by omega
        go_wp2
        exact hQ.out (some ⟨w.heap.size, 0, none⟩) wr rfl ⟨fun _ => rfl, fun j hj => by rw [atk_new]; exact HR.out.2.1 j hj, HS.out.2.2.1, HS.out.2.2.2⟩ (fun y hy => by cases hy; exact ⟨Nat.le_refl _, hz⟩) hb

theorem SV.size_pos {w : World} {a : Option Addr} {n : Nat} {f : Nat → ByteArray} (h : SV w a n f) (hn : a = none) : n = 0 := by
  rcases Nat.eq_zero_or_pos n with e | e
  · exact e
  · have := h.1 e; rw [hn] at this; simp at this

/-- a store into block B leaves a slice above B as it was -/
theorem SV.setCell {w : World} {a : Option Addr} {n : Nat} {f : Nat → ByteArray} {B k : Nat} (h : SV w a n f) (ha : ∀ y, a = some y → B < y.block) (v : Value) : SV (w.setCell ⟨B, k, none⟩ v) a n f := by
  refine ⟨h.1, fun j hj => ?_, h.2.2.1, h.2.2.2⟩
  rw [World.cell?_setCell_other]
  · exact h.2.1 j hj
  · intro e
    obtain ⟨y, rfl⟩ := Option.isSome_iff_exists.1 (h.1 (by omega))
    have h1 := ha y rfl
    have h2 : (atk (some y) j).block = y.block := by
      show (y.add j).block = _
      unfold Addr.add; split <;> rfl
    rw [← e] at h2
    exact absurd h2 (Nat.ne_of_lt h1)

set_option maxHeartbeats 400000 in
theorem clone2_any (a : Option Addr) (n c : Nat) (A : Nat → Option Addr) (L C : Nat → Nat) (F : Nat → Nat → ByteArray) (w : World) (hs : SSV w a n A L C F) (hn : n ≤ 1048576) (hL : ∀ r, r < n → L r ≤ 1048576)
    (Q : Ending → World → Prop) (hQ : Hid (∀ (a' : Option Addr) (A' : Nat → Option Addr) (w' : World), a'.isSome = a.isSome → (∀ r, r < n → (A' r).isSome = (A r).isSome) → SSV w' a' n A' L L F → Below w.heap.size w w' → Q (.returned (.slice a' n n)) w')) :
    Calls Try.prog 8 #[.slice a n c] w Q := by
  have heq := fun w => Lib.run_eql_slice_nil (P := Try.prog) w 23 22 a n c 0 0 Try.underlying23
  cases a with
  | none =>
    obtain rfl : n = 0 := by
      rcases Nat.eq_zero_or_pos n with h | h
      · exact h
      · have := hs.1 h; simp at this
    go_enter Try.func8, Try.ntmps8
    go_wp2
    exact hQ.out none A w rfl (fun r hr => by omega) ⟨fun h => by omega, fun r hr => by omega, fun r hr => by omega, Nat.zero_le _⟩ (Below.refl _ _)
  | some x =>
    have HS : Hid (SSV w (some x) n A L C F) := hs
    have HLL : Hid (∀ r, r < n → L r ≤ 1048576) := hL
    have hmk := fun w => run_make_row' (P := Try.prog) 23 22 (.slice none 0 0) 24 Try.underlying23 Try.info22 rfl .i64 .i64 n (by omega) (by omega) w
    have hM : (madeCells #[.slice none 0 0] n).size = n := size_madeCells _ _
    generalize madeCells #[.slice none 0 0] n = M at hmk hM
    have HM : Hid (M.size = n) := hM
    clear hs hL hM
    go_enter Try.func8, Try.ntmps8
    go_wp2_with fail
    go_loopw [4] (fun i wr => ∃ (k : Nat) (A' : Nat → Option Addr), k ≤ n ∧ i = .int .i64 k ∧ Below w.heap.size w wr ∧ w.heap.size < wr.heap.size ∧ (Row wr w.heap.size n k fun j => .slice (A' j) (L j) (L j)) ∧ ∀ r, r < k → (A' r).isSome = (A r).isSome ∧ SV wr (A' r) (L r) (F r) ∧ ∀ y, A' r = some y → w.heap.size < y.block) (fun i _ => n - (intOf i).toNat)
    case atStart => exact ⟨0, A, Nat.zero_le _, rfl, (Below.refl _ _).alloc (Nat.le_refl _) _, by simp, by rw [← HM.out]; exact Row.made _ _ _ _, fun r hr => by omega⟩
    case round =>
      obtain ⟨k, A', hk, rfl, hb, hz, hrow, hel⟩ := hrel
      have HR : Hid (Row wr w.heap.size n k fun j => .slice (A' j) (L j) (L j)) := hrow
      have HE : Hid (∀ r, r < k → (A' r).isSome = (A r).isSome ∧ SV wr (A' r) (L r) (F r) ∧ ∀ y, A' r = some y → w.heap.size < y.block) := hel
      clear hrow hel
      by_cases hlt : k < n
      · have hi := idx23 c HS.out.1 wr k hlt
        have hck := (HS.out.below hb).2.1 k hlt
        go_wp2_with fail
        refine clone_any _ _ _ (F k) _ ((HS.out.below hb).2.2.1 k hlt) (HLL.out k hlt) _ fun ak w1 hsome hsv hnew hb1 => ?_
        have HR1 : Hid (Row w1 w.heap.size n k fun j => .slice (A' j) (L j) (L j)) := HR.out.below hz hb1
        obtain ⟨v0, hv0⟩ := HR1.out.1 k hlt
        have hfz := HR1.out.2.2 k
        have HSV : Hid (SV w1 ak (L k) (F k)) := hsv
        have HNEW : Hid (NewAt wr w1 ak) := hnew
        clear hsv hnew hi hck
        go_wp2_with fail
        go_roundw
        case rel =>
          have hrow2 : Row (w1.setCell ⟨w.heap.size, k, none⟩ (.slice ak (L k) (L k))) w.heap.size n (k + 1) fun j => .slice (if j = k then ak else A' j) (L j) (L j) := by
            have h1 : Row w1 w.heap.size n k fun j => .slice (if j = k then ak else A' j) (L j) (L j) :=
              ⟨HR1.out.1, fun j hj => by show _ = some (Value.slice (if j = k then ak else A' j) (L j) (L j)); rw [if_neg (by omega)]; exact HR1.out.2.1 j hj, HR1.out.2.2⟩
            have h2 := h1.store hlt
            simp only [if_true] at h2
            exact h2
          refine ⟨k + 1, fun j => if j = k then ak else A' j, by omega, by go_num, (hb.trans (hb1.mono (Nat.le_of_lt hz))).setCell (Nat.le_refl _) _, ?_, hrow2, fun r hr => ?_⟩
          · rw [World.size_setCell]; exact Nat.lt_of_lt_of_le hz hb1.size
          · by_cases e : r = k
            · subst e
              simp only [if_true]
              have hpos : ∀ y, ak = some y → w.heap.size < y.block := fun y hy => Nat.lt_of_lt_of_le hz (HNEW.out y hy).1
              exact ⟨hsome, HSV.out.setCell hpos _, hpos⟩
            · simp only [if_neg e]
              obtain ⟨e1, e2, e3⟩ := HE.out r (by omega)
              exact ⟨e1, (e2.below hb1).setCell e3 _, e3⟩
        case measure => simp [intOf]; omega
      · obtain rfl : k = n := by omega
        go_wp2_with fail
        refine hQ.out (some ⟨w.heap.size, 0, none⟩) A' wr rfl (fun r hr => (HE.out r hr).1) ⟨fun _ => rfl, fun r hr => ?_, fun r hr => (HE.out r hr).2.1, HS.out.2.2.2⟩ hb
        rw [atk_new]
        exact HR.out.2.1 r hr
end Go.Proofs.Qxb6629100a
