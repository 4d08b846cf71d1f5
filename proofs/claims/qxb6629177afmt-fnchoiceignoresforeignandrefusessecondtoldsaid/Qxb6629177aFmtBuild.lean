/-
  The contract of zzBuildB1: a parent with its children in new memory ('Tree'), and the children's pointers by position.
-/
import Derived.Test.Qxb6629177aFmtTree
import Derived.BigQuiet
import Derived.Deep.RegionHeld3
namespace Go.Proofs.Qxb6629177aFmt
open Go.ChangeShapes Go.WideShapes Go.ChangeAt Go.RowKit

/-- block B of wr is a row of n cells that may be written, of which the first k hold g -/
def Row (wr : World) (B n k : Nat) (g : Nat → Value) : Prop :=
  (∀ j, j < n → ∃ v, wr.cell? ⟨B, j, none⟩ = some v) ∧ (∀ j, j < k → wr.cell? ⟨B, j, none⟩ = some (g j)) ∧ ∀ j, wr.frozen? ⟨B, j, none⟩ = false

theorem Row.made (w : World) (M : Array Value) (t : TypeId) (g : Nat → Value) : Row (w.alloc (.cells M t)) w.heap.size M.size 0 g :=
  ⟨fun j hj => ⟨M[j], by rw [World.cell?_alloc_new]; simp [hj]⟩, fun j hj => by omega, fun j => World.frozen?_alloc_new w M t j⟩

theorem Row.store {wr : World} {B n k : Nat} {g : Nat → Value} (h : Row wr B n k g) (hk : k < n) : Row (wr.setCell ⟨B, k, none⟩ (g k)) B n (k + 1) g := by
  obtain ⟨h1, h2, h3⟩ := h
  have same : (wr.setCell ⟨B, k, none⟩ (g k)).cell? ⟨B, k, none⟩ = some (g k) := by
    obtain ⟨v, hv⟩ := h1 k hk
    exact World.cell?_setCell_same wr _ _ hv
  have other : ∀ j, j ≠ k → (wr.setCell ⟨B, k, none⟩ (g k)).cell? ⟨B, j, none⟩ = wr.cell? ⟨B, j, none⟩ := fun j hj =>
    World.cell?_setCell_other wr ⟨B, k, none⟩ ⟨B, j, none⟩ (g k) (fun e => hj (by cases e; rfl))
  refine ⟨fun j hj => ?_, fun j hj => ?_, fun j => by rw [World.frozen?_setCell]; exact h3 j⟩
  · by_cases e : j = k
    · subst e; exact ⟨_, same⟩
    · rw [other j e]; exact h1 j hj
  · by_cases e : j = k
    · subst e; exact same
    · rw [other j e]; exact h2 j (by omega)

/-- a child in block e, its parent in block B -/
def Kid (w : World) (B e : Nat) (s l : ByteArray) (i : Int) : Prop :=
  w.cell? ⟨e, 0, none⟩ = some (.string s) ∧ w.cell? ⟨e, 1, none⟩ = some (.string l) ∧ w.cell? ⟨e, 2, none⟩ = some (.int .i64 i) ∧ w.cell? ⟨e, 6, none⟩ = some (.pointer (some ⟨B, 0, none⟩))

def ptrs (E : Nat → Nat) (k : Nat) : List Value := (List.range k).map fun j => .pointer (some ⟨E j, 0, none⟩)

/-- zzBuildB1's memory behind k rounds -/
structure BI (w wr : World) (sp lo : ByteArray) (line : Int) (n : Nat) (S L : Nat → ByteArray) (I : Nat → Int) (k : Nat) (E : Nat → Nat) (v : Value) : Prop where
  bel : Below w.heap.size w wr
  sz : w.heap.size + 2 ≤ wr.heap.size
  r0 : wr.cell? ⟨w.heap.size, 0, none⟩ = some (.string sp)
  r1 : wr.cell? ⟨w.heap.size, 1, none⟩ = some (.string lo)
  r2 : wr.cell? ⟨w.heap.size, 2, none⟩ = some (.int .i64 line)
  r5 : wr.cell? ⟨w.heap.size, 5, none⟩ = some v
  f5 : wr.frozen? ⟨w.heap.size, 5, none⟩ = false
  r6 : wr.cell? ⟨w.heap.size, 6, none⟩ = some (.pointer none)
  own : wr.ownsRow (w.heap.size + 2) 25 1 v k (ptrs E k)
  kid : ∀ j, j < k → Kid wr w.heap.size (E j) (S j) (L j) (I j) ∧ w.heap.size + 2 ≤ E j ∧ E j < wr.heap.size ∧ v.ownBlock ≠ some (E j)
  row : Row wr (w.heap.size + 1) n k fun j => .pointer (some ⟨E j, 0, none⟩)

theorem ptrs_succ (E : Nat → Nat) (k C : Nat) : ptrs (fun j => if j = k then C else E j) (k + 1) = ptrs E k ++ [.pointer (some ⟨C, 0, none⟩)] := by
  unfold ptrs
  rw [List.range_succ, List.map_append]
  congr 1
  · apply List.map_congr_left
    intro j hj
    show Value.pointer (some ⟨if j = k then C else E j, 0, none⟩) = _
    rw [if_neg (by have := List.mem_range.1 hj; omega)]
  · simp

theorem BI.start (w : World) (sp lo : ByteArray) (line : Int) (n : Nat) (S L : Nat → ByteArray) (I : Nat → Int) (E : Nat → Nat) (M : Array Value) (hM : M.size = n) :
    BI w ((w.alloc (elem sp lo line)).alloc (.cells M 25)) sp lo line n S L I 0 E (.slice none 0 0) := by
  have hb1 : Below w.heap.size w (w.alloc (elem sp lo line)) := (Below.refl _ _).alloc (Nat.le_refl _) _
  have hs1 : (w.alloc (elem sp lo line)).heap.size = w.heap.size + 1 := by simp
  have hb2 : Below (w.heap.size + 1) (w.alloc (elem sp lo line)) ((w.alloc (elem sp lo line)).alloc (.cells M 25)) := (Below.refl _ _).alloc (by omega) _
  have c : ∀ j, ((w.alloc (elem sp lo line)).alloc (.cells M 25)).cell? ⟨w.heap.size, j, none⟩ = (w.alloc (elem sp lo line)).cell? ⟨w.heap.size, j, none⟩ := fun j => hb2.cell (Nat.lt_succ_self _)
  refine { bel := hb1.trans (hb2.mono (by omega)), sz := by simp, r0 := ?_, r1 := ?_, r2 := ?_, r5 := ?_, f5 := ?_, r6 := ?_, own := World.ownsRow_nil _ _ _ _, kid := fun j hj => by omega, row := ?_ }
  · rw [c]; unfold elem; rw [World.cell?_alloc_new]; rfl
  · rw [c]; unfold elem; rw [World.cell?_alloc_new]; rfl
  · rw [c]; unfold elem; rw [World.cell?_alloc_new]; rfl
  · rw [c]; unfold elem; rw [World.cell?_alloc_new]; rfl
  · rw [hb2.frozen (p := ⟨w.heap.size, 5, none⟩) (Nat.lt_succ_self _)]; unfold elem; exact World.frozen?_alloc_new _ _ _ _
  · rw [c]; unfold elem; rw [World.cell?_alloc_new]; rfl
  · have := Row.made (w.alloc (elem sp lo line)) M 25 fun j => .pointer (some ⟨E j, 0, none⟩)
    rw [hM, hs1] at this
    exact this

/-- one round: the child's block is made, it is linked, its pointer is stored -/
theorem BI.step {w wr : World} {sp lo : ByteArray} {line : Int} {n : Nat} {S L : Nat → ByteArray} {I : Nat → Int} {k : Nat} {E : Nat → Nat} {v : Value} (h : BI w wr sp lo line n S L I k E v) (hk : k < n)
    {g cap : Nat} {w2 : World} (ha : Added (wr.alloc (elem (S k) (L k) (I k))).drew w2 w.heap.size wr.heap.size (w.heap.size + 2) v k (ptrs E k) g cap) :
    (∃ u, w2.cell? ⟨w.heap.size + 1, k, none⟩ = some u) ∧ w2.frozen? ⟨w.heap.size + 1, k, none⟩ = false ∧
    BI w (w2.setCell ⟨w.heap.size + 1, k, none⟩ (.pointer (some ⟨wr.heap.size, 0, none⟩))) sp lo line n S L I (k + 1) (fun j => if j = k then wr.heap.size else E j) (.slice (some ⟨g, 0, none⟩) (k + 1) cap) := by
  obtain ⟨bel, sz, r0, r1, r2, r5, f5, r6, own, kid, row⟩ := h
  have hs1 : (wr.alloc (elem (S k) (L k) (I k))).drew.heap.size = wr.heap.size + 1 := by simp
  have hb1 : Below wr.heap.size wr (wr.alloc (elem (S k) (L k) (I k))).drew := ((Below.refl _ _).alloc (Nat.le_refl _) _).drew
  have hv : ∀ b, v.ownBlock = some b → w.heap.size + 2 ≤ b ∧ b < wr.heap.size := fun b hb => own.lt b hb
  have hg := (ha.own.lt g rfl).1
  have far : ∀ p : Addr, p.block < wr.heap.size → p ≠ ⟨w.heap.size, 5, none⟩ → v.ownBlock ≠ some p.block → w2.cell? p = wr.cell? p ∧ w2.frozen? p = wr.frozen? p := by
    intro p hp h1 h2
    obtain ⟨q1, q2⟩ := ha.far p (by omega) h1 (fun e => by rw [e] at hp; exact absurd hp (Nat.lt_irrefl _)) h2
    exact ⟨by rw [q1, hb1.cell hp], by rw [q2, hb1.frozen hp]⟩
  have farB : ∀ j, j ≠ 5 → w2.cell? ⟨w.heap.size, j, none⟩ = wr.cell? ⟨w.heap.size, j, none⟩ := fun j hj =>
    (far ⟨w.heap.size, j, none⟩ (by show w.heap.size < _; omega) (fun e => hj (by cases e; rfl)) (fun e => by have := (hv _ e).1; simp at this; omega)).1
  have farK : ∀ j, w2.cell? ⟨w.heap.size + 1, j, none⟩ = wr.cell? ⟨w.heap.size + 1, j, none⟩ ∧ w2.frozen? ⟨w.heap.size + 1, j, none⟩ = wr.frozen? ⟨w.heap.size + 1, j, none⟩ := fun j =>
    far ⟨w.heap.size + 1, j, none⟩ (by show w.heap.size + 1 < _; omega) (fun e => by injection e with e1; omega) (fun e => by have := (hv _ e).1; simp at this)
  have farC : ∀ j, j ≠ 6 → w2.cell? ⟨wr.heap.size, j, none⟩ = (wr.alloc (elem (S k) (L k) (I k))).drew.cell? ⟨wr.heap.size, j, none⟩ := fun j hj =>
    (ha.far ⟨wr.heap.size, j, none⟩ (by show wr.heap.size < _; omega) (fun e => by injection e with e1; omega) (fun e => hj (by cases e; rfl)) (fun e => by have := (hv _ e).2; simp at this)).1
  have set : ∀ (p : Addr), p.block ≠ w.heap.size + 1 → (w2.setCell ⟨w.heap.size + 1, k, none⟩ (.pointer (some ⟨wr.heap.size, 0, none⟩))).cell? p = w2.cell? p := fun p hp =>
    World.cell?_setCell_other _ _ _ _ (fun e => hp (by rw [← e]))
  have row2 : Row w2 (w.heap.size + 1) n k fun j => .pointer (some ⟨if j = k then wr.heap.size else E j, 0, none⟩) :=
    ⟨fun j hj => by rw [(farK j).1]; exact row.1 j hj, fun j hj => by rw [(farK j).1, row.2.1 j hj]; simp only [if_neg (Nat.ne_of_lt hj)], fun j => by rw [(farK j).2]; exact row.2.2 j⟩
  refine ⟨row2.1 k hk, row2.2.2 k, ?_⟩
  refine { bel := ?_, sz := ?_, r0 := ?_, r1 := ?_, r2 := ?_, r5 := ?_, f5 := ?_, r6 := ?_, own := ?_, kid := ?_, row := ?_ }
  · exact ((bel.trans (hb1.mono (by omega))).trans (ha.below _ (Nat.le_refl _))).setCell (by show w.heap.size ≤ w.heap.size + 1; omega) _
  · rw [World.size_setCell]; have := ha.size; omega
  · rw [set _ (by show w.heap.size ≠ _; omega), farB 0 (by omega)]; exact r0
  · rw [set _ (by show w.heap.size ≠ _; omega), farB 1 (by omega)]; exact r1
  · rw [set _ (by show w.heap.size ≠ _; omega), farB 2 (by omega)]; exact r2
  · rw [set _ (by show w.heap.size ≠ _; omega)]; exact ha.c5
  · rw [World.frozen?_setCell]; exact ha.f5
  · rw [set _ (by show w.heap.size ≠ _; omega), farB 6 (by omega)]; exact r6
  · rw [ptrs_succ]; exact ownsRow_setCell_below ha.own (by show w.heap.size + 1 < _; omega) _
  · intro j hj
    by_cases e : j = k
    · subst e
      simp only [if_true]
      have nw : ∀ i x, #[.string (S j), .string (L j), .int .i64 (I j), .slice none 0 0, .slice none 0 0, .slice none 0 0, .pointer none][i]? = some x → (wr.alloc (elem (S j) (L j) (I j))).drew.cell? ⟨wr.heap.size, i, none⟩ = some x := fun i x hx => by
        show (wr.alloc (elem (S j) (L j) (I j))).cell? _ = _
        unfold elem; rw [World.cell?_alloc_new]; exact hx
      refine ⟨⟨?_, ?_, ?_, ?_⟩, by omega, ?_, ?_⟩
      · rw [set _ (by show wr.heap.size ≠ _; omega), farC 0 (by omega)]; exact nw 0 _ rfl
      · rw [set _ (by show wr.heap.size ≠ _; omega), farC 1 (by omega)]; exact nw 1 _ rfl
      · rw [set _ (by show wr.heap.size ≠ _; omega), farC 2 (by omega)]; exact nw 2 _ rfl
      · rw [set _ (by show wr.heap.size ≠ _; omega)]; exact ha.c6
      · rw [World.size_setCell]; have := ha.size; omega
      · show some g ≠ some wr.heap.size
        intro hh
        injection hh with hh
        rcases ha.at_ with a1 | a1
        · have := (hv g a1).2; omega
        · omega
    · simp only [if_neg e]
      obtain ⟨⟨k0, k1, k2, k6⟩, e1, e2, e3⟩ := kid j (by omega)
      have fk : ∀ i, (w2.setCell ⟨w.heap.size + 1, k, none⟩ (.pointer (some ⟨wr.heap.size, 0, none⟩))).cell? ⟨E j, i, none⟩ = wr.cell? ⟨E j, i, none⟩ := fun i => by
        rw [set _ (by show E j ≠ _; omega), (far ⟨E j, i, none⟩ e2 (fun e => by injection e with e1; omega) e3).1]
      refine ⟨⟨by rw [fk]; exact k0, by rw [fk]; exact k1, by rw [fk]; exact k2, by rw [fk]; exact k6⟩, e1, ?_, ?_⟩
      · rw [World.size_setCell]; have := ha.size; omega
      · show some g ≠ some (E j)
        intro hh
        injection hh with hh
        rcases ha.at_ with a1 | a1
        · exact e3 (by rw [a1, hh])
        · omega
  · have := row2.store hk
    simp only [if_true] at this
    exact this

/-- An element in block B with n children, in memory. -/
structure Tree (w : World) (B : Nat) (sp lo : ByteArray) (line : Int) (n : Nat) (S L : Nat → ByteArray) (I : Nat → Int) (E : Nat → Nat) (ca : Option Addr) (cc : Nat) : Prop where
  r0 : w.cell? ⟨B, 0, none⟩ = some (.string sp)
  r1 : w.cell? ⟨B, 1, none⟩ = some (.string lo)
  r2 : w.cell? ⟨B, 2, none⟩ = some (.int .i64 line)
  r5 : w.cell? ⟨B, 5, none⟩ = some (.slice ca n cc)
  r6 : w.cell? ⟨B, 6, none⟩ = some (.pointer none)
  ne : 0 < n → ca.isSome = true
  el : ∀ j, j < n → w.cell? (atz 1 ca j) = some (.pointer (some ⟨E j, 0, none⟩))
  kid : ∀ j, j < n → Kid w B (E j) (S j) (L j) (I j)

theorem Kid.below {w w' : World} {B e : Nat} {s l : ByteArray} {i : Int} (h : Kid w B e s l i) (hb : Below w.heap.size w w') : Kid w' B e s l i :=
  ⟨keep_cell hb h.1, keep_cell hb h.2.1, keep_cell hb h.2.2.1, keep_cell hb h.2.2.2⟩
theorem Tree.below {w w' : World} {B : Nat} {sp lo : ByteArray} {line : Int} {n : Nat} {S L : Nat → ByteArray} {I : Nat → Int} {E : Nat → Nat} {ca : Option Addr} {cc : Nat} (h : Tree w B sp lo line n S L I E ca cc) (hb : Below w.heap.size w w') : Tree w' B sp lo line n S L I E ca cc :=
  ⟨keep_cell hb h.r0, keep_cell hb h.r1, keep_cell hb h.r2, keep_cell hb h.r5, keep_cell hb h.r6, h.ne, fun j hj => keep_cell hb (h.el j hj), fun j hj => (h.kid j hj).below hb⟩

theorem BI.tree {w wr : World} {sp lo : ByteArray} {line : Int} {n : Nat} {S L : Nat → ByteArray} {I : Nat → Int} {E : Nat → Nat} {v : Value} (h : BI w wr sp lo line n S L I n E v) :
    ∃ ca cc, Tree wr w.heap.size sp lo line n S L I E ca cc := by
  obtain ⟨bel, sz, r0, r1, r2, r5, f5, r6, own, kid, row⟩ := h
  rcases Nat.eq_zero_or_pos n with h0 | h0
  · subst h0
    rcases own.2 with ⟨hv, _⟩ | ⟨g, cap, cur, hv, _⟩
    · subst hv
      exact ⟨none, 0, ⟨r0, r1, r2, r5, r6, fun h => by omega, fun j hj => by omega, fun j hj => by omega⟩⟩
    · subst hv
      exact ⟨some ⟨g, 0, none⟩, cap, ⟨r0, r1, r2, r5, r6, fun _ => rfl, fun j hj => by omega, fun j hj => by omega⟩⟩
  · obtain ⟨g, cap, rfl, _, _⟩ := own.form h0
    refine ⟨some ⟨g, 0, none⟩, cap, ⟨r0, r1, r2, r5, r6, fun _ => rfl, fun j hj => ?_, fun j hj => (kid j hj).1⟩⟩
    have e : atz 1 (some ⟨g, 0, none⟩) j = ⟨g, j, none⟩ := by
      show (⟨g, 0, none⟩ : Addr).add (j * 1) = _; rw [add_plain, Nat.zero_add, Nat.mul_one]
    rw [e, own.cellAt j (by omega)]
    simp [ptrs, hj]

set_option maxHeartbeats 1000000 in
theorem build_any (sp lo : ByteArray) (line : Int) (a : Option Addr) (n c : Nat) (S L : Nat → ByteArray) (I : Nat → Int) (w : World) (hs : CV w a n S L I) (hn : n ≤ 1048577)
    (Q : Ending → World → Prop) (hQ : Hid (∀ (E : Nat → Nat) (ca : Option Addr) (cc : Nat) (w' : World), Tree w' w.heap.size sp lo line n S L I E ca cc → (∀ j, j < n → w'.cell? ⟨w.heap.size + 1, j, none⟩ = some (.pointer (some ⟨E j, 0, none⟩))) → Below w.heap.size w w' →
      Q (.returned (.tuple #[.pointer (some ⟨w.heap.size, 0, none⟩), .slice (some ⟨w.heap.size + 1, 0, none⟩) n n])) w')) :
    Calls Tryf.prog 7 #[.string sp, .string lo, .int .i64 line, .slice a n c] w Q := by
  have HS : Hid (CV w a n S L I) := Hid.intro hs
  have hmk := fun w => run_make_row' (P := Tryf.prog) 26 25 (.pointer none) 8 Tryf.underlying26 Tryf.info25 rfl .i64 .i64 n (by omega) (by omega) w
  have hM : (madeCells #[.pointer none] n).size = n := size_madeCells _ _
  generalize madeCells #[.pointer none] n = M at hmk hM
  have HM : Hid (M.size = n) := hM
  clear hs hM
  go_enter Tryf.func7, Tryf.ntmps7
  go_wp2_with fail
  refine newElement_any _ _ _ _ _ (Hid.intro ?_)
  go_wp2_with fail
  go_loopw [12] (fun i wr => ∃ (k : Nat) (E : Nat → Nat) (v : Value), k ≤ n ∧ i = .int .i64 k ∧ BI w wr sp lo line n S L I k E v) (fun i _ => n - (intOf i).toNat)
  case atStart => exact ⟨0, fun _ => 0, _, Nat.zero_le _, rfl, BI.start w sp lo line n S L I _ M HM.out⟩
  case round =>
    obtain ⟨k, E, v, hk, rfl, hbi⟩ := hrel
    have HB : Hid (BI w wr sp lo line n S L I k E v) := Hid.intro hbi
    clear hbi
    by_cases hlt : k < n
    · have hi := fun w' => idx22 c HS.out.1 w' k hlt
      obtain ⟨c0, c1, c2⟩ := (HS.out.below HB.out.bel).2.1 k hlt
      go_wp2_with fail
      go_region_held3 (fun w' => w'.cell? (atz 3 a k) = some (.string (S k)) ∧ w'.cell? ⟨(atz 3 a k).block, (atz 3 a k).off + 1, none⟩ = some (.string (L k)) ∧ w'.cell? ⟨(atz 3 a k).block, (atz 3 a k).off + 2, none⟩ = some (.int .i64 (I k))) (go_keep) ((go_at_call 11; refine newElement_any _ _ _ _ _ (Hid.intro ?_)))
      have hn1 := HB.out.sz
      have hl6 : (wr.alloc (elem (S k) (L k) (I k))).drew.cell? ⟨wr.heap.size, 6, none⟩ = some (.pointer none) := by
        show (wr.alloc (elem (S k) (L k) (I k))).cell? _ = _
        unfold elem; rw [World.cell?_alloc_new]; rfl
      have hlf : (wr.alloc (elem (S k) (L k) (I k))).drew.frozen? ⟨wr.heap.size, 6, none⟩ = false := by
        show (wr.alloc (elem (S k) (L k) (I k))).frozen? _ = _
        unfold elem; exact World.frozen?_alloc_new _ _ _ _
      have hb1 : Below wr.heap.size wr (wr.alloc (elem (S k) (L k) (I k))).drew := ((Below.refl _ _).alloc (Nat.le_refl _) _).drew
      have HA := fun Q => addChild_any w.heap.size wr.heap.size (w.heap.size + 2) v k (ptrs E k) (wr.alloc (elem (S k) (L k) (I k))).drew (.pointer none) (by omega) (by omega) (by simp) hl6 hlf (by rw [hb1.cell (p := ⟨w.heap.size, 5, none⟩) (by show w.heap.size < _; omega)]; exact HB.out.r5) (by rw [hb1.frozen (p := ⟨w.heap.size, 5, none⟩) (by show w.heap.size < _; omega)]; exact HB.out.f5) (HB.out.own.alloc _).drew (fun e => by have := (HB.out.own.lt _ e).2; omega) (by omega) (by simp; omega) Q
      clear hl6 hlf hb1 c0 c1 c2 hi
      go_wp2_with fail
      refine HA _ (Hid.intro ?_)
      intro g cap w2 hadd
      obtain ⟨⟨u0, q0⟩, qf, hbi2⟩ := HB.out.step hlt hadd
      have HB2 : Hid (BI w (w2.setCell ⟨w.heap.size + 1, k, none⟩ (.pointer (some ⟨wr.heap.size, 0, none⟩))) sp lo line n S L I (k + 1) (fun j => if j = k then wr.heap.size else E j) (.slice (some ⟨g, 0, none⟩) (k + 1) cap)) := Hid.intro hbi2
      clear hadd hbi2 HA
      go_wp2_with fail
      go_roundw
      case rel => exact ⟨k + 1, _, _, by omega, by go_num, HB2.out⟩
      case measure => simp [intOf]; omega
    · obtain rfl : k = n := by omega
      go_wp2_with fail
      obtain ⟨ca, cc, ht⟩ := HB.out.tree
      exact hQ.out E ca cc wr ht HB.out.row.2.1 HB.out.bel
end Go.Proofs.Qxb6629177aFmt
