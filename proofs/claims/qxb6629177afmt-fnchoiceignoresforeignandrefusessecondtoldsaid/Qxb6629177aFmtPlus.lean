/-
  The plain part of FnChoiceIgnoresForeignAndRefusesSecond: one child more among the children, and how its slice reads in memory.
-/
import Derived.Test.Qxb6629177aFmtChoice
namespace Go.Proofs.Qxb6629177aFmt
open Go.ChangeShapes Go.WideShapes Go.ChangeAt Go.RowKit

/-- f with x put in at place k -/
def plus {α : Type} (k : Nat) (x : α) (f : Nat → α) (i : Nat) : α := if i < k then f i else if i = k then x else f (i - 1)

theorem plus_lt {α : Type} {k : Nat} (x : α) (f : Nat → α) {i : Nat} (h : i < k) : plus k x f i = f i := if_pos h
theorem plus_at {α : Type} (k : Nat) (x : α) (f : Nat → α) : plus k x f k = x := by unfold plus; rw [if_neg (Nat.lt_irrefl _), if_pos rfl]
theorem plus_gt {α : Type} {k : Nat} (x : α) (f : Nat → α) {i : Nat} (h : k ≤ i) : plus k x f (i + 1) = f i := by
  unfold plus; rw [if_neg (by omega), if_neg (by omega)]; rfl

theorem cnt_succ (S : Nat → ByteArray) (sp : ByteArray) (k : Nat) : cnt S sp (k + 1) = cnt S sp k + if ((S k).toList == sp.toList) = true then 1 else 0 := rfl
theorem fst_succ (S : Nat → ByteArray) (sp : ByteArray) (k : Nat) : fst S sp (k + 1) = if fst S sp k < 0 ∧ ((S k).toList == sp.toList) = true then (k : Int) else fst S sp k := rfl

theorem plus_before (k : Nat) (x : ByteArray) (S : Nat → ByteArray) (sp : ByteArray) (i : Nat) (h : i ≤ k) : cnt (plus k x S) sp i = cnt S sp i ∧ fst (plus k x S) sp i = fst S sp i := by
  induction i with
  | zero => exact ⟨rfl, rfl⟩
  | succ i ih =>
    obtain ⟨e1, e2⟩ := ih (by omega)
    rw [cnt_succ, cnt_succ, fst_succ, fst_succ, plus_lt x S (by omega), e1, e2]
    exact ⟨rfl, rfl⟩

theorem cnt_plus (k : Nat) (x : ByteArray) (S : Nat → ByteArray) (sp : ByteArray) (d : Nat) : cnt (plus k x S) sp (k + d + 1) = cnt S sp (k + d) + if (x.toList == sp.toList) = true then 1 else 0 := by
  induction d with
  | zero =>
    show cnt (plus k x S) sp (k + 1) = cnt S sp k + _
    rw [cnt_succ, plus_at, (plus_before k x S sp k (Nat.le_refl _)).1]
  | succ d ih =>
    show cnt (plus k x S) sp (k + d + 1 + 1) = cnt S sp (k + d + 1) + _
    rw [cnt_succ, ih, plus_gt x S (by omega), cnt_succ]; omega

theorem fst_plus_no (k : Nat) (x : ByteArray) (S : Nat → ByteArray) (sp : ByteArray) (hx : (x.toList == sp.toList) = false) (d : Nat) : fst (plus k x S) sp (k + d + 1) = if (k : Int) ≤ fst S sp (k + d) then fst S sp (k + d) + 1 else fst S sp (k + d) := by
  induction d with
  | zero =>
    show fst (plus k x S) sp (k + 1) = if (k : Int) ≤ fst S sp k then fst S sp k + 1 else fst S sp k
    rw [fst_succ, plus_at, (plus_before k x S sp k (Nat.le_refl _)).2, hx, if_neg (fun h => by cases h.2)]
    have := (fst_range S sp k).2
    rw [if_neg (by omega)]
  | succ d ih =>
    show fst (plus k x S) sp (k + d + 1 + 1) = if (k : Int) ≤ fst S sp (k + d + 1) then fst S sp (k + d + 1) + 1 else fst S sp (k + d + 1)
    rw [fst_succ, ih, plus_gt x S (by omega), fst_succ S sp (k + d)]
    have h1 := (fst_range S sp (k + d)).1
    cases hb : ((S (k + d)).toList == sp.toList) with
    | false => simp
    | true =>
      simp only [and_true]
      by_cases h0 : fst S sp (k + d) < 0
      · rw [if_pos h0, if_neg (show ¬ (k : Int) ≤ fst S sp (k + d) by omega), if_pos h0, if_pos (by omega)]; omega
      · rw [if_neg h0]
        split
        · rw [if_neg (by omega)]
        · rfl

theorem fst_plus_yes (k : Nat) (x : ByteArray) (S : Nat → ByteArray) (sp : ByteArray) (hx : (x.toList == sp.toList) = true) (d : Nat) (h0 : cnt S sp (k + d) = 0) : fst (plus k x S) sp (k + d + 1) = k := by
  induction d with
  | zero =>
    have h0 : cnt S sp k = 0 := h0
    show fst (plus k x S) sp (k + 1) = k
    rw [fst_succ, plus_at, (plus_before k x S sp k (Nat.le_refl _)).2, hx, (fst_facts S sp k).1 h0, if_pos ⟨by omega, rfl⟩]
  | succ d ih =>
    have h1 : cnt S sp (k + d) = 0 := by
      have := cnt_mono S sp (show k + d ≤ k + (d + 1) by omega)
      omega
    show fst (plus k x S) sp (k + d + 1 + 1) = k
    rw [fst_succ, ih h1, if_neg (fun h => by omega)]

/-- the cells of the first j children -/
def cells3 (S L : Nat → ByteArray) (I : Nat → Int) : Nat → List Value
  | 0 => []
  | j + 1 => cells3 S L I j ++ [.string (S j), .string (L j), .int .i64 (I j)]

theorem cells3_len (S L : Nat → ByteArray) (I : Nat → Int) (j : Nat) : (cells3 S L I j).length = j * 3 := by
  induction j with
  | zero => rfl
  | succ j ih => show (cells3 S L I j ++ _).length = _; rw [List.length_append, ih]; simp; omega

theorem cells3_get (S L : Nat → ByteArray) (I : Nat → Int) (m j : Nat) (h : j < m) : (cells3 S L I m)[j * 3]? = some (.string (S j)) ∧ (cells3 S L I m)[j * 3 + 1]? = some (.string (L j)) ∧ (cells3 S L I m)[j * 3 + 2]? = some (.int .i64 (I j)) := by
  induction m with
  | zero => omega
  | succ m ih =>
    show (cells3 S L I m ++ _)[j * 3]? = _ ∧ (cells3 S L I m ++ _)[j * 3 + 1]? = _ ∧ (cells3 S L I m ++ _)[j * 3 + 2]? = _
    have hl := cells3_len S L I m
    by_cases e : j = m
    · subst e
      refine ⟨?_, ?_, ?_⟩
      · rw [List.getElem?_append_right (by omega), hl, Nat.sub_self]; rfl
      · rw [List.getElem?_append_right (by omega), hl, show j * 3 + 1 - j * 3 = 1 by omega]; rfl
      · rw [List.getElem?_append_right (by omega), hl, show j * 3 + 2 - j * 3 = 2 by omega]; rfl
    · obtain ⟨e1, e2, e3⟩ := ih (by omega)
      refine ⟨?_, ?_, ?_⟩
      · rw [List.getElem?_append_left (by omega)]; exact e1
      · rw [List.getElem?_append_left (by omega)]; exact e2
      · rw [List.getElem?_append_left (by omega)]; exact e3

/-- a slice of the call's own, read as children -/
theorem cv_own {w : World} {base g m cap : Nat} {S L : Nat → ByteArray} {I : Nat → Int} (h : w.ownsRow base 36 3 (.slice (some ⟨g, 0, none⟩) m cap) m (cells3 S L I m)) (hz : ∀ j, j < m → (S j).size ≤ maxLen ∧ (L j).size ≤ maxLen) (hm : m ≤ maxLen) :
    CV w (some ⟨g, 0, none⟩) m S L I := by
  refine ⟨fun _ => rfl, fun j hj => ?_, hz, hm⟩
  have e : atz 3 (some ⟨g, 0, none⟩) j = ⟨g, j * 3, none⟩ := by
    show (⟨g, 0, none⟩ : Addr).add (j * 3) = _; rw [add_plain, Nat.zero_add]
  obtain ⟨e1, e2, e3⟩ := cells3_get S L I m j hj
  rw [e]
  refine ⟨?_, ?_, ?_⟩
  · rw [h.cellAt (j * 3) (by omega)]; exact e1
  · show w.cell? ⟨g, j * 3 + 1, none⟩ = _; rw [h.cellAt (j * 3 + 1) (by omega)]; exact e2
  · show w.cell? ⟨g, j * 3 + 2, none⟩ = _; rw [h.cellAt (j * 3 + 2) (by omega)]; exact e3

theorem plus_size (k : Nat) (x : ByteArray) (S : Nat → ByteArray) (n : Nat) {b : Nat} (hk : k ≤ n) (hx : x.size ≤ b) (h : ∀ j, j < n → (S j).size ≤ b) (j : Nat) (hj : j < n + 1) : (plus k x S j).size ≤ b := by
  unfold plus
  split
  · exact h j (by omega)
  · split
    · exact hx
    · exact h (j - 1) (by omega)

theorem cells3_congr {S L S' L' : Nat → ByteArray} {I I' : Nat → Int} {m : Nat} (h : ∀ j, j < m → S j = S' j ∧ L j = L' j ∧ I j = I' j) : cells3 S L I m = cells3 S' L' I' m := by
  induction m with
  | zero => rfl
  | succ m ih =>
    show cells3 S L I m ++ _ = cells3 S' L' I' m ++ _
    obtain ⟨e1, e2, e3⟩ := h m (by omega)
    rw [ih (fun j hj => h j (by omega)), e1, e2, e3]

/-- one round's append: what the call owns, one child more -/
theorem own_more {w wr w3 : World} {v : Value} {j g cap : Nat} {S L : Nat → ByteArray} {I : Nat → Int} {s l : ByteArray} {x : Int} {o : Obj} (e1 : S j = s) (e2 : L j = l) (e3 : I j = x) (hw : w.heap.size ≤ wr.heap.size) (ho : wr.ownsRow w.heap.size 36 3 v j (cells3 S L I j)) (hb : Below w.heap.size w wr) (hg : (wr.alloc o).grownBy w3 v.ownBlock)
    (h3 : w3.ownsRow w.heap.size 36 3 (.slice (some ⟨g, 0, none⟩) (j + 1) cap) (j + 1) (cells3 S L I j ++ [.string s, .string l, .int .i64 x])) :
    w3.ownsRow w.heap.size 36 3 (.slice (some ⟨g, 0, none⟩) (j + 1) cap) (j + 1) (cells3 S L I (j + 1)) ∧ Below w.heap.size w w3 := by
  subst e1; subst e2; subst e3
  exact ⟨h3, (hb.alloc hw o).grown hg (by rw [World.size_alloc]; omega) (fun k hk => (ho.lt k hk).1)⟩

/-- the law, in plain words: the count and the first place behind the insertion -/
theorem plus_law (k n : Nat) (hk : k ≤ n) (x : ByteArray) (S : Nat → ByteArray) (sp : ByteArray) :
    ((x.toList == sp.toList) = false → cnt (plus k x S) sp (n + 1) = cnt S sp n ∧ fst (plus k x S) sp (n + 1) = if (k : Int) ≤ fst S sp n then fst S sp n + 1 else fst S sp n) ∧
    ((x.toList == sp.toList) = true → cnt (plus k x S) sp (n + 1) = cnt S sp n + 1 ∧ (cnt S sp n = 0 → fst (plus k x S) sp (n + 1) = k)) := by
  obtain ⟨d, rfl⟩ : ∃ d, n = k + d := ⟨n - k, by omega⟩
  refine ⟨fun h => ⟨?_, fst_plus_no k x S sp h d⟩, fun h => ⟨?_, fst_plus_yes k x S sp h d⟩⟩
  · rw [cnt_plus, h]; rfl
  · rw [cnt_plus, if_pos h]
end Go.Proofs.Qxb6629177aFmt
