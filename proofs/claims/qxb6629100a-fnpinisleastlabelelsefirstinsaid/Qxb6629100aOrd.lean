/-
  Plain facts on the byte order of strings, and on the least key of a map. No Go in sight.
-/
import Derived.Test.Qxb6629100aMap
namespace Go.Proofs.Qxb6629100a

theorem less_irr : ∀ l : List UInt8, Op.bytesLess l l = false
  | [] => rfl
  | a :: x => by simp [Op.bytesLess, less_irr x]

theorem less_trans : ∀ {a b c : List UInt8}, Op.bytesLess a b = true → Op.bytesLess b c = true → Op.bytesLess a c = true
  | _, _, [], _, h => by simp [Op.bytesLess] at h
  | _, [], _ :: _, h, _ => by simp [Op.bytesLess] at h
  | [], _ :: _, _ :: _, _, _ => rfl
  | a :: x, b :: y, c :: z, h1, h2 => by
    simp only [Op.bytesLess, Bool.or_eq_true, Bool.and_eq_true, decide_eq_true_eq, beq_iff_eq] at h1 h2 ⊢
    rcases h1 with h1 | ⟨e1, h1⟩ <;> rcases h2 with h2 | ⟨e2, h2⟩
    · left; exact UInt8.lt_trans h1 h2
    · left; rw [← e2]; exact h1
    · left; rw [e1]; exact h2
    · right; exact ⟨e1.trans e2, less_trans h1 h2⟩

theorem less_tri : ∀ {a b : List UInt8}, Op.bytesLess a b = false → Op.bytesLess b a = false → a = b
  | [], [], _, _ => rfl
  | [], _ :: _, h, _ => by simp [Op.bytesLess] at h
  | _ :: _, [], _, h => by simp [Op.bytesLess] at h
  | a :: x, b :: y, h1, h2 => by
    simp only [Op.bytesLess, Bool.or_eq_false_iff, Bool.and_eq_false_iff, decide_eq_false_iff_not, beq_eq_false_iff_ne] at h1 h2
    have e : a = b := UInt8.le_antisymm (UInt8.not_lt.1 h2.1) (UInt8.not_lt.1 h1.1)
    subst e
    rcases h1.2 with h | h
    · exact absurd rfl h
    · rcases h2.2 with h' | h'
      · exact absurd rfl h'
      · rw [less_tri h h']

/-- s is a key of mp with no key below it -/
def Least (mp : ByteArray → Option ByteArray) (s : ByteArray) : Prop := (mp s).isSome = true ∧ ∀ t, (mp t).isSome = true → Op.bytesLess t.toList s.toList = false

theorem bytes_toList_inj {a b : ByteArray} (h : a.toList = b.toList) : a = b := by
  rw [ByteArray.toList_eq, ByteArray.toList_eq] at h; exact toList_inj h

theorem Least.unique {mp : ByteArray → Option ByteArray} {s t : ByteArray} (h : Least mp s) (h' : Least mp t) : s = t :=
  bytes_toList_inj (less_tri (h'.2 s h.1) (h.2 t h'.1))

/-- the range's bookkeeping: what has been found among the keys that are no longer to come -/
def Found (mp : ByteArray → Option ByteArray) (left : Lit → Bool) (found : Bool) (s : ByteArray) : Prop :=
  match found with
  | false => ∀ t, (mp t).isSome = true → left (key t) = true
  | true => (mp s).isSome = true ∧ ∀ t, (mp t).isSome = true → left (key t) = false → Op.bytesLess t.toList s.toList = false

theorem sameKey_key {s t : ByteArray} : (key t).sameKey (key s) = true ↔ t = s := by
  constructor
  · intro h; exact key_inj (WideAt.sameKey_eq h)
  · intro h; subst h; simp [key, Lit.sameKey]

theorem left_step {left : Lit → Bool} {x t : ByteArray} (h : (left (key t) && !(key t).sameKey (key x)) = false) : left (key t) = false ∨ t = x := by
  rw [Bool.and_eq_false_iff] at h
  rcases h with h | h
  · exact Or.inl h
  · right
    apply sameKey_key.1
    revert h
    cases (key t).sameKey (key x) <;> simp

theorem Found.take {mp : ByteArray → Option ByteArray} {left : Lit → Bool} {found : Bool} {s x : ByteArray} (h : Found mp left found s) (hx : (mp x).isSome = true) (hc : found = false ∨ Op.bytesLess x.toList s.toList = true) :
    Found mp (fun z => left z && !z.sameKey (key x)) true x := by
  refine ⟨hx, fun t ht hl => ?_⟩
  rcases left_step hl with e | e
  · cases found with
    | false => have h2 := h t ht; rw [e] at h2; cases h2
    | true =>
      rcases hc with hc | hc
      · cases hc
      · have h1 := h.2 t ht e
        cases hlt : Op.bytesLess t.toList x.toList with
        | false => rfl
        | true => rw [less_trans hlt hc] at h1; cases h1
  · subst e; exact less_irr _

theorem Found.keep {mp : ByteArray → Option ByteArray} {left : Lit → Bool} {s x : ByteArray} (h : Found mp left true s) (hc : Op.bytesLess x.toList s.toList = false) :
    Found mp (fun z => left z && !z.sameKey (key x)) true s := by
  refine ⟨h.1, fun t ht hl => ?_⟩
  rcases left_step hl with e | e
  · exact h.2 t ht e
  · subst e; exact hc

theorem Found.done {mp : ByteArray → Option ByteArray} {left : Lit → Bool} {found : Bool} {s t0 : ByteArray} (h : Found mp left found s) (ht : (mp t0).isSome = true) (hl : ∀ kl, left kl = false) : found = true ∧ Least mp s := by
  cases found with
  | false => have := h t0 ht; rw [hl] at this; cases this
  | true => exact ⟨rfl, h.1, fun t ht => h.2 t ht (hl _)⟩

end Go.Proofs.Qxb6629100a
namespace Go.Proofs.Qxb6629100a

/-- the map with one setting more -/
def mpPut (mp : ByteArray → Option ByteArray) (k v : ByteArray) : ByteArray → Option ByteArray := fun t => if t = k then some v else mp t

theorem mpPut_same (mp : ByteArray → Option ByteArray) (k v : ByteArray) : mpPut mp k v k = some v := if_pos rfl
theorem mpPut_other {mp : ByteArray → Option ByteArray} {k v t : ByteArray} (h : t ≠ k) : mpPut mp k v t = mp t := if_neg h
theorem mpPut_key {mp : ByteArray → Option ByteArray} (k v : ByteArray) : (mpPut mp k v k).isSome = true := by rw [mpPut_same]; rfl

/-- a key above the old least one leaves it least -/
theorem least_above {mp : ByteArray → Option ByteArray} {k v l1 l2 v1 v2 : ByteArray} (h1 : Least mp l1) (e1 : mp l1 = some v1) (h2 : Least (mpPut mp k v) l2) (e2 : mpPut mp k v l2 = some v2)
    (hgt : Op.bytesLess k.toList l1.toList = false) (hne : k ≠ l1) : l2 = l1 ∧ v2 = v1 := by
  have hl1 : (mpPut mp k v l1).isSome = true := by rw [mpPut_other (fun e => hne e.symm)]; exact h1.1
  have e : l2 = l1 := by
    by_cases ek : l2 = k
    · subst ek
      have h := h2.2 l1 hl1
      exact absurd (bytes_toList_inj (less_tri hgt h)) hne
    · have hl2 : (mp l2).isSome = true := by have h := h2.1; rwa [mpPut_other ek] at h
      exact bytes_toList_inj (less_tri (h1.2 l2 hl2) (h2.2 l1 hl1))
  subst e
  rw [mpPut_other (fun e => hne e.symm), e1] at e2
  injection e2 with e2
  exact ⟨rfl, e2.symm⟩

/-- a key at or below every old key becomes the least one -/
theorem least_below {mp : ByteArray → Option ByteArray} {k v l2 v2 : ByteArray} (hold : ∀ t, (mp t).isSome = true → Op.bytesLess t.toList k.toList = false) (h2 : Least (mpPut mp k v) l2) (e2 : mpPut mp k v l2 = some v2) : l2 = k ∧ v2 = v := by
  have e : l2 = k := by
    by_cases ek : l2 = k
    · exact ek
    · have hl2 : (mp l2).isSome = true := by have h := h2.1; rwa [mpPut_other ek] at h
      exact bytes_toList_inj (less_tri (hold l2 hl2) (h2.2 k (mpPut_key k v)))
  subst e
  rw [mpPut_same] at e2
  injection e2 with e2
  exact ⟨rfl, e2.symm⟩

/-- k at most the least key: no key below k -/
theorem hold_of_le {mp : ByteArray → Option ByteArray} {k l1 : ByteArray} (h1 : Least mp l1) (hle : Op.bytesLess k.toList l1.toList = true ∨ k = l1) (t : ByteArray) (ht : (mp t).isSome = true) : Op.bytesLess t.toList k.toList = false := by
  rcases hle with h | h
  · cases e : Op.bytesLess t.toList k.toList with
    | false => rfl
    | true => have := h1.2 t ht; rw [less_trans e h] at this; cases this
  · subst h; exact h1.2 t ht

end Go.Proofs.Qxb6629100a
