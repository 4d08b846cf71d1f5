/-
  The label map as a plain function: 'MP D mp': the datum D reads as mp. No Go in sight.
-/
import Derived.Maps.StringElems
import Derived.Maps.OwnOps
namespace Go.Proofs.Qxb6629100a
open Go.Maps

def key (s : ByteArray) : Lit := .string s.data.toList
def val (s : ByteArray) : DataW Unit := .lit (.string s.data.toList)

theorem toList_inj {a b : ByteArray} (h : a.data.toList = b.data.toList) : a = b := by
  cases a; cases b; simp at h; simpa using h
theorem key_inj {a b : ByteArray} (h : key a = key b) : a = b := by
  unfold key at h; injection h with h; exact toList_inj h
theorem val_inj {a b : ByteArray} (h : val a = val b) : a = b := by
  unfold val at h; injection h with h; injection h with h; exact toList_inj h

theorem key_lit (s : ByteArray) : WideAt.IsKeyLit (key s) := by unfold key; trivial

/-- the datum D reads as the plain map mp -/
def MP (D : DataW Unit) (mp : ByteArray → Option ByteArray) : Prop :=
  IsMap D ∧ ∀ s, Maps.has D (key s) = (mp s).isSome ∧ ∀ v, mp s = some v → ∀ z, D.atKey (key s) z = val v

theorem MP_empty : MP (.map []) (fun _ => none) := ⟨isMap_empty, fun s => ⟨rfl, fun v h => by cases h⟩⟩

theorem MP.put {D : DataW Unit} {mp : ByteArray → Option ByteArray} (h : MP D mp) (s v : ByteArray) : MP (D.put (key s) (val v)) (fun t => if t = s then some v else mp t) := by
  refine ⟨h.1.put _ _, fun t => ?_⟩
  by_cases e : t = s
  · subst e
    simp only [if_true]
    refine ⟨?_, fun v' hv' z => ?_⟩
    · rw [has_put_same h.1 (key_lit t)]; rfl
    · injection hv' with hv'; subst hv'
      exact atKey_put_same h.1 (key_lit t) _ _
  · simp only [if_neg e]
    have hne : key t ≠ key s := fun h => e (key_inj h)
    refine ⟨?_, fun v' hv' z => ?_⟩
    · rw [has_put_other hne]; exact (h.2 t).1
    · rw [atKey_put_other hne]; exact (h.2 t).2 v' hv' z

/-- the map after n settings, a later one over an earlier one -/
def mpTo (f g : Nat → ByteArray) : Nat → ByteArray → Option ByteArray
  | 0 => fun _ => none
  | n + 1 => fun t => if t = f n then some (g n) else mpTo f g n t

theorem MP.size_pos {D : DataW Unit} {mp : ByteArray → Option ByteArray} (h : MP D mp) {s : ByteArray} (hs : (mp s).isSome = true) : 0 < Maps.size D := by
  obtain ⟨es, rfl⟩ := h.1
  have := (h.2 s).1
  rw [hs, has_eq] at this
  rw [size_eq]
  cases es with
  | nil => simp at this
  | cons a b => simp

theorem mpTo_some {f g : Nat → ByteArray} : ∀ {n : Nat} {t : ByteArray}, (mpTo f g n t).isSome = true ↔ ∃ i, i < n ∧ f i = t
  | 0, t => by simp [mpTo]
  | n + 1, t => by
    unfold mpTo
    by_cases e : t = f n
    · simp only [if_pos e]
      exact ⟨fun _ => ⟨n, by omega, e.symm⟩, fun _ => rfl⟩
    · simp only [if_neg e]
      rw [mpTo_some]
      constructor
      · rintro ⟨i, hi, h⟩; exact ⟨i, by omega, h⟩
      · rintro ⟨i, hi, h⟩
        by_cases e2 : i = n
        · subst e2; exact absurd h.symm e
        · exact ⟨i, by omega, h⟩

/-- the value is that of the last setting -/
theorem mpTo_last {f g : Nat → ByteArray} {t : ByteArray} : ∀ {n : Nat} (i : Nat), i < n → f i = t → (∀ j, i < j → j < n → f j ≠ t) → mpTo f g n t = some (g i)
  | 0, i, h, _, _ => by omega
  | n + 1, i, h, hf, hl => by
    unfold mpTo
    by_cases e : t = f n
    · simp only [if_pos e]
      by_cases e2 : i = n
      · rw [e2]
      · exact absurd e.symm (hl n (by omega) (by omega))
    · simp only [if_neg e]
      refine mpTo_last i ?_ hf (fun j h1 h2 => hl j h1 (by omega))
      rcases Nat.lt_or_ge i n with h' | h'
      · exact h'
      · have : i = n := by omega
        subst this; exact absurd hf.symm e

end Go.Proofs.Qxb6629100a
