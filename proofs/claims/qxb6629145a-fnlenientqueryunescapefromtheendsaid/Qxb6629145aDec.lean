/-
  The decoder as a plain function on lists of bytes, and its laws. No Go in sight.
-/
import Derived.Laws.Strings
namespace Go.Proofs.Qxb6629145a

/-- is the byte a hex digit? (over Int, as the walk spells a byte) -/
def hexI (c : Int) : Bool := decide ((48 ≤ c ∧ c ≤ 57) ∨ (97 ≤ c ∧ c ≤ 102) ∨ (65 ≤ c ∧ c ≤ 70))
/-- a hex digit's value -/
def valI (c : Int) : Int := if c ≤ 57 then c - 48 else if c ≤ 70 then c - 55 else c - 87

theorem hexI_iff {c : Int} : hexI c = true ↔ (48 ≤ c ∧ c ≤ 57) ∨ (97 ≤ c ∧ c ≤ 102) ∨ (65 ≤ c ∧ c ≤ 70) := by unfold hexI; exact decide_eq_true_iff
theorem hexI_not {c : Int} : hexI c = false ↔ ¬ ((48 ≤ c ∧ c ≤ 57) ∨ (97 ≤ c ∧ c ≤ 102) ∨ (65 ≤ c ∧ c ≤ 70)) := by unfold hexI; exact decide_eq_false_iff_not
theorem valI_range {c : Int} (h : hexI c = true) : 0 ≤ valI c ∧ valI c ≤ 15 := by
  rw [hexI_iff] at h; unfold valI; split
  · omega
  · split <;> omega

def hexB (c : UInt8) : Bool := hexI c.toNat
/-- the byte of an escape -/
def byteOf (a b : UInt8) : UInt8 := UInt8.ofNat (valI a.toNat * 16 + valI b.toNat).toNat
/-- a byte that starts no escape -/
def plainB (c : UInt8) : UInt8 := if c = 43 then 32 else c

/-- the decoder, from the front -/
def dec : List UInt8 → List UInt8
  | [] => []
  | [c] => [plainB c]
  | [c, d] => [plainB c, plainB d]
  | c :: a :: b :: r => if c = 37 ∧ hexB a = true ∧ hexB b = true then byteOf a b :: dec r else plainB c :: dec (a :: b :: r)

theorem dec_esc {a b : UInt8} (ha : hexB a = true) (hb : hexB b = true) (r : List UInt8) : dec (37 :: a :: b :: r) = byteOf a b :: dec r := by
  rw [dec, if_pos ⟨rfl, ha, hb⟩]

/-- where no escape starts -/
def starts (l : List UInt8) : Prop := ∃ a b r, l = 37 :: a :: b :: r ∧ hexB a = true ∧ hexB b = true

theorem dec_plain {c : UInt8} {l : List UInt8} (h : ¬ starts (c :: l)) : dec (c :: l) = plainB c :: dec l := by
  match l with
  | [] => rfl
  | [d] => rfl
  | a :: b :: r =>
    rw [dec, if_neg]
    rintro ⟨rfl, ha, hb⟩
    exact h ⟨a, b, r, rfl, ha, hb⟩

theorem hexB_pct : hexB 37 = false := by decide

/-- a '%' is never a digit of an earlier escape: the decoder splits there -/
theorem dec_cut : ∀ (n : Nat) (p s : List UInt8), p.length ≤ n → dec (p ++ 37 :: s) = dec p ++ dec (37 :: s)
  | _, [], s, _ => by simp [dec]
  | 0, c :: p, s, h => by simp at h
  | n + 1, c :: p, s, h => by
    by_cases hs : starts (c :: p)
    · obtain ⟨a, b, r, e, ha, hb⟩ := hs
      rw [e]
      have e1 : (37 :: a :: b :: r : List UInt8) ++ 37 :: s = 37 :: a :: b :: (r ++ 37 :: s) := rfl
      rw [e1, dec_esc ha hb, dec_esc ha hb, List.cons_append]
      congr 1
      refine dec_cut n r s ?_
      have := congrArg List.length e
      simp at this h
      omega
    · have hs2 : ¬ starts (c :: (p ++ 37 :: s)) := by
        rintro ⟨a, b, r, e, ha, hb⟩
        match p, e with
        | [], e => simp at e; rw [← e.2.1] at ha; rw [hexB_pct] at ha; cases ha
        | [d], e => simp at e; rw [← e.2.2.1] at hb; rw [hexB_pct] at hb; cases hb
        | x :: y :: z, e =>
          simp at e
          obtain ⟨rfl, rfl, rfl, _⟩ := e
          exact hs ⟨x, y, z, rfl, ha, hb⟩
      rw [List.cons_append, dec_plain hs2, dec_plain hs, List.cons_append]
      congr 1
      exact dec_cut n p s (by simp at h; omega)

/-- the text ends in an escape -/
def ends (l : List UInt8) : Prop := ∃ p a b, l = p ++ [37, a, b] ∧ hexB a = true ∧ hexB b = true

theorem dec_end_esc (p : List UInt8) {a b : UInt8} (ha : hexB a = true) (hb : hexB b = true) : dec (p ++ [37, a, b]) = dec p ++ [byteOf a b] := by
  rw [dec_cut _ p [a, b] (Nat.le_refl _), dec_esc ha hb]; rfl

theorem dec_end_plain : ∀ (n : Nat) (p : List UInt8) (c : UInt8), p.length ≤ n → ¬ ends (p ++ [c]) → dec (p ++ [c]) = dec p ++ [plainB c]
  | _, [], c, _, _ => rfl
  | 0, x :: p, c, h, _ => by simp at h
  | n + 1, x :: p, c, h, he => by
    by_cases hs : starts (x :: p)
    · obtain ⟨a, b, r, e, ha, hb⟩ := hs
      rw [e] at he ⊢
      have e1 : (37 :: a :: b :: r : List UInt8) ++ [c] = 37 :: a :: b :: (r ++ [c]) := rfl
      rw [e1, dec_esc ha hb, dec_esc ha hb, List.cons_append]
      congr 1
      refine dec_end_plain n r c ?_ ?_
      · have := congrArg List.length e
        simp at this h
        omega
      · rintro ⟨p', a', b', e', ha', hb'⟩
        exact he ⟨37 :: a :: b :: p', a', b', by rw [e1, e']; rfl, ha', hb'⟩
    · have hs2 : ¬ starts (x :: (p ++ [c])) := by
        rintro ⟨a, b, r, e, ha, hb⟩
        match p, e with
        | [], e => simp at e
        | [d], e =>
          simp at e
          obtain ⟨rfl, rfl, rfl, rfl⟩ := e
          exact he ⟨[], d, c, rfl, ha, hb⟩
        | y :: z :: q, e =>
          simp at e
          obtain ⟨rfl, rfl, rfl, _⟩ := e
          exact hs ⟨y, z, q, rfl, ha, hb⟩
      rw [List.cons_append, dec_plain hs2, dec_plain hs, List.cons_append]
      congr 1
      refine dec_end_plain n p c (by simp at h; omega) ?_
      rintro ⟨p', a', b', e', ha', hb'⟩
      exact he ⟨x :: p', a', b', by rw [List.cons_append, e']; rfl, ha', hb'⟩

theorem dec_length (n : Nat) : ∀ l : List UInt8, l.length ≤ n → (dec l).length ≤ l.length := by
  induction n with
  | zero => intro l h; match l, h with | [], _ => simp [dec]
  | succ n ih =>
    intro l h
    match l with
    | [] => simp [dec]
    | c :: l =>
      by_cases hs : starts (c :: l)
      · obtain ⟨a, b, r, e, ha, hb⟩ := hs
        rw [e, dec_esc ha hb]
        rw [e] at h
        simp at h ⊢
        have := ih r (by omega)
        omega
      · rw [dec_plain hs]
        simp at h ⊢
        exact ih l h

end Go.Proofs.Qxb6629145a
