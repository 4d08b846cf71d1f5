/-
  Contracts of the small functions: isHex, unhex, escapeAt, zzHexVal, zzHexDigit, zzBytes.
-/
import Derived.Test.Qxb6629145aRows
import Derived.Test.Qxb6629145aDec
import Derived.WalkKit
import Derived.ProofKit
import Derived.WalkLawsBesides
import Derived.WalkSpells
import Derived.Handy
import Derived.BigQuiet
import Derived.Deep.QuietTactic
namespace Go.Proofs.Qxb6629145a
open Go.ChangeShapes Go.WideShapes Go.ChangeAt Go.RowKit

theorem Hid.intro {p : Prop} (h : p) : Hid p := h

theorem isHex_any (c : Int) (h0 : 0 ≤ c) (h1 : c ≤ 255) (w : World) (Q : Ending → World → Prop) (hQ : Hid (Q (.returned (.bool (hexI c))) w)) : Calls Try.prog 17 #[.int .u8 c] w Q := by
  by_cases a : 48 ≤ c
  · by_cases b : c ≤ 57
    · have hq := hQ.out
      rw [hexI_iff.2 (by omega)] at hq
      clear hQ
      go_enter Try.func17, Try.ntmps17
      go_wp2
      exact hq
    · by_cases e : 97 ≤ c
      · by_cases f : c ≤ 102
        · have hq := hQ.out
          rw [hexI_iff.2 (by omega)] at hq
          clear hQ
          go_enter Try.func17, Try.ntmps17
          go_wp2
          exact hq
        · have hq := hQ.out
          rw [hexI_not.2 (by omega)] at hq
          clear hQ
          go_enter Try.func17, Try.ntmps17
          go_wp2
          rw [show decide (c ≤ 70) = false from decide_eq_false (by omega)]
          exact hq
      · by_cases f : 65 ≤ c
        · by_cases g : c ≤ 70
          · have hq := hQ.out
            rw [hexI_iff.2 (by omega)] at hq
            clear hQ
            go_enter Try.func17, Try.ntmps17
            go_wp2
            exact hq
          · have hq := hQ.out
            rw [hexI_not.2 (by omega)] at hq
            clear hQ
            go_enter Try.func17, Try.ntmps17
            go_wp2
            exact hq
        · have hq := hQ.out
          rw [hexI_not.2 (by omega)] at hq
          clear hQ
          go_enter Try.func17, Try.ntmps17
          go_wp2
          exact hq
  · have hq := hQ.out
    rw [hexI_not.2 (by omega)] at hq
    clear hQ
    go_enter Try.func17, Try.ntmps17
    go_wp2
    exact hq

theorem unhex_any (c : Int) (h : hexI c = true) (w : World) (Q : Ending → World → Prop) (hQ : Hid (Q (.returned (.int .u8 (valI c))) w)) : Calls Try.prog 13 #[.int .u8 c] w Q := by
  rw [hexI_iff] at h
  by_cases a : c ≤ 57
  · have hq := hQ.out
    rw [show valI c = c - 48 by unfold valI; exact if_pos a] at hq
    have h1 : 48 ≤ c := by omega
    clear h hQ
    go_enter Try.func13, Try.ntmps13
    go_wp2
    exact hq
  · by_cases b : c ≤ 70
    · have hq := hQ.out
      rw [show valI c = c - 65 + 10 by unfold valI; rw [if_neg a, if_pos b]; omega] at hq
      have h1 : 65 ≤ c := by omega
      clear h hQ
      go_enter Try.func13, Try.ntmps13
      go_wp2
      exact hq
    · have hq := hQ.out
      rw [show valI c = c - 97 + 10 by unfold valI; rw [if_neg a, if_neg b]; omega] at hq
      have h1 : 97 ≤ c := by omega
      have h2 : c ≤ 102 := by omega
      clear h hQ
      go_enter Try.func13, Try.ntmps13
      go_wp2
      exact hq

theorem or32_fin : ∀ n : Fin 256, (0 ≤ bits BinOp.or IntKind.u8 (n.val : Int) 32 ∧ bits BinOp.or IntKind.u8 (n.val : Int) 32 ≤ 255) ∧
    ((97 ≤ bits BinOp.or IntKind.u8 (n.val : Int) 32 ∧ bits BinOp.or IntKind.u8 (n.val : Int) 32 ≤ 102) ↔ ((97 ≤ (n.val : Int) ∧ (n.val : Int) ≤ 102) ∨ (65 ≤ (n.val : Int) ∧ (n.val : Int) ≤ 70))) ∧
    (97 ≤ (n.val : Int) → (n.val : Int) ≤ 102 → bits BinOp.or IntKind.u8 (n.val : Int) 32 = n.val) ∧ (65 ≤ (n.val : Int) → (n.val : Int) ≤ 70 → bits BinOp.or IntKind.u8 (n.val : Int) 32 = n.val + 32) := by decide +kernel

theorem or32 (c : Int) (h0 : 0 ≤ c) (h1 : c ≤ 255) : ∃ L, bits BinOp.or IntKind.u8 c 32 = L ∧ 0 ≤ L ∧ L ≤ 255 ∧ ((97 ≤ L ∧ L ≤ 102) ↔ ((97 ≤ c ∧ c ≤ 102) ∨ (65 ≤ c ∧ c ≤ 70))) ∧ (97 ≤ c → c ≤ 102 → L = c) ∧ (65 ≤ c → c ≤ 70 → L = c + 32) := by
  obtain ⟨n, rfl⟩ := Int.eq_ofNat_of_zero_le h0
  obtain ⟨a, b, d, e⟩ := or32_fin ⟨n, by omega⟩
  exact ⟨_, rfl, a.1, a.2, b, d, e⟩

/-- what zzHexVal gives -/
def hvI (c : Int) : Int := if hexI c then valI c else -1
theorem hvI_pos {c : Int} (h : hexI c = true) : hvI c = valI c := if_pos h
theorem hvI_neg {c : Int} (h : hexI c = false) : hvI c = -1 := by unfold hvI; rw [h]; rfl

theorem hexVal_any (c : Int) (h0 : 0 ≤ c) (h1 : c ≤ 255) (w : World) (Q : Ending → World → Prop) (hQ : Hid (Q (.returned (.int .i64 (hvI c))) w)) : Calls Try.prog 16 #[.int .u8 c] w Q := by
  obtain ⟨L, hL, l0, l1, l2, l3, l4⟩ := or32 c h0 h1
  by_cases d : 48 ≤ c ∧ c ≤ 57
  · have hq := hQ.out
    rw [hvI_pos (hexI_iff.2 (by omega)), show valI c = c - 48 by unfold valI; exact if_pos d.2] at hq
    obtain ⟨d1, d2⟩ := d
    clear hQ l2 l3 l4
    go_enter Try.func16, Try.ntmps16
    go_wp2
    exact hq
  · by_cases e : 97 ≤ c ∧ c ≤ 102
    · have hq := hQ.out
      rw [hvI_pos (hexI_iff.2 (by omega)), show valI c = c - 97 + 10 by unfold valI; rw [if_neg (by omega), if_neg (by omega)]; omega] at hq
      have hLc := l3 e.1 e.2
      subst hLc
      obtain ⟨e1, e2⟩ := e
      clear hQ l2 l3 l4 d
      go_enter Try.func16, Try.ntmps16
      go_wp2
      exact hq
    · by_cases f : 65 ≤ c ∧ c ≤ 70
      · have hq := hQ.out
        rw [hvI_pos (hexI_iff.2 (by omega)), show valI c = c + 32 - 97 + 10 by unfold valI; rw [if_neg (by omega), if_pos (by omega)]; omega] at hq
        have hLc := l4 f.1 f.2
        subst hLc
        obtain ⟨f1, f2⟩ := f
        clear hQ l2 l3 l4 d e
        go_enter Try.func16, Try.ntmps16
        go_wp2
        all_goals first | exact hq | go_show
      · have hq := hQ.out
        rw [hvI_neg (hexI_not.2 (by omega))] at hq
        have l5 : ¬ (97 ≤ L ∧ L ≤ 102) := fun h => by have := l2.1 h; omega
        clear hQ l2 l3 l4 e f
        by_cases g : 97 ≤ L
        · have g2 : ¬ L ≤ 102 := fun h => l5 ⟨g, h⟩
          clear l5
          by_cases k : 48 ≤ c
          · have k2 : ¬ c ≤ 57 := fun h => d ⟨k, h⟩
            clear d
            go_enter Try.func16, Try.ntmps16
            go_wp2
            exact hq
          · clear d
            go_enter Try.func16, Try.ntmps16
            go_wp2
            exact hq
        · clear l5
          by_cases k : 48 ≤ c
          · have k2 : ¬ c ≤ 57 := fun h => d ⟨k, h⟩
            clear d
            go_enter Try.func16, Try.ntmps16
            go_wp2
            exact hq
          · clear d
            go_enter Try.func16, Try.ntmps16
            go_wp2
            exact hq

/-- byte i of a string, as the walk spells it -/
def bt (s : ByteArray) (i : Nat) : Int := (s.data.toList.getD i 0).toNat
theorem bt_get (s : ByteArray) (i : Nat) (h : i < s.size) : ((s[i]'h).toNat : Int) = bt s i := by
  unfold bt
  rw [List.getD_eq_getElem?_getD, List.getElem?_eq_getElem (by simpa using h)]
  rfl
theorem bt_range (s : ByteArray) (i : Nat) : 0 ≤ bt s i ∧ bt s i ≤ 255 := by
  unfold bt
  have := (s.data.toList.getD i 0).toNat_lt
  omega

/-- does an escape stand at i? (there is a '%' at i: the caller sees to that) -/
def escB (s : ByteArray) (i : Nat) : Bool := decide (i + 2 < s.size) && (hexI (bt s (i + 1)) && hexI (bt s (i + 2)))

theorem escapeAt_any (s : ByteArray) (i : Nat) (hs : s.size ≤ 4000000) (hi : i < s.size) (w : World) (Q : Ending → World → Prop) (hQ : Hid (Q (.returned (.bool (escB s i))) w)) : Calls Try.prog 10 #[.string s, .int .i64 i] w Q := by
  by_cases h : i + 2 < s.size
  · have b1 := bt_range s (i + 1)
    have b2 := bt_range s (i + 2)
    have HB1 : Hid (((s[i + 1]'(by omega)).toNat : Int) = bt s (i + 1)) := bt_get s (i + 1) (by omega)
    have HB2 : Hid (((s[i + 2]'(by omega)).toNat : Int) = bt s (i + 2)) := bt_get s (i + 2) (by omega)
    cases hx : hexI (bt s (i + 1)) with
    | false =>
      have hq := hQ.out
      rw [show escB s i = false by unfold escB; rw [hx]; simp] at hq
      clear hQ
      go_enter Try.func10, Try.ntmps10
      go_wp2_with fail
      rw [HB1.out]
      refine isHex_any _ b1.1 b1.2 _ _ (Hid.intro ?_)
      rw [hx]
      go_wp2_with fail
      exact hq
    | true =>
      have hq := hQ.out
      rw [show escB s i = hexI (bt s (i + 2)) by unfold escB; rw [hx]; simp [h]] at hq
      clear hQ
      go_enter Try.func10, Try.ntmps10
      go_wp2_with fail
      rw [HB1.out]
      refine isHex_any _ b1.1 b1.2 _ _ (Hid.intro ?_)
      rw [hx]
      go_wp2_with fail
      rw [HB2.out]
      refine isHex_any _ b2.1 b2.2 _ _ (Hid.intro ?_)
      go_wp2_with fail
      exact hq
  · have hq := hQ.out
    rw [show escB s i = false by unfold escB; simp [h]] at hq
    clear hQ
    go_enter Try.func10, Try.ntmps10
    go_wp2_with fail
    exact hq

end Go.Proofs.Qxb6629145a
