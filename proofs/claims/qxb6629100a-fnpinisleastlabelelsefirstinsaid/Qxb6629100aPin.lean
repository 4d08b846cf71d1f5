/-
  The contracts of (*LabelSelector).Pin.
-/
import Derived.Test.Qxb6629100aBuild
import Derived.Test.Qxb6629100aOrd
namespace Go.Proofs.Qxb6629100a
open Go.ChangeShapes Go.WideShapes Go.ChangeAt Go.RowKit

theorem pin_nil (w : World) (Q : Ending → World → Prop)
    (hQ : Hid (∀ w', Below w.heap.size w w' → Q (.returned (.tuple #[.agg #[.string ⟨#[]⟩, .bool false, .slice none 0 0, .bool false, .pointer none], .bool false])) w')) :
    Calls Try.prog 10 #[.pointer none] w Q := by
  go_enter Try.func10, Try.ntmps10
  go_wp2
  go_returns
  exact hQ.out _ ((Below.refl _ _).alloc (Nat.le_refl _) _)

theorem Maps.keyOf_string_inv {key' : Value} {kl : Lit} (h : keyOf Try.prog 9 key' = some kl) : ∃ x : ByteArray, key' = .string x ∧ kl = key x ∧ x.size ≤ maxLen := by
  cases key' <;> simp [keyOf, Try.underlying9, mapKey] at h
  exact ⟨_, rfl, h.2.symm, h.1⟩

theorem zero9 (w : World) : (zeroValue 9).run Try.prog w = .ok (.string ByteArray.empty) w := by kernel_rfl

/-- five stores into one block -/
def five (wr : World) (b : Nat) (v0 v1 v2 v3 v4 : Value) : World :=
  ((((wr.setCell ⟨b, 0, none⟩ v0).setCell ⟨b, 1, none⟩ v1).setCell ⟨b, 2, none⟩ v2).setCell ⟨b, 3, none⟩ v3).setCell ⟨b, 4, none⟩ v4

theorem five_size (wr : World) (b : Nat) (v0 v1 v2 v3 v4 : Value) : (five wr b v0 v1 v2 v3 v4).heap.size = wr.heap.size := by
  unfold five; rw [World.size_setCell, World.size_setCell, World.size_setCell, World.size_setCell, World.size_setCell]

theorem five_below {B : Nat} {w wr : World} (h : Below B w wr) {b : Nat} (hb : B ≤ b) (v0 v1 v2 v3 v4 : Value) : Below B w (five wr b v0 v1 v2 v3 v4) :=
  ((((h.setCell (p := ⟨b, 0, none⟩) hb v0).setCell (p := ⟨b, 1, none⟩) hb v1).setCell (p := ⟨b, 2, none⟩) hb v2).setCell (p := ⟨b, 3, none⟩) hb v3).setCell (p := ⟨b, 4, none⟩) hb v4

theorem five_cells {wr : World} {b : Nat} (h : ∀ o, o < 5 → ∃ u, wr.cell? ⟨b, o, none⟩ = some u) (v0 v1 v2 v3 v4 : Value) :
    (five wr b v0 v1 v2 v3 v4).cell? ⟨b, 0, none⟩ = some v0 ∧ (five wr b v0 v1 v2 v3 v4).cell? ⟨b, 1, none⟩ = some v1 ∧ (five wr b v0 v1 v2 v3 v4).cell? ⟨b, 2, none⟩ = some v2 ∧ (five wr b v0 v1 v2 v3 v4).cell? ⟨b, 3, none⟩ = some v3 ∧ (five wr b v0 v1 v2 v3 v4).cell? ⟨b, 4, none⟩ = some v4 := by
  unfold five
  have g0 := fun m' => cell_set (v := v0) (h 0 (by omega)) m'
  have i1 : ∃ u, (wr.setCell ⟨b, 0, none⟩ v0).cell? ⟨b, 1, none⟩ = some u := by rw [g0, if_neg (by omega)]; exact h 1 (by omega)
  have g1 := fun m' => cell_set (v := v1) i1 m'
  have i2 : ∃ u, ((wr.setCell ⟨b, 0, none⟩ v0).setCell ⟨b, 1, none⟩ v1).cell? ⟨b, 2, none⟩ = some u := by rw [g1, if_neg (by omega), g0, if_neg (by omega)]; exact h 2 (by omega)
  have g2 := fun m' => cell_set (v := v2) i2 m'
  have i3 : ∃ u, (((wr.setCell ⟨b, 0, none⟩ v0).setCell ⟨b, 1, none⟩ v1).setCell ⟨b, 2, none⟩ v2).cell? ⟨b, 3, none⟩ = some u := by rw [g2, if_neg (by omega), g1, if_neg (by omega), g0, if_neg (by omega)]; exact h 3 (by omega)
  have g3 := fun m' => cell_set (v := v3) i3 m'
  have i4 : ∃ u, ((((wr.setCell ⟨b, 0, none⟩ v0).setCell ⟨b, 1, none⟩ v1).setCell ⟨b, 2, none⟩ v2).setCell ⟨b, 3, none⟩ v3).cell? ⟨b, 4, none⟩ = some u := by rw [g3, if_neg (by omega), g2, if_neg (by omega), g1, if_neg (by omega), g0, if_neg (by omega)]; exact h 4 (by omega)
  have g4 := fun m' => cell_set (v := v4) i4 m'
  refine ⟨?_, ?_, ?_, ?_, ?_⟩
  · rw [g4, if_neg (by omega), g3, if_neg (by omega), g2, if_neg (by omega), g1, if_neg (by omega), g0, if_pos rfl]
  · rw [g4, if_neg (by omega), g3, if_neg (by omega), g2, if_neg (by omega), g1, if_pos rfl]
  · rw [g4, if_neg (by omega), g3, if_neg (by omega), g2, if_pos rfl]
  · rw [g4, if_neg (by omega), g3, if_pos rfl]
  · rw [g4, if_pos rfl]

/-- the walk's end at a return of a Pin and a bool -/
theorem pin_ret {Q : Ending → World → Prop} {a : Act} {W : World} {b : Nat} {v0 v1 v2 v3 v4 : Value} {ok : Bool} (hd : a.defers = []) (h2 : a.tmps[2]?.getD undef = .pointer (some ⟨b, 0, none⟩)) (h3 : a.tmps[3]?.getD undef = .bool ok)
    (c0 : W.cell? ⟨b, 0, none⟩ = some v0) (c1 : W.cell? ⟨b, 1, none⟩ = some v1) (c2 : W.cell? ⟨b, 2, none⟩ = some v2) (c3 : W.cell? ⟨b, 3, none⟩ = some v3) (c4 : W.cell? ⟨b, 4, none⟩ = some v4)
    (hQ : Q (.returned (.tuple #[.agg #[v0, v1, v2, v3, v4], .bool ok])) W) : bodyPost Try.prog Try.f10 Q Exit.ret a W := by
  obtain ⟨tmps, defers⟩ := a
  simp only at hd h2 h3
  subst hd
  refine bodyPost_ret (v := .tuple #[.agg #[v0, v1, v2, v3, v4], .bool ok]) ?_ rfl hQ
  simp [results, Try.results10, go_sem, h2, h3, c0, c1, c2, c3, c4]

set_option maxHeartbeats 1000000 in
theorem pin_labels (p B n : Nat) (D : DataW Unit) (mp : ByteArray → Option ByteArray) (t0 : ByteArray) (w : World) (hp : p < w.heap.size) (hc : w.cell? ⟨p, 0, none⟩ = some (.map (some B))) (hown : OwnM w B n D) (hmp : MP D mp) (ht0 : (mp t0).isSome = true)
    (Q : Ending → World → Prop)
    (hQ : Hid (∀ (s v : ByteArray) (g : Nat) (w' : World), Least mp s → mp s = some v → w.heap.size ≤ g → w'.cell? ⟨g, 0, none⟩ = some (.string v) → Below w.heap.size w w' → Q (.returned (.tuple #[.agg #[.string s, .bool false, .slice (some ⟨g, 0, none⟩) 1 1, .bool false, .pointer none], .bool true])) w')) :
    Calls Try.prog 10 #[.pointer (some ⟨p, 0, none⟩)] w Q := by
  have hsz := hmp.size_pos ht0
  have HM : Hid (MP D mp) := hmp
  have HT : Hid ((mp t0).isSome = true) := ht0
  have hlen := fun o ty => (hown.alloc o).len Try.underlying39 ty
  have HO : Hid (OwnM w B n D) := hown
  clear hmp ht0 hown
  go_enter Try.func10, Try.ntmps10
  go_wp2_with (first | (at_range; refine wpList_range_own _ rfl _ 39 rfl 9 9 law9 Try.underlying39 _ B n D rfl (by exact HO.out.alloc _) ?_; intro w0 hrg0 hg0 hs0) | fail)
  go_frame
  simp only [World.size_alloc]
  have hb0 : Below (w.heap.size + 1) (w.alloc (.cells #[.string ⟨#[]⟩, .bool false, .slice none 0 0, .bool false, .pointer none] 32)) w0 := (Below.refl _ _).grown hg0 (by simp) (fun k hk => by cases hk)
  have hrg1 : w0.ranges Try.prog 9 (plainElem Try.prog 9) B (w.heap.size + 1) n D (Maps.has D) (Maps.size D) := by simpa using hrg0
  clear hg0 hrg0
  go_loopw [4, 5, 6] (fun fi fo _ wr => ∃ (left : Lit → Bool) (cnt : Nat) (found : Bool) (s : ByteArray), s.size ≤ maxLen ∧ fi = .string s ∧ fo = .bool found ∧ wr.ranges Try.prog 9 (plainElem (H := Unit) Try.prog 9) B (w.heap.size + 1) n D left cnt ∧ Found mp left found s ∧ Below (w.heap.size + 1) (w.alloc (.cells #[.string ⟨#[]⟩, .bool false, .slice none 0 0, .bool false, .pointer none] 32)) wr) (fun _ _ _ wr => wr.rangeLeft B (w.heap.size + 1))
  case atStart => exact ⟨_, _, false, ⟨#[]⟩, Nat.zero_le _, rfl, rfl, hrg1, fun t ht => by rw [(HM.out.2 t).1]; exact ht, hb0⟩
  case round =>
    obtain ⟨left, cnt, found, s, hsmax, rfl, rfl, hrg, hF, hb⟩ := hrel
    have HF : Hid (Found mp left found s) := hF
    clear hF hb0 hrg1
    go_wp2_with (first | (at_next; refine wpList_next_ranges _ rfl _ rfl 9 law9 (plainElem (H := Unit) Try.prog 9) Value.string Value.string (fun k' kl' hk' => by obtain ⟨x, e, _⟩ := Maps.keyOf_string_inv hk'; exact ⟨x, e⟩) (fun v' y' hv' => by obtain ⟨c, e, _⟩ := plainElem_string_inv Try.underlying9 hv'; exact ⟨c, e⟩) B (w.heap.size + 1) n D left cnt rfl hrg ?_ ?_) | fail)
    · intro _ hl
      obtain ⟨rfl, hleast⟩ := HF.out.done HT.out hl
      obtain ⟨v, hv⟩ := Option.isSome_iff_exists.1 hleast.1
      obtain ⟨v', ps, hlook, hR⟩ := hrg.owns.lookup law9 Try.underlying39 (zero9 wr) (elem9 (s := ByteArray.empty) (Nat.zero_le _)) (keyOf9 hsmax)
      obtain ⟨sv, rfl, he, hsv⟩ := plainElem_string_inv Try.underlying9 hR
      obtain rfl : sv = v := by
        have h1 := (HM.out.2 s).2 v hv (val ByteArray.empty)
        rw [Prod.mk.injEq] at he
        rw [he.1] at h1
        exact val_inj h1
      have HLE : Hid (Least mp s) := hleast
      have HV : Hid (mp s = some sv) := hv
      have hcp : wr.cell? ⟨p, 0, none⟩ = some (.map (some B)) := by
        rw [hb.cell (p := ⟨p, 0, none⟩) (by show p < _; omega), World.cell?_alloc_lt _ _ _ hp]; exact hc
      have hz0 : wr.cell? ⟨w.heap.size, 0, none⟩ = some (.string ⟨#[]⟩) := by rw [hb.cell (p := ⟨w.heap.size, 0, none⟩) (Nat.lt_succ_self _), World.cell?_alloc_new]; rfl
      have hz1 : wr.cell? ⟨w.heap.size, 1, none⟩ = some (.bool false) := by rw [hb.cell (p := ⟨w.heap.size, 1, none⟩) (Nat.lt_succ_self _), World.cell?_alloc_new]; rfl
      have hz2 : wr.cell? ⟨w.heap.size, 2, none⟩ = some (.slice none 0 0) := by rw [hb.cell (p := ⟨w.heap.size, 2, none⟩) (Nat.lt_succ_self _), World.cell?_alloc_new]; rfl
      have hz3 : wr.cell? ⟨w.heap.size, 3, none⟩ = some (.bool false) := by rw [hb.cell (p := ⟨w.heap.size, 3, none⟩) (Nat.lt_succ_self _), World.cell?_alloc_new]; rfl
      have hz4 : wr.cell? ⟨w.heap.size, 4, none⟩ = some (.pointer none) := by rw [hb.cell (p := ⟨w.heap.size, 4, none⟩) (Nat.lt_succ_self _), World.cell?_alloc_new]; rfl
      have hfz : ∀ o, wr.frozen? ⟨w.heap.size, o, none⟩ = false := fun o => by rw [hb.frozen (p := ⟨w.heap.size, o, none⟩) (Nat.lt_succ_self _)]; exact World.frozen?_alloc_new _ _ _ _
      have hws : w.heap.size < wr.heap.size := by have := hb.size; simp at this; omega
      clear hR he hv hleast hl HF hrg
      go_wp2_with fail
      have hex : ∀ o, o < 5 → ∃ u, wr.cell? ⟨w.heap.size, o, none⟩ = some u := fun o ho => by
        rcases o with _ | _ | _ | _ | _ | o
        · exact ⟨_, hz0⟩
        · exact ⟨_, hz1⟩
        · exact ⟨_, hz2⟩
        · exact ⟨_, hz3⟩
        · exact ⟨_, hz4⟩
        · omega
      obtain ⟨d0, d1, d2, d3, d4⟩ := five_cells hex (.string s) (.bool false) (.slice (some ⟨wr.heap.size, 0, none⟩) 1 1) (.bool false) (.pointer none)
      have hsz5 := five_size wr w.heap.size (.string s) (.bool false) (.slice (some ⟨wr.heap.size, 0, none⟩) 1 1) (.bool false) (.pointer none)
      have hb5 := five_below (hb.mono (Nat.le_succ _)) (Nat.le_refl w.heap.size) (.string s) (.bool false) (.slice (some ⟨wr.heap.size, 0, none⟩) 1 1) (.bool false) (.pointer none)
      have hbb : Below w.heap.size w (five wr w.heap.size (.string s) (.bool false) (.slice (some ⟨wr.heap.size, 0, none⟩) 1 1) (.bool false) (.pointer none)) := ((Below.refl _ _).alloc (Nat.le_refl _) _).trans hb5
      show bodyPost Try.prog Try.f10 Q Exit.ret _ ((five wr w.heap.size (.string s) (.bool false) (.slice (some ⟨wr.heap.size, 0, none⟩) 1 1) (.bool false) (.pointer none)).alloc (.cells #[.string sv] 9))
      generalize five wr w.heap.size (.string s) (.bool false) (.slice (some ⟨wr.heap.size, 0, none⟩) 1 1) (.bool false) (.pointer none) = W at d0 d1 d2 d3 d4 hsz5 hbb
      have hl : ∀ o, (⟨w.heap.size, o, none⟩ : Addr).block < W.heap.size := fun o => by rw [hsz5]; exact hws
      refine pin_ret (b := w.heap.size) (ok := true) rfl rfl rfl (by rw [World.cell?_alloc_lt _ _ _ (hl 0)]; exact d0) (by rw [World.cell?_alloc_lt _ _ _ (hl 1)]; exact d1) (by rw [World.cell?_alloc_lt _ _ _ (hl 2)]; exact d2) (by rw [World.cell?_alloc_lt _ _ _ (hl 3)]; exact d3) (by rw [World.cell?_alloc_lt _ _ _ (hl 4)]; exact d4) ?_
      refine hQ.out s sv wr.heap.size _ HLE.out HV.out (Nat.le_of_lt hws) ?_ (hbb.alloc hbb.size _)
      rw [← hsz5, World.cell?_alloc_new]; rfl
    · intro x c kl da db w1 cnt1 hkey hlk hel hat hrg1 hlt hgr hsz1 hen
      obtain ⟨x', e, rfl, hxmax⟩ := Maps.keyOf_string_inv hkey
      cases e
      have hmx : (mp x).isSome = true := by rw [← (HM.out.2 x).1]; exact Maps.has_true_of_atKey hat
      have hb1 := hb.grown hgr (by have := hb.size; simp at this; omega) (fun k hk => by cases hk; exact Nat.le_refl _)
      have hless : wr.rangeLeft B (w.heap.size + 1) = cnt := hrg.left_eq
      have HMX : Hid ((mp x).isSome = true) := hmx
      have HLT : Hid (cnt1 < cnt) := hlt
      have HLE : Hid (wr.rangeLeft B (w.heap.size + 1) = cnt) := hless
      clear hkey hlk hel hat hlt hgr hsz1 hmx hless
      cases found with
      | false =>
        go_wp2_with fail
        go_roundw
        case rel => exact ⟨_, cnt1, true, x, hxmax, rfl, rfl, hrg1, HF.out.take HMX.out (Or.inl rfl), hb1⟩
        case measure => rw [hrg1.left_eq, HLE.out]; exact HLT.out
      | true =>
        cases hbl : Op.bytesLess x.toList s.toList with
        | false =>
          go_wp2_with fail
          go_roundw
          case rel => exact ⟨_, cnt1, true, s, hsmax, rfl, rfl, hrg1, HF.out.keep hbl, hb1⟩
          case measure => rw [hrg1.left_eq, HLE.out]; exact HLT.out
        | true =>
          go_wp2_with fail
          go_roundw
          case rel => exact ⟨_, cnt1, true, x, hxmax, rfl, rfl, hrg1, HF.out.take HMX.out (Or.inr hbl), hb1⟩
          case measure => rw [hrg1.left_eq, HLE.out]; exact HLT.out
end Go.Proofs.Qxb6629100a
