/-
  The walk of FnLenientQueryUnescapeEscapeSplits.
-/
import Derived.Test.Qxb6629145aLenient
namespace Go.Proofs.Qxb6629145a
open Go.ChangeShapes Go.WideShapes Go.ChangeAt Go.RowKit

theorem bytes8_any (s : ByteArray) (k c : Int) (u1 u2 : Bool) (hs : s.size ≤ maxLen) (w : World) (Q : Ending → World → Prop) (hQ : Hid (Q (.returned (.bool (decide (s.size ≤ 1048576)))) w)) : Calls Try.prog 8 #[.string s, .int .i64 k, .int .u8 c, .bool u1, .bool u2] w Q := by
  unfold maxLen at hs
  by_cases h : s.size ≤ 1048576
  · have hq := hQ.out
    rw [decide_eq_true h] at hq
    clear hQ
    go_enter Try.func8, Try.ntmps8
    go_wp2
    exact hq
  · have hq := hQ.out
    rw [decide_eq_false h] at hq
    clear hQ
    go_enter Try.func8, Try.ntmps8
    go_wp2
    exact hq

/-- what zzHexDigit gives -/
def digI (d : Int) (up : Bool) : Int := if d < 10 then 48 + d else if up then 65 + d - 10 else 97 + d - 10

theorem digI_hex {d : Int} (h0 : 0 ≤ d) (h1 : d ≤ 15) (up : Bool) : hexI (digI d up) = true ∧ valI (digI d up) = d ∧ 0 ≤ digI d up ∧ digI d up ≤ 255 := by
  rw [hexI_iff]
  unfold digI valI
  cases up <;> simp <;> split <;> (try split) <;> omega

theorem hexDigit_any (d : Int) (up : Bool) (h0 : 0 ≤ d) (h1 : d ≤ 15) (w : World) (Q : Ending → World → Prop) (hQ : Hid (Q (.returned (.int .u8 (digI d up))) w)) : Calls Try.prog 9 #[.int .u8 d, .bool up] w Q := by
  by_cases h : d < 10
  · have hq := hQ.out
    rw [show digI d up = 48 + d from if_pos h] at hq
    clear hQ
    go_enter Try.func9, Try.ntmps9
    go_wp2
    exact hq
  · cases up with
    | true =>
      have hq := hQ.out
      rw [show digI d true = 65 + d - 10 by unfold digI; rw [if_neg h]; rfl] at hq
      clear hQ
      go_enter Try.func9, Try.ntmps9
      go_wp2
      exact hq
    | false =>
      have hq := hQ.out
      rw [show digI d false = 97 + d - 10 by unfold digI; rw [if_neg h]; rfl] at hq
      clear hQ
      go_enter Try.func9, Try.ntmps9
      go_wp2
      exact hq

theorem u8_of {d : Int} (h0 : 0 ≤ d) (h1 : d ≤ 255) : ∃ u : UInt8, d = (u.toNat : Int) := by
  refine ⟨UInt8.ofNat d.toNat, ?_⟩
  rw [UInt8.toNat_ofNat']
  omega

theorem foldl_push : ∀ (l : List UInt8) (r : ByteArray), (l.map (fun u => (u.toNat : Int))).foldl (fun r n => r.push (UInt8.ofNat n.toNat)) r = ⟨r.data ++ l.toArray⟩
  | [], r => by simp
  | u :: l, r => by
    rw [List.map_cons, List.foldl_cons, foldl_push l]
    simp [ByteArray.push]

theorem conv_string (W : World) (b n cap : Nat) (l : List UInt8) (hl : l.length = n) (h : ∀ i, i < n → W.cell? ⟨b, i, none⟩ = some (.int .u8 ((l.getD i 0).toNat : Int))) :
    (convert 27 9 (.slice (some ⟨b, 0, none⟩) n cap)).run Try.prog W = .ok (.string ⟨l.toArray⟩) W := by
  rw [run_convert_bytes_string W 27 9 5 _ n cap Try.underlying27 Try.underlying5 Try.underlying9]
  rw [run_bytesToString W ⟨b, 0, none⟩ n cap (l.map fun u => (u.toNat : Int))]
  · rw [foldl_push]; simp
  · subst hl
    have := run_loadCells_list (P := Try.prog) (w := W) ⟨b, 0, none⟩ ((l.map fun u => (u.toNat : Int)).map (Value.int .u8)) (fun j v hj => by
      rw [add_plain, Nat.zero_add]
      have hlt : j < l.length := by
        have := (List.getElem?_eq_some_iff.1 hj).1
        simpa using this
      rw [h j hlt, ← hj]
      simp [List.getD, hlt])
    simpa using this

theorem toB_inj {a b : ByteArray} (h : by_ a = by_ b) : a = b := bytes_inj h
theorem keep_old {W w1 : World} {p : Addr} {v : Value} (h : W.cell? p = some v) (hb : Below W.heap.size W w1) : w1.cell? p = some v := by
  have hl : p.block < W.heap.size := by
    unfold World.cell? at h
    split at h
    · rename_i hc; exact (Array.getElem?_eq_some_iff.1 hc).1
    · cases h
  rw [hb.cell hl]; exact h
theorem keep_new {W w1 : World} {v : Value} {t : TypeId} (hb : Below (W.alloc (.cells #[v] t)).heap.size (W.alloc (.cells #[v] t)) w1) : w1.cell? ⟨W.heap.size, 0, none⟩ = some v :=
  keep_old (by rw [World.cell?_alloc_new]; rfl) hb
theorem keep_newd {W w1 : World} {v : Value} {t : TypeId} (hb : Below (W.alloc (.cells #[v] t)).drew.heap.size (W.alloc (.cells #[v] t)).drew w1) : w1.cell? ⟨W.heap.size, 0, none⟩ = some v :=
  keep_old (by rw [World.cell?_drew, World.cell?_alloc_new]; rfl) hb

theorem belowAlloc {w W : World} (h : Below w.heap.size w W) (o : Obj) : Below w.heap.size w (W.alloc o) := h.alloc h.size o
theorem belowTrans {w W w2 : World} (h : Below w.heap.size w W) (b : Below W.heap.size W w2) : Below w.heap.size w w2 := h.trans (b.mono h.size)

/-- the law: the escape of a byte, put between two texts, decodes to that byte between their decodings -/
theorem split_law (a b : ByteArray) {e1 e2 cu : UInt8} (h1 : hexI (e1.toNat : Int) = true ∧ valI (e1.toNat : Int) = (cu.toNat : Int) / 16) (h2 : hexI (e2.toNat : Int) = true ∧ valI (e2.toNat : Int) = (cu.toNat : Int) % 16) :
    decB (a ++ ⟨#[37, e1, e2]⟩ ++ b) = decB a ++ ⟨#[cu]⟩ ++ decB b := by
  have hbo : byteOf e1 e2 = cu := by
    apply UInt8.toNat_inj.1
    have := byteOf_toNat (a := e1) (b := e2) h1.1 h2.1
    omega
  have e : by_ (a ++ ⟨#[37, e1, e2]⟩ ++ b) = by_ a ++ 37 :: ([e1, e2] ++ by_ b) := by
    unfold by_; simp
  apply toB_inj
  have hr : by_ (decB a ++ ⟨#[cu]⟩ ++ decB b) = dec (by_ a) ++ cu :: dec (by_ b) := by
    unfold decB
    generalize dec (by_ a) = x
    generalize dec (by_ b) = y
    unfold by_; simp
  have hl : by_ (decB (a ++ ⟨#[37, e1, e2]⟩ ++ b)) = dec (by_ a ++ 37 :: ([e1, e2] ++ by_ b)) := by
    rw [← e]
    unfold decB
    generalize dec (by_ (a ++ ⟨#[37, e1, e2]⟩ ++ b)) = x
    unfold by_; simp
  rw [hr, hl, dec_cut _ _ _ (Nat.le_refl _)]
  show _ ++ dec (37 :: e1 :: e2 :: by_ b) = _
  rw [dec_esc h1.1 h2.1, hbo]

theorem decB_size (s : ByteArray) : (decB s).size ≤ s.size := by
  show (dec (by_ s)).toArray.size ≤ s.size
  rw [List.size_toArray, ← by_length]
  exact dec_length _ _ (Nat.le_refl _)

set_option maxRecDepth 100000 in
set_option maxHeartbeats 1000000 in
theorem split_walk (s : ByteArray) (k : Nat) (c : Int) (u1 u2 : Bool) (hs : s.size ≤ 1048576) (hk : k ≤ s.size) (hc0 : 0 ≤ c) (hc1 : c ≤ 255) (w : World)
    (Q : Ending → World → Prop) (hQ : Hid (∀ w', Below w.heap.size w w' → Q (.returned (.bool true)) w')) : Calls Try.prog 4 #[.string s, .int .i64 k, .int .u8 c, .bool u1, .bool u2] w Q := by
  go_enter Try.func4, Try.ntmps4
  go_wp2_with fail
  refine bytes8_any s k c u1 u2 (by unfold maxLen; omega) w _ (Hid.intro ?_)
  rw [decide_eq_true hs]
  go_wp2_with fail
  refine hexDigit_any (c / 16) u1 (by omega) (by omega) _ _ (Hid.intro ?_)
  go_wp2_with fail
  refine hexDigit_any (c % 16) u2 (by omega) (by omega) _ _ (Hid.intro ?_)
  obtain ⟨x1, x2, x3, x4⟩ := digI_hex (d := c / 16) (by omega) (by omega) u1
  obtain ⟨y1, y2, y3, y4⟩ := digI_hex (d := c % 16) (by omega) (by omega) u2
  have HX : Hid (hexI (digI (c / 16) u1) = true ∧ valI (digI (c / 16) u1) = c / 16) := ⟨x1, x2⟩
  have HY : Hid (hexI (digI (c % 16) u2) = true ∧ valI (digI (c % 16) u2) = c % 16) := ⟨y1, y2⟩
  clear x1 x2 y1 y2
  generalize digI (c / 16) u1 = d1 at *
  generalize digI (c % 16) u2 = d2 at *
  obtain ⟨e1, rfl⟩ := u8_of x3 x4
  obtain ⟨e2, rfl⟩ := u8_of y3 y4
  have hconv : (convert 27 9 (.slice (some ⟨w.heap.size, 0, none⟩) 3 3)).run Try.prog (w.alloc (.cells #[.int .u8 37, .int .u8 (e1.toNat : Int), .int .u8 (e2.toNat : Int)] 5)) = .ok (.string ⟨#[37, e1, e2]⟩) (w.alloc (.cells #[.int .u8 37, .int .u8 (e1.toNat : Int), .int .u8 (e2.toNat : Int)] 5)) :=
    conv_string _ _ 3 3 [37, e1, e2] rfl (fun i hi => by
      rw [World.cell?_alloc_new]
      match i, hi with
      | 0, _ => rfl
      | 1, _ => rfl
      | 2, _ => rfl)
  obtain ⟨cu, rfl⟩ := u8_of hc0 hc1
  have hsa : (s.extract 0 k).size ≤ 1048576 := by rw [ByteArray.size_extract]; omega
  have hsb : (s.extract k s.size).size ≤ 1048576 := by rw [ByteArray.size_extract]; omega
  have HSA : Hid ((s.extract 0 k).size ≤ 4000000) := by show (s.extract 0 k).size ≤ 4000000; omega
  have HSB : Hid ((s.extract k s.size).size ≤ 4000000) := by show (s.extract k s.size).size ≤ 4000000; omega
  have HSZ : Hid ((s.extract 0 k ++ ⟨#[37, e1, e2]⟩ ++ s.extract k s.size).size ≤ 4000000) := by
    show (s.extract 0 k ++ ⟨#[37, e1, e2]⟩ ++ s.extract k s.size).size ≤ 4000000
    rw [ByteArray.size_append, ByteArray.size_append]
    have : (⟨#[37, e1, e2]⟩ : ByteArray).size = 3 := rfl
    omega
  have HLAW : Hid (decB (s.extract 0 k ++ ⟨#[37, e1, e2]⟩ ++ s.extract k s.size) = decB (s.extract 0 k) ++ ⟨#[cu]⟩ ++ decB (s.extract k s.size)) := split_law _ _ HX.out HY.out
  have t1 := decB_size (s.extract 0 k)
  have t2 := decB_size (s.extract k s.size)
  have z3 : ¬ 9223372036854775807 < (decB (s.extract 0 k)).size + 1 := by omega
  have z4 : ¬ 9223372036854775807 < (decB (s.extract 0 k)).size + 1 + (decB (s.extract k s.size)).size := by omega
  clear hsa hsb t1 t2
  have hcv : ∀ (W : World) (b : Nat), W.cell? ⟨b, 0, none⟩ = some (.int .u8 (cu.toNat : Int)) → (convert 27 9 (.slice (some ⟨b, 0, none⟩) 1 1)).run Try.prog W = .ok (.string ⟨#[cu]⟩) W := fun W b h => conv_string W b 1 1 [cu] rfl (fun i hi => by
    match i, hi with
    | 0, _ => exact h)
  have z1 : ¬ 9223372036854775807 < k + 3 := by omega
  have z2 : ¬ 9223372036854775807 < k + 3 + (s.size - k) := by omega
  go_wp2_with fail
  go_region_held3 (fun _ => True) (trivial) ((go_at_call 6; refine lenient_any _ (by exact HSZ.out) _ _ (fun w1 b1 => ?_)))
  have E1 : Hid (Below w.heap.size w w1) := ((Below.refl w.heap.size w).alloc (Nat.le_refl _) (.cells #[.int .u8 37, .int .u8 (e1.toNat : Int), .int .u8 (e2.toNat : Int)] 5)).drew.trans (b1.mono (by show w.heap.size ≤ (w.alloc _).heap.size; rw [World.size_alloc]; omega))
  clear b1 hconv z1 z2
  go_wp2_with fail
  go_region_with (go_at_call 6; refine lenient_any _ (by first | exact HSA.out | exact HSB.out) _ _ (fun w2 b2 => ?_); (first | have hold := keep_old hbc b2 | skip); (first | have hbc := keep_new b2 | have hbc := keep_newd b2 | skip); have E2 : Below w.heap.size w w2 := belowTrans (by repeat (first | exact E2 | exact E1.out | refine Below.drew ?_ | refine belowAlloc ?_ _)) b2; clear b2)
  all_goals rw [HLAW.out]
  all_goals go_wp2_with fail
  all_goals exact hQ.out _ (by repeat (first | exact E2 | exact E1.out | refine Below.drew ?_ | refine belowAlloc ?_ _))

theorem split_all (s : ByteArray) (k c : Int) (u1 u2 : Bool) (hs : s.size ≤ maxLen) (hc : (Lit.int .u8 c).wf = true) (w : World) :
    Calls Try.prog 4 #[.string s, .int .i64 k, .int .u8 c, .bool u1, .bool u2] w fun e w' => e = .returned (.bool true) ∧ Below w.heap.size w w' := by
  have bc := bounds_u8 hc
  by_cases h : s.size ≤ 1048576
  · by_cases h1 : k < 0
    · go_enter Try.func4, Try.ntmps4
      go_wp2_with fail
      refine bytes8_any s k c u1 u2 hs w _ (Hid.intro ?_)
      rw [decide_eq_true h]
      go_wp2_with fail
      go_ret
      exact ⟨rfl, Below.refl _ _⟩
    · by_cases h2 : (s.size : Int) < k
      · go_enter Try.func4, Try.ntmps4
        go_wp2_with fail
        refine bytes8_any s k c u1 u2 hs w _ (Hid.intro ?_)
        rw [decide_eq_true h]
        go_wp2_with fail
        go_ret
        exact ⟨rfl, Below.refl _ _⟩
      · obtain ⟨n, rfl⟩ := Int.eq_ofNat_of_zero_le (show 0 ≤ k by omega)
        exact split_walk s n c u1 u2 h (by omega) (by omega) (by omega) w _ (fun w' hb => ⟨rfl, hb⟩)
  · go_enter Try.func4, Try.ntmps4
    go_wp2_with fail
    refine bytes8_any s k c u1 u2 hs w _ (Hid.intro ?_)
    rw [decide_eq_false h]
    go_wp2_with fail
    go_ret
    exact ⟨rfl, Below.refl _ _⟩
end Go.Proofs.Qxb6629145a
