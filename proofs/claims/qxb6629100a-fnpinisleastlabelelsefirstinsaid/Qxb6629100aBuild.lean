/-
  The contract of pinBuild.
-/
import Derived.Test.Qxb6629100aSmall
import Derived.Test.Qxb6629100aMap
import Derived.Deep.RegionHeld3
import Derived.Deep.DeepCutAuto
namespace Go.Proofs.Qxb6629100a
open Go.ChangeShapes Go.WideShapes Go.ChangeAt Go.RowKit

theorem Hid.intro {p : Prop} (h : p) : Hid p := h
theorem law9 : Maps.Keyed Try.prog 9 := Maps.string_keyed Try.underlying9
theorem keyOf9 {s : ByteArray} (h : s.size ≤ maxLen) : keyOf Try.prog 9 (.string s) = some (key s) := by
  simp [keyOf, mapKey, Try.underlying9, key, h]

/-- block B is a map of at most n entries that reads as D -/
abbrev OwnM (w : World) (B n : Nat) (D : DataW Unit) : Prop := w.ownsMap Try.prog 9 (plainElem Try.prog 9) B n D

theorem elem9 {s : ByteArray} (h : s.size ≤ maxLen) : plainElem (H := Unit) Try.prog 9 (.string s) = some (val s, []) := plainElem_string Try.underlying9 h

theorem getS_le {n : Nat} {f : Nat → ByteArray} (h : ∀ k, k < n → (f k).size ≤ maxLen) (i : Nat) : (getS n f i).size ≤ maxLen := by
  unfold getS; split
  · exact h i ‹_›
  · exact Nat.zero_le _

/-- the selector's map: nil just where the keys' slice is nil; else a block from lo on that reads as mp -/
def MapAt (W : World) (lo : Nat) (nn : Bool) (n : Nat) (mp : ByteArray → Option ByteArray) (r : Option Nat) : Prop :=
  r.isSome = nn ∧ ∀ B, r = some B → lo ≤ B ∧ ∃ D, OwnM W B n D ∧ MP D mp ∧ (n = 0 → Maps.size D = 0)

theorem MapAt.below {W W' : World} {lo : Nat} {nn : Bool} {n : Nat} {mp : ByteArray → Option ByteArray} {r : Option Nat} (h : MapAt W lo nn n mp r) (hb : Below W.heap.size W W') : MapAt W' lo nn n mp r :=
  ⟨h.1, fun B hB => by
    obtain ⟨h1, D, h2, h3⟩ := h.2 B hB
    obtain ⟨es, clock, e1, e2⟩ := h2
    exact ⟨h1, D, ⟨es, clock, by rw [hb.block B (Array.getElem?_eq_some_iff.1 e1).1]; exact e1, e2⟩, h3⟩⟩

/-- the selector's requirements: n of them in block B, of which the first k are written -/
def Reqs (W : World) (B n k : Nat) (f ops : Nat → ByteArray) (V : Nat → Option Addr) (Ln : Nat → Nat) (F : Nat → Nat → ByteArray) : Prop :=
  (∀ m, m < 4 * n → ∃ v, W.cell? ⟨B, m, none⟩ = some v) ∧ (∀ m, W.frozen? ⟨B, m, none⟩ = false) ∧
  ∀ i, i < k → W.cell? ⟨B, i * 4, none⟩ = some (.string (f i)) ∧ W.cell? ⟨B, i * 4 + 1, none⟩ = some (.string (ops i)) ∧ W.cell? ⟨B, i * 4 + 2, none⟩ = some (.slice (V i) (Ln i) (Ln i)) ∧
    SV W (V i) (Ln i) (F i) ∧ ∀ x, V i = some x → B < x.block

def ReqAt (W : World) (lo : Nat) (nn : Bool) (n : Nat) (f ops : Nat → ByteArray) (V : Nat → Option Addr) (Ln : Nat → Nat) (F : Nat → Nat → ByteArray) (a : Option Addr) : Prop :=
  a.isSome = nn ∧ (0 < n → nn = true) ∧ ∀ x, a = some x → ∃ B, x = ⟨B, 0, none⟩ ∧ lo ≤ B ∧ B < W.heap.size ∧ Reqs W B n n f ops V Ln F

theorem Reqs.below {W W' : World} {B n k : Nat} {f ops : Nat → ByteArray} {V : Nat → Option Addr} {Ln : Nat → Nat} {F : Nat → Nat → ByteArray} (h : Reqs W B n k f ops V Ln F) (hB : B < W.heap.size) (hb : Below W.heap.size W W') : Reqs W' B n k f ops V Ln F := by
  have hc : ∀ m, W'.cell? ⟨B, m, none⟩ = W.cell? ⟨B, m, none⟩ := fun m => hb.cell (p := ⟨B, m, none⟩) hB
  refine ⟨fun m hm => by rw [hc]; exact h.1 m hm, fun m => by rw [hb.frozen (p := ⟨B, m, none⟩) hB]; exact h.2.1 m, fun i hi => ?_⟩
  obtain ⟨e1, e2, e3, e4, e5⟩ := h.2.2 i hi
  exact ⟨by rw [hc]; exact e1, by rw [hc]; exact e2, by rw [hc]; exact e3, e4.below hb, e5⟩

theorem cell_set {W : World} {B m : Nat} {v : Value} (h : ∃ u, W.cell? ⟨B, m, none⟩ = some u) (m' : Nat) : (W.setCell ⟨B, m, none⟩ v).cell? ⟨B, m', none⟩ = if m' = m then some v else W.cell? ⟨B, m', none⟩ := by
  by_cases e : m' = m
  · subst e; rw [if_pos rfl]; obtain ⟨u, hu⟩ := h; exact World.cell?_setCell_same W _ _ hu
  · rw [if_neg e]; exact World.cell?_setCell_other W _ _ _ (fun h => e (by cases h; rfl))

theorem Reqs.store {W : World} {B n k : Nat} {f ops : Nat → ByteArray} {V : Nat → Option Addr} {Ln : Nat → Nat} {F : Nat → Nat → ByteArray} (h : Reqs W B n k f ops V Ln F) (hk : k < n) {ak : Option Addr} (hsv : SV W ak (Ln k) (F k)) (hnew : ∀ x, ak = some x → B < x.block) :
    Reqs ((((W.setCell ⟨B, k * 4, none⟩ (.string (f k))).setCell ⟨B, k * 4 + 1, none⟩ (.string (ops k))).setCell ⟨B, k * 4 + 2, none⟩ (.slice ak (Ln k) (Ln k))).setCell ⟨B, k * 4 + 3, none⟩ (.int .i64 0)) B n (k + 1) f ops (fun i => if i = k then ak else V i) Ln F := by
  obtain ⟨h1, h2, h3⟩ := h
  have g0 := fun m' => cell_set (v := .string (f k)) (h1 (k * 4) (by omega)) m'
  have i1 : ∃ u, (W.setCell ⟨B, k * 4, none⟩ (.string (f k))).cell? ⟨B, k * 4 + 1, none⟩ = some u := by rw [g0, if_neg (by omega)]; exact h1 _ (by omega)
  have g1 := fun m' => cell_set (v := .string (ops k)) i1 m'
  have i2 : ∃ u, ((W.setCell ⟨B, k * 4, none⟩ (.string (f k))).setCell ⟨B, k * 4 + 1, none⟩ (.string (ops k))).cell? ⟨B, k * 4 + 2, none⟩ = some u := by rw [g1, if_neg (by omega), g0, if_neg (by omega)]; exact h1 _ (by omega)
  have g2 := fun m' => cell_set (v := .slice ak (Ln k) (Ln k)) i2 m'
  have i3 : ∃ u, (((W.setCell ⟨B, k * 4, none⟩ (.string (f k))).setCell ⟨B, k * 4 + 1, none⟩ (.string (ops k))).setCell ⟨B, k * 4 + 2, none⟩ (.slice ak (Ln k) (Ln k))).cell? ⟨B, k * 4 + 3, none⟩ = some u := by rw [g2, if_neg (by omega), g1, if_neg (by omega), g0, if_neg (by omega)]; exact h1 _ (by omega)
  have g3 := fun m' => cell_set (v := .int .i64 0) i3 m'
  refine ⟨fun m hm => ?_, fun m => by rw [World.frozen?_setCell, World.frozen?_setCell, World.frozen?_setCell, World.frozen?_setCell]; exact h2 m, fun i hi => ?_⟩
  · rw [g3]; split
    · exact ⟨_, rfl⟩
    rw [g2]; split
    · exact ⟨_, rfl⟩
    rw [g1]; split
    · exact ⟨_, rfl⟩
    rw [g0]; split
    · exact ⟨_, rfl⟩
    exact h1 m hm
  · by_cases e : i = k
    · subst e
      simp only [if_true]
      refine ⟨?_, ?_, ?_, (((hsv.setCell hnew _).setCell hnew _).setCell hnew _).setCell hnew _, hnew⟩
      · rw [g3, if_neg (by omega), g2, if_neg (by omega), g1, if_neg (by omega), g0, if_pos rfl]
      · rw [g3, if_neg (by omega), g2, if_neg (by omega), g1, if_pos rfl]
      · rw [g3, if_neg (by omega), g2, if_pos rfl]
    · simp only [if_neg e]
      obtain ⟨e1, e2, e3, e4, e5⟩ := h3 i (by omega)
      refine ⟨?_, ?_, ?_, (((e4.setCell e5 _).setCell e5 _).setCell e5 _).setCell e5 _, e5⟩
      · rw [g3, if_neg (by omega), g2, if_neg (by omega), g1, if_neg (by omega), g0, if_neg (by omega)]; exact e1
      · rw [g3, if_neg (by omega), g2, if_neg (by omega), g1, if_neg (by omega), g0, if_neg (by omega)]; exact e2
      · rw [g3, if_neg (by omega), g2, if_neg (by omega), g1, if_neg (by omega), g0, if_neg (by omega)]; exact e3

theorem ReqAt.below {W W' : World} {lo n : Nat} {nn : Bool} {f ops : Nat → ByteArray} {V : Nat → Option Addr} {Ln : Nat → Nat} {F : Nat → Nat → ByteArray} {a : Option Addr} (h : ReqAt W lo nn n f ops V Ln F a) (hb : Below W.heap.size W W') : ReqAt W' lo nn n f ops V Ln F a :=
  ⟨h.1, h.2.1, fun x hx => by
    obtain ⟨B, e1, e2, e3, e4⟩ := h.2.2 x hx
    exact ⟨B, e1, e2, Nat.lt_of_lt_of_le e3 hb.size, e4.below e3 hb⟩⟩
theorem ReqAt.lower {W : World} {lo lo' n : Nat} {nn : Bool} {f ops : Nat → ByteArray} {V : Nat → Option Addr} {Ln : Nat → Nat} {F : Nat → Nat → ByteArray} {a : Option Addr} (h : ReqAt W lo nn n f ops V Ln F a) (hl : lo' ≤ lo) : ReqAt W lo' nn n f ops V Ln F a :=
  ⟨h.1, h.2.1, fun x hx => by
    obtain ⟨B, e1, e2, e3, e4⟩ := h.2.2 x hx
    exact ⟨B, e1, Nat.le_trans hl e2, e3, e4⟩⟩

/-- a selector: a struct of two cells in block p: the map, the requirements -/
def Sel (W : World) (lo p : Nat) (nn0 : Bool) (n0 : Nat) (mp : ByteArray → Option ByteArray) (nn2 : Bool) (n2 : Nat) (f ops : Nat → ByteArray) (V : Nat → Option Addr) (Ln : Nat → Nat) (F : Nat → Nat → ByteArray) (r : Option Nat) (q : Option Addr) : Prop :=
  lo ≤ p ∧ p < W.heap.size ∧ W.cell? ⟨p, 0, none⟩ = some (.map r) ∧ W.cell? ⟨p, 1, none⟩ = some (.slice q n2 n2) ∧ (∀ o, W.frozen? ⟨p, o, none⟩ = false) ∧ MapAt W lo nn0 n0 mp r ∧ ReqAt W lo nn2 n2 f ops V Ln F q

theorem Sel.below {W W' : World} {lo p n0 n2 : Nat} {nn0 nn2 : Bool} {mp : ByteArray → Option ByteArray} {f ops : Nat → ByteArray} {V : Nat → Option Addr} {Ln : Nat → Nat} {F : Nat → Nat → ByteArray} {r : Option Nat} {q : Option Addr}
    (h : Sel W lo p nn0 n0 mp nn2 n2 f ops V Ln F r q) (hb : Below W.heap.size W W') : Sel W' lo p nn0 n0 mp nn2 n2 f ops V Ln F r q := by
  obtain ⟨h1, h2, h3, h4, h5, h6, h7⟩ := h
  exact ⟨h1, Nat.lt_of_lt_of_le h2 hb.size, by rw [hb.cell (p := ⟨p, 0, none⟩) h2]; exact h3, by rw [hb.cell (p := ⟨p, 1, none⟩) h2]; exact h4, fun o => by rw [hb.frozen (p := ⟨p, o, none⟩) h2]; exact h5 o, h6.below hb, h7.below hb⟩

theorem Try.info45 : (Try.prog.info? 45).map (fun i => (i.zero, i.size, i.bytes)) = some (some (.agg #[.string ByteArray.empty, .string ByteArray.empty, .slice none 0 0, .int .i64 0]), 4, 64) := by kernel_rfl

theorem run_make45 (n : Nat) (hn : n ≤ 1048576) (w : World) : (Instr.makeSlice 40 (.int .i64 (n : Int)) (.int .i64 (n : Int))).run Try.prog w = .ok (.slice (some ⟨w.heap.size, 0, none⟩) n n) (w.alloc (.cells (madeCells #[.string ByteArray.empty, .string ByteArray.empty, .slice none 0 0, .int .i64 0] (n * 4)) 45)) := by
  obtain ⟨i, hi, hzz⟩ := Option.map_eq_some_iff.1 Try.info45
  simp only [Prod.mk.injEq] at hzz
  obtain ⟨hz, hs, hb⟩ := hzz
  have hr := run_make (P := Try.prog) w 40 45 i _ Try.underlying40 hi hz .i64 .i64 n n (by omega) (Int.le_refl _) (by rw [hb]; omega) (by omega)
  simp only [Int.toNat_natCast, hs] at hr
  exact hr

theorem Reqs.drew {W : World} {B n k : Nat} {f ops : Nat → ByteArray} {V : Nat → Option Addr} {Ln : Nat → Nat} {F : Nat → Nat → ByteArray} (h : Reqs W B n k f ops V Ln F) : Reqs W.drew B n k f ops V Ln F := h
theorem getL_le {n b : Nat} {L : Nat → Nat} (h : ∀ r, r < n → L r ≤ b) (i : Nat) : getL n L i ≤ b := by
  unfold getL; split
  · exact h i ‹_›
  · exact Nat.zero_le _

set_option maxRecDepth 100000 in
set_option maxHeartbeats 1000000 in
theorem build_any (a0 a1 a2 a3 a4 : Option Addr) (n0 n1 n2 n3 n4 c0 c1 c2 c3 c4 : Nat) (f0 f1 f2 f3 : Nat → ByteArray) (A : Nat → Option Addr) (L C : Nat → Nat) (F : Nat → Nat → ByteArray) (w : World)
    (h0 : SV w a0 n0 f0) (h1 : SV w a1 n1 f1) (h2 : SV w a2 n2 f2) (h3 : SV w a3 n3 f3) (h4 : SSV w a4 n4 A L C F) (b0 : n0 ≤ 1048576) (b2 : n2 ≤ 1048576) (hL : ∀ r, r < n4 → L r ≤ 1048576)
    (Q : Ending → World → Prop)
    (hQ : Hid (∀ (p : Nat) (r : Option Nat) (q : Option Addr) (V : Nat → Option Addr) (w' : World), Sel w' w.heap.size p a0.isSome n0 (mpTo f0 (getS n1 f1) n0) a2.isSome n2 f2 (getS n3 f3) V (getL n4 L) F r q → (∀ i, i < n2 → (V i).isSome = (getA n4 A i).isSome) → Below w.heap.size w w' → Q (.returned (.pointer (some ⟨p, 0, none⟩))) w')) :
    Calls Try.prog 9 #[.slice a0 n0 c0, .slice a1 n1 c1, .slice a2 n2 c2, .slice a3 n3 c3, .slice a4 n4 c4] w Q := by
  have hne0 := fun w => run_neq_slice_nil_any (P := Try.prog) w 22 9 a0 n0 c0 0 0 Try.underlying22
  have hne2 := fun w => run_neq_slice_nil_any (P := Try.prog) w 22 9 a2 n2 c2 0 0 Try.underlying22
  have hmm := @run_makeMap Try.prog
  have H0 : Hid (SV w a0 n0 f0) := h0
  have H1 : Hid (SV w a1 n1 f1) := h1
  have H2 : Hid (SV w a2 n2 f2) := h2
  have H3 : Hid (SV w a3 n3 f3) := h3
  have H4 : Hid (SSV w a4 n4 A L C F) := h4
  have HL : Hid (∀ r, r < n4 → L r ≤ 1048576) := hL
  clear h0 h1 h2 h3 h4 hL
  go_enter Try.func9, Try.ntmps9
  go_upto_if 16 with fail
  go_cut [11] (fun mv W => ∃ r, mv = .map r ∧ Below w.heap.size w W ∧ MapAt W w.heap.size a0.isSome n0 (mpTo f0 (getS n1 f1) n0) r)
  case first =>
    cases a0 with
    | none =>
      go_wp2_with fail
      go_meet
      case rel => exact ⟨none, rfl, Below.refl _ _, rfl, fun B hB => by cases hB⟩
    | some x0 =>
      go_wp2_with fail
      go_loopw [12] (fun i wr => ∃ (j : Nat) (D : DataW Unit), j ≤ n0 ∧ i = .int .i64 j ∧ Below w.heap.size w wr ∧ OwnM wr w.heap.size j D ∧ MP D (mpTo f0 (getS n1 f1) j) ∧ (j = 0 → Maps.size D = 0)) (fun i _ => n0 - (intOf i).toNat)
      case atStart => exact ⟨0, .map [], Nat.zero_le _, rfl, (Below.refl _ _).alloc (Nat.le_refl _) _, World.ownsMap_made _ _ _ _, MP_empty, fun _ => rfl⟩
      case round =>
        obtain ⟨j, D, hj, rfl, hb, hown, hmp, hz⟩ := hrel
        have HO : Hid (OwnM wr w.heap.size j D) := hown
        have HM : Hid (MP D (mpTo f0 (getS n1 f1) j)) := hmp
        have HZ : Hid (j = 0 → Maps.size D = 0) := hz
        clear hown hmp hz
        by_cases hlt : j < n0
        · have hi := fun w => idx22 c0 H0.out.1 w j hlt
          have hck := (H0.out.below hb).2.1 j hlt
          obtain ⟨w2, hrun, hown2, hgrow2⟩ := (HO.out.drew).update law9 Try.underlying39 (by unfold maxLen; omega) (keyOf9 (H0.out.2.2.1 j hlt)) (elem9 (getS_le H1.out.2.2.1 j))
          have HO2 : Hid (OwnM w2 w.heap.size (j + 1) (D.put (key (f0 j)) (val (getS n1 f1 j)))) := hown2
          have hb2 : Below w.heap.size w w2 := hb.drew.grown hgrow2 hb.size (fun k hk => by cases hk; exact Nat.le_refl _)
          have hck2 := (H0.out.below hb2).2.1 j hlt
          clear hown2 hgrow2
          go_wp2_with fail
          go_region_held3 (fun w' => w'.cell? (atk (some x0) j) = some (.string (f0 j))) (go_keep)
            ((go_at_call 13; refine pinAt_any _ _ _ j f1 _ (by exact (H1.out.below hb.drew)) _ (Hid.intro ?_)))
          go_wp2_with fail
          go_roundw
          case rel => (repeat apply Exists.intro); exact ⟨⟨j + 1, _, by omega, by go_num, hb2, HO2.out, HM.out.put _ _, fun h => by omega⟩, rfl⟩
          case measure => simp [intOf]; omega
        · obtain rfl : j = n0 := by omega
          go_wp2_with fail
          go_meet
          case rel => exact ⟨some w.heap.size, rfl, hb, rfl, fun B hB => by cases hB; exact ⟨Nat.le_refl _, D, HO.out, HM.out, HZ.out⟩⟩
  case rest =>
    obtain ⟨r, rfl, hb, hmap⟩ := hcut
    have HMAP : Hid (MapAt wc w.heap.size a0.isSome n0 (mpTo f0 (getS n1 f1) n0) r) := hmap
    clear hmap
    obtain ⟨wo, rfl⟩ : ∃ wo : World, wo = wc := ⟨_, rfl⟩
    go_upto_if 33 with fail
    go_cut [13] (fun mv W => ∃ (q : Option Addr) (V : Nat → Option Addr), mv = .slice q n2 n2 ∧ Below wo.heap.size wo W ∧ ReqAt W wo.heap.size a2.isSome n2 f2 (getS n3 f3) V (getL n4 L) F q ∧ ∀ i, i < n2 → (V i).isSome = (getA n4 A i).isSome)
    case first =>
      cases a2 with
      | none =>
        obtain rfl : n2 = 0 := H2.out.size_pos rfl
        go_wp2_with fail
        go_meet
        case rel => exact ⟨none, A, rfl, Below.refl _ _, ⟨rfl, fun h => by omega, fun x hx => by cases hx⟩, fun i hi => by omega⟩
      | some x2 =>
        have hmk := run_make45 n2 b2
        have hM : (madeCells #[.string ByteArray.empty, .string ByteArray.empty, .slice none 0 0, .int .i64 0] (n2 * 4)).size = n2 * 4 := size_madeCells _ _
        generalize madeCells #[.string ByteArray.empty, .string ByteArray.empty, .slice none 0 0, .int .i64 0] (n2 * 4) = M at hmk hM
        have HMM : Hid (M.size = n2 * 4) := hM
        clear hM
        go_wp2_with fail
        go_loopw [14] (fun i wr => ∃ (j : Nat) (V : Nat → Option Addr), j ≤ n2 ∧ i = .int .i64 j ∧ Below wo.heap.size wo wr ∧ wo.heap.size < wr.heap.size ∧ Reqs wr wo.heap.size n2 j f2 (getS n3 f3) V (getL n4 L) F ∧ ∀ i, i < j → (V i).isSome = (getA n4 A i).isSome) (fun i _ => n2 - (intOf i).toNat)
        case atStart =>
          refine ⟨0, A, Nat.zero_le _, rfl, (Below.refl _ _).alloc (Nat.le_refl _) _, by simp, ⟨fun m hm => ?_, fun m => World.frozen?_alloc_new _ _ _ _, fun i hi => by omega⟩, fun i hi => by omega⟩
          have hm' : m < M.size := by rw [HMM.out]; omega
          exact ⟨M[m], by rw [World.cell?_alloc_new]; simp [hm']⟩
        case round =>
          obtain ⟨j, V, hj, rfl, hb2, hz, hreq, hV⟩ := hrel
          have HR : Hid (Reqs wr wo.heap.size n2 j f2 (getS n3 f3) V (getL n4 L) F) := hreq
          have HV : Hid (∀ i, i < j → (V i).isSome = (getA n4 A i).isSome) := hV
          clear hreq hV
          have hbw : Below w.heap.size w wr := hb.trans (hb2.mono hb.size)
          by_cases hlt : j < n2
          · have hi := fun w => idx22 c2 H2.out.1 w j hlt
            have hck := (H2.out.below hbw).2.1 j hlt
            have hblk : (atk (some x2) j).block < wo.heap.size := Nat.lt_of_lt_of_le (cell_some_lt (H2.out.2.1 j hlt)) hb.size
            have hne1 : ∀ m, ¬ (⟨wo.heap.size, m, none⟩ : Addr) = atk (some x2) j := fun m e => by rw [← e] at hblk; exact Nat.lt_irrefl _ hblk
            have hne3 : ∀ m, ¬ atk (some x2) j = (⟨wo.heap.size, m, none⟩ : Addr) := fun m e => hne1 m e.symm
            clear hblk
            go_wp2_with fail
            go_region_held3 (fun w' => w'.cell? (atk (some x2) j) = some (.string (f2 j))) (first | go_keep | (rw [World.cell?_setCell_other _ _ _ _ (hne1 _), World.cell?_setCell_other _ _ _ _ (hne1 _), World.cell?_setCell_other _ _ _ _ (hne1 _), World.cell?_setCell_other _ _ _ _ (hne1 _)]; assumption))
              (first
                | (go_at_call 13; refine pinAt_any _ _ _ j f3 _ (by exact (H3.out.below hbw.drew)) _ (Hid.intro ?_))
                | (go_at_call 15; refine pinAtSlice_any _ _ _ j A L C F _ (by exact (H4.out.below hbw.drew)) _ (Hid.intro ?_))
                | (go_at_call 7; refine clone_any _ _ _ (F j) _ (by exact ((H4.out.below hbw.drew).get j)) (by exact getL_le HL.out j) _ (fun ak w1 hsome hsv hnew hb1 => ?_);
                   have hck1 := (H2.out.below (hbw.drew.trans (hb1.mono (by exact hbw.size)))).2.1 j hlt;
                   have hR1 := (HR.out.drew).below (by exact hz) hb1;
                   obtain ⟨v0, hv0⟩ := hR1.1 (j * 4) (by omega);
                   obtain ⟨v1, hv1⟩ := hR1.1 (j * 4 + 1) (by omega);
                   obtain ⟨v2, hv2⟩ := hR1.1 (j * 4 + 2) (by omega);
                   obtain ⟨v3, hv3⟩ := hR1.1 (j * 4 + 3) (by omega);
                   have hfz := hR1.2.1;
                   have HR1 : Hid (Reqs w1 wo.heap.size n2 j f2 (getS n3 f3) V (getL n4 L) F) := hR1;
                   have HSV : Hid (SV w1 ak (getL n4 L j) (F j)) := hsv;
                   have HNEW : Hid (NewAt wr.drew w1 ak) := hnew;
                   have HB1 : Hid (Below wr.drew.heap.size wr.drew w1) := hb1;
                   clear hR1 hsv hnew hb1))
            go_wp2_with fail
            go_roundw
            case rel =>
              (repeat apply Exists.intro)
              have hpos : ∀ x, ak = some x → wo.heap.size < x.block := fun x hx => Nat.lt_of_lt_of_le hz (HNEW.out x hx).1
              have hb3 : Below wo.heap.size wo w1 := hb2.drew.trans (HB1.out.mono (Nat.le_of_lt hz))
              refine ⟨⟨j + 1, fun i => if i = j then ak else V i, by omega, by go_num, (((hb3.setCell (Nat.le_refl _) _).setCell (Nat.le_refl _) _).setCell (Nat.le_refl _) _).setCell (Nat.le_refl _) _, ?_, HR1.out.store hlt HSV.out hpos, fun i hi => ?_⟩, rfl⟩
              · rw [World.size_setCell, World.size_setCell, World.size_setCell, World.size_setCell]; exact Nat.lt_of_lt_of_le hz HB1.out.size
              · by_cases e : i = j
                · subst e; simp only [if_true]; exact hsome
                · simp only [if_neg e]; exact HV.out i (by omega)
            case measure => simp [intOf]; omega
          · obtain rfl : j = n2 := by omega
            go_wp2_with fail
            go_meet
            case rel => exact ⟨some ⟨wo.heap.size, 0, none⟩, V, rfl, hb2, ⟨rfl, fun _ => rfl, fun x hx => by cases hx; exact ⟨_, rfl, Nat.le_refl _, hz, HR.out⟩⟩, HV.out⟩
    case rest =>
      obtain ⟨q, V, rfl, hb2, hreq, hV⟩ := hcut
      have hbw : Below w.heap.size w wc := hb.trans (hb2.mono hb.size)
      have HREQ : Hid (ReqAt wc w.heap.size a2.isSome n2 f2 (getS n3 f3) V (getL n4 L) F q) := hreq.lower hb.size
      have HV : Hid (∀ i, i < n2 → (V i).isSome = (getA n4 A i).isSome) := hV
      have HMAP2 := HMAP.out.below hb2
      have HM : Hid (MapAt wc w.heap.size a0.isSome n0 (mpTo f0 (getS n1 f1) n0) r) := HMAP2
      clear hreq hV HMAP2
      go_wp2_with fail
      have hba : Below wc.heap.size wc (wc.alloc (.cells #[.map r, .slice q n2 n2] 42)) := (Below.refl _ _).alloc (Nat.le_refl _) _
      refine hQ.out wc.heap.size r q V _ ⟨hbw.size, by simp, ?_, ?_, fun o => World.frozen?_alloc_new _ _ _ _, HM.out.below hba, HREQ.out.below hba⟩ HV.out (hbw.trans (hba.mono hbw.size))
      · rw [World.cell?_alloc_new]; rfl
      · rw [World.cell?_alloc_new]; rfl
end Go.Proofs.Qxb6629100a
