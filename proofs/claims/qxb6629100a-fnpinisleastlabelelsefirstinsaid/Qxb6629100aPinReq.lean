/-
  The contract of Pin where the selector has no labels.
-/
import Derived.Test.Qxb6629100aPin
namespace Go.Proofs.Qxb6629100a
open Go.ChangeShapes Go.WideShapes Go.ChangeAt Go.RowKit

/-- is the operator 'In'? -/
def isIn (s : ByteArray) : Bool := s.toList == [73, 110]

theorem size45 (w : World) : (sizeOf 45).run Try.prog w = .ok 4 w := by kernel_rfl
theorem idx40 {b n : Nat} {q : Option Addr} (c : Nat) (h : 0 < n → q = some ⟨b, 0, none⟩) (w : World) (k : Nat) (hk : k < n) :
    (Instr.indexAt 40 (.slice q n c) (.int .i64 (k : Int))).run Try.prog w = .ok (.pointer (some ⟨b, k * 4, none⟩)) w := by
  rw [h (by omega)]
  rw [run_indexAt_slice w 40 ⟨b, 0, none⟩ n c .i64 k (by rw [show Try.prog.elem 40 = 45 from rfl]; exact Try.underlying40), if_pos (by omega), show Try.prog.elem 40 = 45 from rfl, size45]
  simp only [Result.andThen, Int.toNat_natCast, add_plain, Nat.zero_add]

theorem ReqAt.opened {W : World} {lo n : Nat} {nn : Bool} {f ops : Nat → ByteArray} {V : Nat → Option Addr} {Ln : Nat → Nat} {F : Nat → Nat → ByteArray} {q : Option Addr} (h : ReqAt W lo nn n f ops V Ln F q) :
    ∃ B, (0 < n → q = some ⟨B, 0, none⟩) ∧ ∀ i, i < n → B < W.heap.size ∧ W.cell? ⟨B, i * 4, none⟩ = some (.string (f i)) ∧ W.cell? ⟨B, i * 4 + 1, none⟩ = some (.string (ops i)) ∧ W.cell? ⟨B, i * 4 + 2, none⟩ = some (.slice (V i) (Ln i) (Ln i)) := by
  cases q with
  | none =>
    have hn : n = 0 := by
      rcases Nat.eq_zero_or_pos n with e | e
      · exact e
      · have h1 := h.2.1 e; have h2 := h.1; rw [h1] at h2; cases h2
    exact ⟨0, fun h => by omega, fun i hi => by omega⟩
  | some x =>
    obtain ⟨B, rfl, _, hB, hr⟩ := h.2.2 x rfl
    exact ⟨B, fun _ => rfl, fun i hi => ⟨hB, (hr.2.2 i hi).1, (hr.2.2 i hi).2.1, (hr.2.2 i hi).2.2.1⟩⟩

set_option maxHeartbeats 1000000 in
theorem pin_reqs (p lo n : Nat) (r : Option Nat) (q : Option Addr) (nn : Bool) (f ops : Nat → ByteArray) (V : Nat → Option Addr) (Ln : Nat → Nat) (F : Nat → Nat → ByteArray) (w : World) (hp : p < w.heap.size) (hc0 : w.cell? ⟨p, 0, none⟩ = some (.map r)) (hc1 : w.cell? ⟨p, 1, none⟩ = some (.slice q n n))
    (hlen : ∀ o ty, (Builtin.len_ #[39] ty #[.map r]).run Try.prog (w.alloc o) = .ok (.int .i64 0) (w.alloc o)) (hreq : ReqAt w lo nn n f ops V Ln F q) (hn : n ≤ 1048576)
    (Q : Ending → World → Prop)
    (hQ1 : Hid (∀ (i : Nat) (w' : World), i < n → isIn (ops i) = true → (∀ j, j < i → isIn (ops j) = false) → Below w.heap.size w w' → Q (.returned (.tuple #[.agg #[.string (f i), .bool false, .slice (V i) (Ln i) (Ln i), .bool false, .pointer none], .bool true])) w'))
    (hQ2 : Hid (∀ (w' : World), (∀ j, j < n → isIn (ops j) = false) → Below w.heap.size w w' → Q (.returned (.tuple #[.agg #[.string ⟨#[]⟩, .bool false, .slice none 0 0, .bool false, .pointer none], .bool false])) w')) :
    Calls Try.prog 10 #[.pointer (some ⟨p, 0, none⟩)] w Q := by
  obtain ⟨B, hqs, hcells⟩ := hreq.opened
  have HC : Hid (∀ i, i < n → B < w.heap.size ∧ w.cell? ⟨B, i * 4, none⟩ = some (.string (f i)) ∧ w.cell? ⟨B, i * 4 + 1, none⟩ = some (.string (ops i)) ∧ w.cell? ⟨B, i * 4 + 2, none⟩ = some (.slice (V i) (Ln i) (Ln i))) := hcells
  have HQS : Hid (0 < n → q = some ⟨B, 0, none⟩) := hqs
  clear hreq hcells hqs
  go_enter Try.func10, Try.ntmps10
  go_wp2_with fail
  go_loop [49, 7, 8] (fun c _ _ => ∃ k : Nat, k ≤ n ∧ c = .int .i64 k ∧ ∀ j, j < k → isIn (ops j) = false) (fun c _ _ => n - (intOf c).toNat)
  case atStart => exact ⟨0, Nat.zero_le _, rfl, fun j hj => by omega⟩
  case round =>
    obtain ⟨k, hk, rfl, hno⟩ := hrel
    have HN : Hid (∀ j, j < k → isIn (ops j) = false) := hno
    clear hno
    by_cases hlt : k < n
    · have hi := fun w => idx40 n HQS.out w k hlt
      obtain ⟨hB, k0, k1, k2⟩ := HC.out k hlt
      cases hop : isIn (ops k) with
      | false =>
        have hop2 : ((ops k).toList == [73, 110]) = false := hop
        have HOP : Hid (isIn (ops k) = false) := hop
        clear hop
        go_wp2_with fail
        go_round
        case rel => exact ⟨k + 1, by omega, by go_num, fun j hj => by
          by_cases e : j = k
          · subst e; exact HOP.out
          · exact HN.out j (by omega)⟩
        case measure => simp [intOf]; omega
      | true =>
        have hop2 : ((ops k).toList == [73, 110]) = true := hop
        have HOP : Hid (isIn (ops k) = true) := hop
        clear hop
        go_wp2_with fail
        have hBB : (⟨B, k * 4, none⟩ : Addr).block < w.heap.size := hB
        go_region_held3 (fun w' => w'.cell? ⟨B, k * 4, none⟩ = some (.string (f k)) ∧ w'.cell? ⟨B, k * 4 + 2, none⟩ = some (.slice (V k) (Ln k) (Ln k))) (go_keep) (fail)
        all_goals go_wp2_with fail
        all_goals
          refine pin_ret (b := w.heap.size) (ok := true) rfl rfl rfl (by rw [World.cell?_drew, World.cell?_alloc_new]; rfl) (by rw [World.cell?_drew, World.cell?_alloc_new]; rfl) (by rw [World.cell?_drew, World.cell?_alloc_new]; rfl) (by rw [World.cell?_drew, World.cell?_alloc_new]; rfl) (by rw [World.cell?_drew, World.cell?_alloc_new]; rfl) ?_
          exact hQ1.out k _ hlt HOP.out HN.out (((Below.refl _ _).alloc (Nat.le_refl _) _).drew)
    · obtain rfl : k = n := by omega
      go_wp2_with fail
      refine pin_ret (b := w.heap.size) (ok := false) rfl rfl rfl (by rw [World.cell?_alloc_new]; rfl) (by rw [World.cell?_alloc_new]; rfl) (by rw [World.cell?_alloc_new]; rfl) (by rw [World.cell?_alloc_new]; rfl) (by rw [World.cell?_alloc_new]; rfl) ?_
      exact hQ2.out _ HN.out ((Below.refl _ _).alloc (Nat.le_refl _) _)
end Go.Proofs.Qxb6629100a
