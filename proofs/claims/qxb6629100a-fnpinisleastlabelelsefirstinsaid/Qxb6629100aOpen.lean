/-
  From the rows' reading of the arguments to the walks' words SV, SSV.
-/
import Derived.Test.Qxb6629100aBase
import Derived.Deep.Slices
import Derived.SliceStrings
namespace Go.Proofs.Qxb6629100a
open Go.ChangeShapes Go.WideShapes Go.ChangeAt Go.RowKit Go.Deep

theorem sv_cells {H : Type} {enc : TypeId × Value → H} {W : World} {fuel : Nat} {v : Value} {x : DataW H × List MemPlace} (hf : DataW.trod enc Try.prog W 0 (fun _ => true) true fuel 22 [v] = some x) :
    ∃ (a : Option Addr) (n c : Nat) (f : Nat → ByteArray), v = .slice a n c ∧ SV W a n f := by
  rcases open_strings Try.underlying22 Try.underlying9 Try.cells9 hf with ⟨hcs, _⟩ | ⟨y, l, c, ss, hcs, _, hl, hm, hz, _, hcell, hws⟩
  · refine ⟨none, 0, 0, fun _ => ByteArray.empty, by simpa using hcs, fun h => by omega, fun k hk => by omega, fun k hk => by omega, Nat.zero_le _⟩
  · simp only [if_true] at hz
    refine ⟨some y, l, c, fun k => ss.getD k ByteArray.empty, by simpa using hcs, fun _ => rfl, fun k hk => hcell k (by omega), fun k hk => ?_, Nat.le_trans hl hm⟩
    have hk' : k < ss.length := by omega
    show (ss.getD k ByteArray.empty).size ≤ maxLen
    rw [List.getD_eq_getElem?_getD, List.getElem?_eq_getElem hk']
    exact hws _ (List.getElem_mem hk')

theorem sv_of {H : Type} {enc : TypeId × Value → H} {W : World} {a : Option Addr} {n c : Nat} {d : DataW H} {p : List MemPlace} (h : DataW.Trod enc Try.prog W 0 (fun _ => true) true 22 (.slice a n c) d p) : ∃ f, SV W a n f := by
  obtain ⟨fuel, hf⟩ := h
  obtain ⟨a', n', c', f, e, hs⟩ := sv_cells hf
  cases e
  exact ⟨f, hs⟩

theorem ssv_of {H : Type} {enc : TypeId × Value → H} {W : World} {a : Option Addr} {n c : Nat} {d : DataW H} {p : List MemPlace} (h : DataW.Trod enc Try.prog W 0 (fun _ => true) true 23 (.slice a n c) d p) : ∃ A L C F, SSV W a n A L C F := by
  obtain ⟨fuel, hf⟩ := h
  rcases open_slice1 Try.underlying23 Try.cells22 hf with ⟨hcs, _⟩ | ⟨y, l, cp, m, n', V, D, Pl, hcs, _, hl, hm, hmm, _, hx⟩
  · have e : Value.slice a n c = .slice none 0 0 := by simpa [Value.cells] using hcs
    cases e
    exact ⟨fun _ => none, fun _ => 0, fun _ => 0, fun _ _ => ByteArray.empty, fun h => by omega, fun k hk => by omega, fun k hk => by omega, Nat.zero_le _⟩
  · have e : Value.slice a n c = .slice (some y) l cp := by simpa [Value.cells] using hcs
    cases e
    simp only [if_true] at hmm
    have each : ∀ r, r < n → ∃ z : Option Addr × Nat × Nat × (Nat → ByteArray), V r = .slice z.1 z.2.1 z.2.2.1 ∧ SV W z.1 z.2.1 z.2.2.2 := fun r hr => by
      obtain ⟨a', n', c', f, e, hs⟩ := sv_cells (hx r (by omega)).2
      exact ⟨(a', n', c', f), e, hs⟩
    obtain ⟨z, hz⟩ := choose_lt each
    exact ⟨fun r => (z r).1, fun r => (z r).2.1, fun r => (z r).2.2.1, fun r => (z r).2.2.2, fun _ => rfl, fun r hr => by rw [← (hz r hr).1]; exact (hx r (by omega)).1, fun r hr => (hz r hr).2, Nat.le_trans hl hm⟩
end Go.Proofs.Qxb6629100a
