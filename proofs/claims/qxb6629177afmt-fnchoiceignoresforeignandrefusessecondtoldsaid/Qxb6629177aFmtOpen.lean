/-
  From the rows' reading of the arguments to the walks' word CV.
-/
import Derived.Test.Qxb6629177aFmtBase
import Derived.Deep.Slices
import Derived.Deep.Strs
import Derived.SliceStrings
namespace Go.Proofs.Qxb6629177aFmt
open Go.ChangeShapes Go.WideShapes Go.ChangeAt Go.RowKit Go.Deep

theorem Tryf.cells9 : Tryf.prog.cellsOf 9 = 1 := by kernel_rfl
theorem Tryf.cells3 : Tryf.prog.cellsOf 3 = 1 := by kernel_rfl
theorem Tryf.cells36 : Tryf.prog.cellsOf 36 = 3 := by kernel_rfl

/-- a child's three cells -/
theorem child_cells {H : Type} {enc : TypeId × Value → H} {W : World} {spare : Nat → Bool} {held : Bool} {fuel : Nat} {cs : List Value} {x : DataW H × List MemPlace} (hf : DataW.trod enc Tryf.prog W 0 spare held fuel 36 cs = some x) :
    ∃ (s l : ByteArray) (i : Int), cs = [.string s, .string l, .int .i64 i] ∧ s.size ≤ maxLen ∧ l.size ≤ maxLen ∧ x = (.agg [.lit (.string s.data.toList), .lit (.string l.data.toList), .lit (.int .i64 i)], []) ∧ (Lit.int .i64 i).wf = true := by
  obtain ⟨y0, y1, y2, n, rfl, hl, h0, h1, h2⟩ := trod_struct3 Tryf.underlying36 hf
  rw [Tryf.cells36] at hl
  match cs, hl with
  | [x0, x1, x2], _ =>
    simp only [Tryf.cells9, Tryf.cells3, List.drop_zero, List.drop_succ_cons, List.take_succ_cons, List.take_zero] at h0 h1 h2
    obtain ⟨s, e0, r0, z0⟩ := DataW.trod_string Tryf.underlying9 h0
    obtain ⟨l, e1, r1, z1⟩ := DataW.trod_string Tryf.underlying9 h1
    obtain ⟨i, e2, r2, z2⟩ := DataW.trod_int Tryf.underlying3 h2
    cases e0; cases e1; cases e2
    exact ⟨s, l, i, rfl, z0, z1, by rw [r0, r1, r2]; rfl, z2⟩

theorem cv_of {H : Type} {enc : TypeId × Value → H} {W : World} {a : Option Addr} {n c : Nat} {d : DataW H} {p : List MemPlace} (h : DataW.Trod enc Tryf.prog W 0 (fun _ => true) true 22 (.slice a n c) d p) : ∃ S L I, CV W a n S L I := by
  obtain ⟨fuel, hf⟩ := h
  rcases open_slice Tryf.underlying22 hf with ⟨hcs, _⟩ | ⟨y, l, cp, m, n', D, Pl, hcs, _, hl, hm, hmm, _, hx⟩
  · have e : Value.slice a n c = .slice none 0 0 := by simpa [Value.cells] using hcs
    cases e
    exact ⟨fun _ => ByteArray.empty, fun _ => ByteArray.empty, fun _ => 0, fun h => by omega, fun k hk => by omega, fun k hk => by omega, Nat.zero_le _⟩
  · have e : Value.slice a n c = .slice (some y) l cp := by simpa [Value.cells] using hcs
    cases e
    simp only [if_true] at hmm
    rw [Tryf.cells36] at hx
    have each : ∀ r, r < n → ∃ z : ByteArray × ByteArray × Int, (W.cell? (atz 3 (some y) r) = some (.string z.1) ∧ W.cell? ⟨(atz 3 (some y) r).block, (atz 3 (some y) r).off + 1, none⟩ = some (.string z.2.1) ∧ W.cell? ⟨(atz 3 (some y) r).block, (atz 3 (some y) r).off + 2, none⟩ = some (.int .i64 z.2.2)) ∧ z.1.size ≤ maxLen ∧ z.2.1.size ≤ maxLen := fun r hr => by
      obtain ⟨cs', h1, h2⟩ := hx r (by omega)
      obtain ⟨s, l, i, rfl, z0, z1, _, _⟩ := child_cells h2
      obtain ⟨_, _, hc⟩ := World.cells?_some h1
      refine ⟨(s, l, i), ⟨?_, ?_, ?_⟩, z0, z1⟩
      · exact hc 0 (by omega)
      · exact hc 1 (by omega)
      · exact hc 2 (by omega)
    obtain ⟨z, hz⟩ := choose_lt each
    exact ⟨fun r => (z r).1, fun r => (z r).2.1, fun r => (z r).2.2, fun _ => rfl, fun r hr => (hz r hr).1, fun r hr => (hz r hr).2, Nat.le_trans hl hm⟩
end Go.Proofs.Qxb6629177aFmt
