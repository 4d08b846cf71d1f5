/-
  An element with its children in memory ('Tree'), and the contracts of ZZnewElement, ZZaddChild and zzBuildB1, which build it.
-/
import Derived.Test.Qxb6629177aFmtBytes
import Derived.Deep.OwnRows
import Derived.Deep.AppendLies
namespace Go.Proofs.Qxb6629177aFmt
open Go.ChangeShapes Go.WideShapes Go.ChangeAt Go.RowKit

theorem Hid.intro {p : Prop} (h : p) : Hid p := h

/-- the block of a new element -/
def elem (sp lo : ByteArray) (line : Int) : Obj := .cells #[.string sp, .string lo, .int .i64 line, .slice none 0 0, .slice none 0 0, .slice none 0 0, .pointer none] 45

theorem newElement_any (sp lo : ByteArray) (line : Int) (w : World) (Q : Ending → World → Prop) (hQ : Hid (Q (.returned (.pointer (some ⟨w.heap.size, 0, none⟩))) (w.alloc (elem sp lo line)))) :
    Calls Tryf.prog 11 #[.string sp, .string lo, .int .i64 line] w Q := by
  go_enter Tryf.func11, Tryf.ntmps11
  go_wp2
  exact hQ.out

theorem Tryf.info25 : (Tryf.prog.info? 25).map (fun i => (i.zero, i.size, i.bytes)) = some (some (.pointer none), 1, 8) := by kernel_rfl

/-- what ZZaddChild leaves -/
structure Added (w w' : World) (B C base : Nat) (v : Value) (n : Nat) (xs : List Value) (g cap : Nat) : Prop where
  c5 : w'.cell? ⟨B, 5, none⟩ = some (.slice (some ⟨g, 0, none⟩) (n + 1) cap)
  f5 : w'.frozen? ⟨B, 5, none⟩ = false
  c6 : w'.cell? ⟨C, 6, none⟩ = some (.pointer (some ⟨B, 0, none⟩))
  own : w'.ownsRow base 25 1 (.slice (some ⟨g, 0, none⟩) (n + 1) cap) (n + 1) (xs ++ [.pointer (some ⟨C, 0, none⟩)])
  far : ∀ p : Addr, p.block < w.heap.size → p ≠ ⟨B, 5, none⟩ → p ≠ ⟨C, 6, none⟩ → v.ownBlock ≠ some p.block → w'.cell? p = w.cell? p ∧ w'.frozen? p = w.frozen? p
  at_ : v.ownBlock = some g ∨ w.heap.size ≤ g
  lt : g < w'.heap.size
  size : w.heap.size ≤ w'.heap.size
  below : ∀ b, b ≤ B → Below b w w'

theorem added (w : World) (B C base : Nat) (v : Value) (n : Nat) (xs : List Value) (g cap : Nat) (w3 : World) (v6 : Value)
    (hBC : B < C) (hB : B < base) (hC : C < w.heap.size) (h6 : w.cell? ⟨C, 6, none⟩ = some v6) (h5 : w.cell? ⟨B, 5, none⟩ = some v) (hf5 : w.frozen? ⟨B, 5, none⟩ = false)
    (hown : w.ownsRow base 25 1 v n xs) (hvC : v.ownBlock ≠ some C)
    (hown3 : w3.ownsRow base 25 1 (.slice (some ⟨g, 0, none⟩) (n + 1) cap) (n + 1) (xs ++ [.pointer (some ⟨C, 0, none⟩)]))
    (hgrow : ((w.setCell ⟨C, 6, none⟩ (.pointer (some ⟨B, 0, none⟩))).alloc (.cells #[.pointer (some ⟨C, 0, none⟩)] 25)).grownBy w3 v.ownBlock)
    (hat : v.ownBlock = some g ∨ g = w.heap.size + 1) (hlt : g < w3.heap.size) :
    (∃ v5, w3.cell? ⟨B, 5, none⟩ = some v5) ∧ w3.frozen? ⟨B, 5, none⟩ = false ∧ Added w (w3.setCell ⟨B, 5, none⟩ (.slice (some ⟨g, 0, none⟩) (n + 1) cap)) B C base v n xs g cap := by
  have hvB : v.ownBlock ≠ some B := fun h => by have := (hown.lt B h).1; omega
  have hsz : ((w.setCell ⟨C, 6, none⟩ (.pointer (some ⟨B, 0, none⟩))).alloc (.cells #[.pointer (some ⟨C, 0, none⟩)] 25)).heap.size = w.heap.size + 1 := by simp
  have far3 : ∀ p : Addr, p.block < w.heap.size → v.ownBlock ≠ some p.block → w3.cell? p = (w.setCell ⟨C, 6, none⟩ (.pointer (some ⟨B, 0, none⟩))).cell? p ∧ w3.frozen? p = w.frozen? p := by
    intro p hp hv
    have b1 : Below w.heap.size (w.setCell ⟨C, 6, none⟩ (.pointer (some ⟨B, 0, none⟩))) ((w.setCell ⟨C, 6, none⟩ (.pointer (some ⟨B, 0, none⟩))).alloc (.cells #[.pointer (some ⟨C, 0, none⟩)] 25)) := (Below.refl _ _).alloc (by simp) _
    refine ⟨?_, ?_⟩
    · rw [hgrow.cell_far p (by omega) (fun h => hv h.symm), b1.cell hp]
    · rw [hgrow.frozen_far p (by omega) (fun h => hv h.symm), b1.frozen hp, World.frozen?_setCell]
  have hg : base ≤ g := (hown3.lt g rfl).1
  have e5 := far3 ⟨B, 5, none⟩ (by show B < _; omega) hvB
  have e6 := far3 ⟨C, 6, none⟩ hC hvC
  rw [World.cell?_setCell_other w ⟨C, 6, none⟩ ⟨B, 5, none⟩ _ (fun h => by cases h), h5] at e5
  rw [World.cell?_setCell_same w _ _ h6] at e6
  refine ⟨⟨_, e5.1⟩, e5.2.trans hf5, ?_⟩
  refine { c5 := World.cell?_setCell_same _ _ _ e5.1, f5 := ?_, c6 := ?_, own := ownsRow_setCell_below hown3 hB _, far := ?_, at_ := ?_, lt := ?_, size := ?_, below := ?_ }
  · rw [World.frozen?_setCell]; exact e5.2.trans hf5
  · rw [World.cell?_setCell_other _ ⟨B, 5, none⟩ ⟨C, 6, none⟩ _ (fun h => by cases h)]; exact e6.1
  · intro p hp h1 h2 h3
    obtain ⟨q1, q2⟩ := far3 p hp h3
    refine ⟨?_, ?_⟩
    · rw [World.cell?_setCell_other _ _ _ _ (fun h => h1 h.symm), q1, World.cell?_setCell_other _ _ _ _ (fun h => h2 h.symm)]
    · rw [World.frozen?_setCell, q2]
  · rcases hat with h | h
    · exact .inl h
    · exact .inr (by omega)
  · rw [World.size_setCell]; exact hlt
  · rw [World.size_setCell]; have := hgrow.size; omega
  · intro b hb
    have b1 : Below b w ((w.setCell ⟨C, 6, none⟩ (.pointer (some ⟨B, 0, none⟩))).alloc (.cells #[.pointer (some ⟨C, 0, none⟩)] 25)) :=
      ((Below.refl _ _).setCell (p := ⟨C, 6, none⟩) (by show b ≤ C; omega) _).alloc (by simp; omega) _
    exact (b1.grown hgrow (by omega) (fun k hk => by have := (hown.lt k hk).1; omega)).setCell hb _

set_option maxHeartbeats 400000 in
theorem addChild_any (B C : Nat) (base : Nat) (v : Value) (n : Nat) (xs : List Value) (w : World) (v6 : Value)
    (hBC : B < C) (hB : B < base) (hC : C < w.heap.size) (h6 : w.cell? ⟨C, 6, none⟩ = some v6) (hf6 : w.frozen? ⟨C, 6, none⟩ = false) (h5 : w.cell? ⟨B, 5, none⟩ = some v) (hf5 : w.frozen? ⟨B, 5, none⟩ = false)
    (hown : w.ownsRow base 25 1 v n xs) (hvC : v.ownBlock ≠ some C) (hn : n ≤ 1048576) (hbase : base ≤ w.heap.size)
    (Q : Ending → World → Prop) (hQ : Hid (∀ (g cap : Nat) (w' : World), Added w w' B C base v n xs g cap → Q (.returned (.tuple #[])) w')) :
    Calls Tryf.prog 12 #[.pointer (some ⟨B, 0, none⟩), .pointer (some ⟨C, 0, none⟩)] w Q := by
  obtain ⟨i0, hi0, hz0, hz1, hz2⟩ := info_parts Tryf.info25
  have HO : Hid (w.ownsRow base 25 1 v n xs) := hown
  have HV : Hid (v.ownBlock ≠ some C) := hvC
  have hne : ({ block := C, off := 6, spot := none } : Addr) ≠ { block := B, off := 5, spot := none } := fun h => by cases h
  clear hown hvC
  go_enter Tryf.func12, Tryf.ntmps12
  go_wp2_with (at_builtin; refine wpList_append_lies _ rfl _ _ 26 rfl base 25 i0 (.pointer none) 1 8 Tryf.underlying26 hi0 hz0 hz1 hz2 rfl (by omega) v n xs rfl (by exact (ownsRow_setCell_other HO.out HV.out _).alloc _) ⟨w.heap.size, 0, none⟩ 1 1 [.pointer (some ⟨C, 0, none⟩)] rfl rfl (by have h := cell_one_new (w.setCell ⟨C, 6, none⟩ (.pointer (some ⟨B, 0, none⟩))) (.pointer (some ⟨C, 0, none⟩)) 25; rw [World.size_setCell] at h; exact h) (by intro u hu; simp at hu; subst hu; rfl) (by omega) (by unfold maxLen; omega) (by omega) (by simp; omega) (w.heap.size + 1) (by simp) ?_; intro g2 cap2 w2 hown2 hgrow2 hat2 hlt2; obtain ⟨⟨v5, q5⟩, qf5, HA⟩ := added w B C base v n xs g2 cap2 w2 v6 hBC hB hC h6 h5 hf5 HO.out HV.out hown2 hgrow2 hat2 hlt2; have HAD : Hid (Added w (w2.setCell ⟨B, 5, none⟩ (.slice (some ⟨g2, 0, none⟩) (n + 1) cap2)) B C base v n xs g2 cap2) := Hid.intro HA; clear hown2 hgrow2 hat2 hlt2 HA)
  go_end0
  exact hQ.out g2 cap2 _ HAD.out
end Go.Proofs.Qxb6629177aFmt
