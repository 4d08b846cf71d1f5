/-
  The library's contracts of strings.Builder at this dump, in plain words: Grow and String as the kit's tool lays them; WriteByte and WriteString laid by hand (the tool does not lay them here: the copy check's panic is refused by the loader, so no body names the string's type).
-/
import Derived.Shelf.Strings.Builder1
import Derived.Shelf.Strings.Builder2
import Derived.Test.Qxb6629145aRows
namespace Go.Proofs.Qxb6629145a
open Go.Shelf
def lays169_ren : Go.Shelf.Ren := ⟨fun | 169 => 15 | n => n, fun | 70 => 29 | 9 => 9 | 0 => 0 | 72 => 31 | 37 => 27 | 127 => 42 | 3 => 3 | 5 => 5 | n => n, fun | n => n⟩
theorem lays169 : Go.Proofs.Lays.n169 Try.prog lays169_ren := {
  mixed := by kernel_rfl
  f169 := Try.func15.trans (congrArg some (by kernel_rfl))
  t0 := Try.underlying0
  a0 := Try.isAgg0
  z0 := Try.sizeOf0
  v0 := Try.zeroValue0
  t3 := Try.underlying3
  a3 := Try.isAgg3
  z3 := Try.sizeOf3
  v3 := Try.zeroValue3
  t9 := Try.underlying9
  a9 := Try.isAgg9
  z9 := Try.sizeOf9
  v9 := Try.zeroValue9
  t37 := Try.underlying27
  a37 := Try.isAgg27
  z37 := Try.sizeOf27
  v37 := Try.zeroValue27
  t70 := Try.underlying29
  a70 := Try.isAgg29
  z70 := Try.sizeOf29
  v70 := Try.zeroValue29
  t72 := Try.underlying31
  a72 := Try.isAgg31
  z72 := Try.sizeOf31
  v72 := Try.zeroValue31
  t127 := Try.underlying42
  a127 := Try.isAgg42
  z127 := Try.sizeOf42
  v127 := Try.zeroValue42 }
theorem Builder_Extra_169 : Builder.Extra Try.prog lays169_ren := {
  sizeBuilder := by kernel_rfl
  liesBuilder := by kernel_rfl
  t5 := Try.underlying5
  a5 := Try.isAgg5
  z5 := Try.sizeOf5
  v5 := Try.zeroValue5
  infoByte := by kernel_rfl
  cellsByte := by kernel_rfl
  sizeByte := by kernel_rfl
  neB5 := by decide }
def lays165_ren : Go.Shelf.Ren := ⟨fun | 165 => 11 | 240 => 18 | 241 => 19 | 276 => 20 | 277 => 21 | n => n, fun | 70 => 29 | 3 => 3 | 0 => 0 | 4 => 4 | 9 => 9 | 20 => 20 | 72 => 31 | 37 => 27 | 164 => 43 | 5 => 5 | n => n, fun | n => n⟩
theorem lays165 : Go.Proofs.Lays.n165 Try.prog lays165_ren := {
  mixed := by kernel_rfl
  f165 := Try.func11.trans (congrArg some (by kernel_rfl))
  f240 := Try.func18.trans (congrArg some (by kernel_rfl))
  f241 := Try.func19.trans (congrArg some (by kernel_rfl))
  f276 := Try.func20.trans (congrArg some (by kernel_rfl))
  f277 := Try.func21.trans (congrArg some (by kernel_rfl))
  t0 := Try.underlying0
  a0 := Try.isAgg0
  z0 := Try.sizeOf0
  v0 := Try.zeroValue0
  t3 := Try.underlying3
  a3 := Try.isAgg3
  z3 := Try.sizeOf3
  v3 := Try.zeroValue3
  t4 := Try.underlying4
  a4 := Try.isAgg4
  z4 := Try.sizeOf4
  v4 := Try.zeroValue4
  t9 := Try.underlying9
  a9 := Try.isAgg9
  z9 := Try.sizeOf9
  v9 := Try.zeroValue9
  t20 := Try.underlying20
  a20 := Try.isAgg20
  z20 := Try.sizeOf20
  v20 := Try.zeroValue20
  t37 := Try.underlying27
  a37 := Try.isAgg27
  z37 := Try.sizeOf27
  v37 := Try.zeroValue27
  t70 := Try.underlying29
  a70 := Try.isAgg29
  z70 := Try.sizeOf29
  v70 := Try.zeroValue29
  t72 := Try.underlying31
  a72 := Try.isAgg31
  z72 := Try.sizeOf31
  v72 := Try.zeroValue31
  t164 := Try.underlying43
  a164 := Try.isAgg43
  z164 := Try.sizeOf43
  v164 := Try.zeroValue43 }
theorem Builder_Extra_165 : Builder.Extra Try.prog lays165_ren := {
  sizeBuilder := by kernel_rfl
  liesBuilder := by kernel_rfl
  t5 := Try.underlying5
  a5 := Try.isAgg5
  z5 := Try.sizeOf5
  v5 := Try.zeroValue5
  infoByte := by kernel_rfl
  cellsByte := by kernel_rfl
  sizeByte := by kernel_rfl
  neB5 := by decide }
open Go.RowKit in
theorem Builder_String_any (B b : Nat) (l : List UInt8) (w : World) (h : Lib.IsBuilder 31 5 B b (Lib.byteCells l) w) (hBw : B ≤ w.heap.size) :
    Calls Try.prog 15 #[.pointer (some ⟨b, 0, none⟩)] w fun e w' => e = .returned (.string ⟨l.toArray⟩) ∧ Below B w w' := Any.Builder_String_any lays169 Builder_Extra_169 B b l w h hBw
open Go.RowKit in
theorem Builder_Grow_fresh (B b n : Nat) (w : World) (hB : B ≤ b) (hbk : w.heap[b]? = some (.cells #[.pointer none, .slice none 0 0] 31 (0, 0))) (hBw : B ≤ w.heap.size) (hn : n ≤ 281474976710656) :
    Calls Try.prog 11 #[.pointer (some ⟨b, 0, none⟩), .int .i64 n] w fun e w' => e = .returned (.tuple #[]) ∧ (Lib.BuilderAt 31 5 B b (.pointer (some ⟨b, 0, none⟩)) [] w' ∧ Below B w w') := Any.Builder_Grow_fresh lays165 Builder_Extra_165 B b n w hB hbk hBw hn
def lays167_ren : Go.Shelf.Ren := ⟨fun | 167 => 14 | 240 => 18 | 276 => 20 | n => n, fun | 0 => 0 | 3 => 3 | 4 => 4 | 5 => 5 | 9 => 9 | 20 => 20 | 37 => 27 | 70 => 29 | 72 => 31 | 75 => 34 | 80 => 39 | 164 => 43 | n => n, fun | n => n⟩
theorem lays167 : Go.Proofs.Lays.n167 Try.prog lays167_ren := {
  mixed := by kernel_rfl
  f167 := Try.func14.trans (congrArg some (by kernel_rfl))
  f240 := Try.func18.trans (congrArg some (by kernel_rfl))
  f276 := Try.func20.trans (congrArg some (by kernel_rfl))
  t0 := Try.underlying0
  a0 := Try.isAgg0
  z0 := Try.sizeOf0
  v0 := Try.zeroValue0
  t4 := Try.underlying4
  a4 := Try.isAgg4
  z4 := Try.sizeOf4
  v4 := Try.zeroValue4
  t5 := Try.underlying5
  a5 := Try.isAgg5
  z5 := Try.sizeOf5
  v5 := Try.zeroValue5
  t9 := Try.underlying9
  a9 := Try.isAgg9
  z9 := Try.sizeOf9
  v9 := Try.zeroValue9
  t20 := Try.underlying20
  a20 := Try.isAgg20
  z20 := Try.sizeOf20
  v20 := Try.zeroValue20
  t37 := Try.underlying27
  a37 := Try.isAgg27
  z37 := Try.sizeOf27
  v37 := Try.zeroValue27
  t70 := Try.underlying29
  a70 := Try.isAgg29
  z70 := Try.sizeOf29
  v70 := Try.zeroValue29
  t72 := Try.underlying31
  a72 := Try.isAgg31
  z72 := Try.sizeOf31
  v72 := Try.zeroValue31
  t75 := Try.underlying34
  a75 := Try.isAgg34
  z75 := Try.sizeOf34
  v75 := Try.zeroValue34
  t164 := Try.underlying43
  a164 := Try.isAgg43
  z164 := Try.sizeOf43
  v164 := Try.zeroValue43 }
theorem Builder_Extra_167 : Builder.Extra Try.prog lays167_ren := {
  sizeBuilder := by kernel_rfl
  liesBuilder := by kernel_rfl
  t5 := Try.underlying5
  a5 := Try.isAgg5
  z5 := Try.sizeOf5
  v5 := Try.zeroValue5
  infoByte := by kernel_rfl
  cellsByte := by kernel_rfl
  sizeByte := by kernel_rfl
  neB5 := by decide }
def lays166_ren : Go.Shelf.Ren := ⟨fun | 166 => 12 | 240 => 18 | 276 => 20 | n => n, fun | 0 => 0 | 3 => 3 | 4 => 4 | 5 => 5 | 9 => 9 | 20 => 20 | 37 => 27 | 70 => 29 | 72 => 31 | 75 => 34 | 80 => 39 | 164 => 43 | n => n, fun | n => n⟩
theorem lays166 : Go.Proofs.Lays.n166 Try.prog lays166_ren := {
  mixed := by kernel_rfl
  f166 := Try.func12.trans (congrArg some (by kernel_rfl))
  f240 := Try.func18.trans (congrArg some (by kernel_rfl))
  f276 := Try.func20.trans (congrArg some (by kernel_rfl))
  t0 := Try.underlying0
  a0 := Try.isAgg0
  z0 := Try.sizeOf0
  v0 := Try.zeroValue0
  t3 := Try.underlying3
  a3 := Try.isAgg3
  z3 := Try.sizeOf3
  v3 := Try.zeroValue3
  t4 := Try.underlying4
  a4 := Try.isAgg4
  z4 := Try.sizeOf4
  v4 := Try.zeroValue4
  t9 := Try.underlying9
  a9 := Try.isAgg9
  z9 := Try.sizeOf9
  v9 := Try.zeroValue9
  t20 := Try.underlying20
  a20 := Try.isAgg20
  z20 := Try.sizeOf20
  v20 := Try.zeroValue20
  t37 := Try.underlying27
  a37 := Try.isAgg27
  z37 := Try.sizeOf27
  v37 := Try.zeroValue27
  t70 := Try.underlying29
  a70 := Try.isAgg29
  z70 := Try.sizeOf29
  v70 := Try.zeroValue29
  t72 := Try.underlying31
  a72 := Try.isAgg31
  z72 := Try.sizeOf31
  v72 := Try.zeroValue31
  t75 := Try.underlying34
  a75 := Try.isAgg34
  z75 := Try.sizeOf34
  v75 := Try.zeroValue34
  t164 := Try.underlying43
  a164 := Try.isAgg43
  z164 := Try.sizeOf43
  v164 := Try.zeroValue43 }
theorem Builder_Extra_166 : Builder.Extra Try.prog lays166_ren := {
  sizeBuilder := by kernel_rfl
  liesBuilder := by kernel_rfl
  t5 := Try.underlying5
  a5 := Try.isAgg5
  z5 := Try.sizeOf5
  v5 := Try.zeroValue5
  infoByte := by kernel_rfl
  cellsByte := by kernel_rfl
  sizeByte := by kernel_rfl
  neB5 := by decide }
open Go.RowKit in
theorem Builder_WriteByte (B b : Nat) (bs : List Value) (c : Int) (w : World) (h : Lib.IsBuilder 31 5 B b bs w) (hlen : bs.length + 1 ≤ 140737488355328) (hBw : B ≤ w.heap.size) :
    Calls Try.prog 14 #[.pointer (some ⟨b, 0, none⟩), .int .u8 c] w fun e w' => e = .returned .nilIface ∧ (Lib.BuilderAt 31 5 B b (.pointer (some ⟨b, 0, none⟩)) (bs ++ [.int .u8 c]) w' ∧ Below B w w') := Any.Builder_WriteByte lays167 Builder_Extra_167 B b bs c w h hlen hBw
open Go.RowKit in
theorem Builder_WriteString (B b : Nat) (bs : List Value) (s : ByteArray) (w : World) (h : Lib.IsBuilder 31 5 B b bs w) (hlen : bs.length + s.size ≤ 140737488355328) (hBw : B ≤ w.heap.size) :
    Calls Try.prog 12 #[.pointer (some ⟨b, 0, none⟩), .string s] w fun e w' => e = .returned (.tuple #[.int .i64 s.size, .nilIface]) ∧ (Lib.BuilderAt 31 5 B b (.pointer (some ⟨b, 0, none⟩)) (bs ++ Lib.strCells s) w' ∧ Below B w w') := Any.Builder_WriteString lays166 Builder_Extra_166 B b bs s w h hlen hBw
end Go.Proofs.Qxb6629145a
