/-
  The closed facts of fmt's two stopped fronts for this dump (after the kit's generated families: Derived/Test/CheckFmt.lean), and the contracts of fmt.Errorf, Path, Errorf.
  The texts are left open: for every F.
-/
import Derived.Test.Qxb6629177aFmtBuild
import Derived.Stop.CallBack
import Derived.Stop.IfaceNil
import GoSem.ClaimData
import Derived.Deep.RegionWith
namespace Go.Proofs.Qxb6629177aFmt
open Go.ChangeShapes Go.WideShapes Go.ChangeAt Go.RowKit
open Go.Extern.Stop Go.Stop Go.Extern

@[go_sem] theorem Tryf.call16 (args : Array Value) (w : World) : (callFunc 16 args).run Tryf.prog w = ((FmtStop.sprintf #[9, 47] #[9] args).run Tryf.prog w).andThen fun v w' => .ok (.value v) w' :=
  run_callFunc_extern Tryf.func16 (by kernel_rfl) (by kernel_rfl) (by kernel_rfl) (by kernel_rfl) args w
@[go_sem] theorem Tryf.call17 (args : Array Value) (w : World) : (callFunc 17 args).run Tryf.prog w = ((FmtStop.errorf #[9, 47] #[32] args).run Tryf.prog w).andThen fun v w' => .ok (.value v) w' :=
  run_callFunc_extern Tryf.func17 (by kernel_rfl) (by kernel_rfl) (by kernel_rfl) (by kernel_rfl) args w
@[go_sem] theorem Tryf.guard (name : String) (w : World) : (FmtStop.guard name).run Tryf.prog w = .ok () w := by kernel_rfl


@[go_sem] theorem Tryf.fmtA (w : World) : (FmtDoors.printed { data := #[108, 105, 110, 101, 32, 37, 100, 44, 32, 101, 108, 101, 109, 101, 110, 116, 32, 37, 115, 58, 32, 37, 115] } 3).run Tryf.prog w = .ok [(0, 100, false), (1, 115, false), (2, 115, false)] w := by kernel_rfl
@[go_sem] theorem Tryf.fmtAp : FmtStop.printed? { data := #[108, 105, 110, 101, 32, 37, 100, 44, 32, 101, 108, 101, 109, 101, 110, 116, 32, 37, 115, 58, 32, 37, 115] } 3 = some [(0, 100, false), (1, 115, false), (2, 115, false)] := by kernel_rfl
@[go_sem] theorem Tryf.fmtB (w : World) : (FmtDoors.printed { data := #[97, 32, 115, 101, 99, 111, 110, 100, 32, 101, 108, 101, 109, 101, 110, 116, 32, 111, 102, 32, 97, 32, 99, 104, 111, 105, 99, 101, 32, 111, 102, 32, 111, 110, 101, 44, 32, 97, 102, 116, 101, 114, 32, 37, 115] } 1).run Tryf.prog w = .ok [(0, 115, false)] w := by kernel_rfl
@[go_sem] theorem Tryf.fmtBp : FmtStop.printed? { data := #[97, 32, 115, 101, 99, 111, 110, 100, 32, 101, 108, 101, 109, 101, 110, 116, 32, 111, 102, 32, 97, 32, 99, 104, 111, 105, 99, 101, 32, 111, 102, 32, 111, 110, 101, 44, 32, 97, 102, 116, 101, 114, 32, 37, 115] } 1 = some [(0, 115, false)] := by kernel_rfl
@[go_sem] theorem Tryf.fmtC (w : World) : (FmtDoors.printed { data := #[101, 109, 112, 116, 121, 44, 32, 119, 104, 101, 114, 101, 32, 105, 116, 32, 104, 111, 108, 100, 115, 32, 111, 110, 101, 32, 101, 108, 101, 109, 101, 110, 116] } 0).run Tryf.prog w = .ok [] w := by kernel_rfl
@[go_sem] theorem Tryf.fmtCp : FmtStop.printed? { data := #[101, 109, 112, 116, 121, 44, 32, 119, 104, 101, 114, 101, 32, 105, 116, 32, 104, 111, 108, 100, 115, 32, 111, 110, 101, 32, 101, 108, 101, 109, 101, 110, 116] } 0 = some [] := by kernel_rfl

def Tryf.shape9 : List UInt8 := [12, 6, 0, 0, 0, 0, 0, 0, 0, 115, 116, 114, 105, 110, 103]
@[go_sem] theorem Tryf.op9_115 (name : String) (x : ByteArray) (w : World) : (FmtStop.operand name false 115 false (.iface 9 (.string x))).run Tryf.prog w = .ok (Tryf.shape9, FmtStop.pack x.data.toList) w := by kernel_rfl
@[go_sem] theorem Tryf.op9_115w (name : String) (x : ByteArray) (w : World) : (FmtStop.operand name true 115 false (.iface 9 (.string x))).run Tryf.prog w = .ok (Tryf.shape9, FmtStop.pack x.data.toList) w := by kernel_rfl
def Tryf.shape3 : List UInt8 := [5, 3, 0, 0, 0, 0, 0, 0, 0, 105, 110, 116]
@[go_sem] theorem Tryf.op3_100w (name : String) (x : Int) (w : World) : (FmtStop.operand name true 100 false (.iface 3 (.int .i64 x))).run Tryf.prog w = .ok (Tryf.shape3, Go.Extern.Stop.digits 8 (x % 2 ^ 64).toNat) w := by kernel_rfl
@[go_sem] theorem Tryf.ptr52 (w : World) : (FmtStop.ptrTo "errors.errorString").run Tryf.prog w = .ok 52 w := by kernel_rfl
@[go_sem] theorem Tryf.elem52 (w : World) : (elemOf 52).run Tryf.prog w = .ok 54 w := by kernel_rfl
@[go_sem] theorem Tryf.isError52 (w : World) : (FmtDoors.textMethod 52 "Error").run Tryf.prog w = .ok true w := by kernel_rfl

set_option maxHeartbeats 400000 in
/-- fmt.Errorf("line %d, element %s: %s", ..): an error that is not nil, in new memory -/
theorem fmtErrorf_any (F : Interp) (line : Int) (p q : ByteArray) (blk : Nat) (w : World) (hF : F.answers w.tape)
    (hc0 : w.cell? ⟨blk, 0, none⟩ = some (.iface 3 (.int .i64 line))) (hc1 : w.cell? ⟨blk, 1, none⟩ = some (.iface 9 (.string p))) (hc2 : w.cell? ⟨blk, 2, none⟩ = some (.iface 9 (.string q)))
    (Q : Ending → World → Prop) (hQ : Hid (∀ (a : Addr) (w' : World), Below w.heap.size w w' → Q (.returned (.iface 52 (.pointer (some a)))) w')) :
    Calls Tryf.prog 14 #[.string { data := #[108, 105, 110, 101, 32, 37, 100, 44, 32, 101, 108, 101, 109, 101, 110, 116, 32, 37, 115, 58, 32, 37, 115] }, .slice (some ⟨blk, 0, none⟩) 3 3] w Q := by
  have hF' := answers_open hF
  go_enter Tryf.func14, Tryf.ntmps14
  go_wp2
  exact hQ.out _ _ ((Below.refl _ _).alloc (Nat.le_refl _) _).drew

theorem path_root (B : Nat) (lo : ByteArray) (w : World) (r1 : w.cell? ⟨B, 1, none⟩ = some (.string lo)) (r6 : w.cell? ⟨B, 6, none⟩ = some (.pointer none)) (Q : Ending → World → Prop) (hQ : Hid (Q (.returned (.string lo)) w)) :
    Calls Tryf.prog 15 #[.pointer (some ⟨B, 0, none⟩)] w Q := by
  go_enter Tryf.func15, Tryf.ntmps15
  go_wp2
  exact hQ.out

theorem path_kid (B e : Nat) (lo l : ByteArray) (w : World) (r1 : w.cell? ⟨B, 1, none⟩ = some (.string lo)) (r6 : w.cell? ⟨B, 6, none⟩ = some (.pointer none)) (k1 : w.cell? ⟨e, 1, none⟩ = some (.string l)) (k6 : w.cell? ⟨e, 6, none⟩ = some (.pointer (some ⟨B, 0, none⟩))) (hlo : lo.size ≤ 1048576) (hl : l.size ≤ 1048576)
    (Q : Ending → World → Prop) (hQ : Hid (∀ s : ByteArray, Q (.returned (.string s)) w.drew)) :
    Calls Tryf.prog 15 #[.pointer (some ⟨e, 0, none⟩)] w Q := by
  have n1 : ¬ 9223372036854775807 < lo.size + 1 := by omega
  have n2 : ¬ 9223372036854775807 < lo.size + 1 + l.size := by omega
  go_enter Tryf.func15, Tryf.ntmps15
  go_wp2_with fail
  go_region_held3 (fun w' => w'.cell? ⟨e, 1, none⟩ = some (.string l) ∧ w'.cell? ⟨e, 6, none⟩ = some (.pointer (some ⟨B, 0, none⟩))) (go_keep) ((go_at_call 15; refine path_root B lo _ (by exact r1) (by exact r6) _ (Hid.intro ?_)))
  go_wp2_with fail
  exact hQ.out _

theorem below_of {w wa w' : World} (h : Below w.heap.size w wa) (hb : Below wa.heap.size wa w') : Below w.heap.size w w' := h.trans (hb.mono h.size)
theorem new0 (w : World) (a b c : Value) (t : TypeId) : (w.alloc (.cells #[a, b, c] t)).cell? ⟨w.heap.size, 0, none⟩ = some a := by rw [World.cell?_alloc_new]; rfl
theorem new1 (w : World) (a b c : Value) (t : TypeId) : (w.alloc (.cells #[a, b, c] t)).cell? ⟨w.heap.size, 1, none⟩ = some b := by rw [World.cell?_alloc_new]; rfl
theorem new2 (w : World) (a b c : Value) (t : TypeId) : (w.alloc (.cells #[a, b, c] t)).cell? ⟨w.heap.size, 2, none⟩ = some c := by rw [World.cell?_alloc_new]; rfl

set_option maxHeartbeats 400000 in
theorem errKid_any (F : Interp) (B e blk : Nat) (lo l x : ByteArray) (line : Int) (w : World) (hF : F.answers w.tape) (r1 : w.cell? ⟨B, 1, none⟩ = some (.string lo)) (r6 : w.cell? ⟨B, 6, none⟩ = some (.pointer none)) (k1 : w.cell? ⟨e, 1, none⟩ = some (.string l)) (k2 : w.cell? ⟨e, 2, none⟩ = some (.int .i64 line)) (k6 : w.cell? ⟨e, 6, none⟩ = some (.pointer (some ⟨B, 0, none⟩))) (hlo : lo.size ≤ 1048576) (hl : l.size ≤ 1048576)
    (hx : w.cell? ⟨blk, 0, none⟩ = some (.iface 9 (.string x)))
    (Q : Ending → World → Prop) (hQ : Hid (∀ (a : Addr) (w' : World), Below w.heap.size w w' → Q (.returned (.iface 52 (.pointer (some a)))) w')) :
    Calls Tryf.prog 13 #[.pointer (some ⟨e, 0, none⟩), .string { data := #[97, 32, 115, 101, 99, 111, 110, 100, 32, 101, 108, 101, 109, 101, 110, 116, 32, 111, 102, 32, 97, 32, 99, 104, 111, 105, 99, 101, 32, 111, 102, 32, 111, 110, 101, 44, 32, 97, 102, 116, 101, 114, 32, 37, 115] }, .slice (some ⟨blk, 0, none⟩) 1 1] w Q := by
  have hF' := answers_open hF
  go_enter Tryf.func13, Tryf.ntmps13
  go_wp2_with fail
  go_region_held3 (fun w' => w'.cell? ⟨e, 2, none⟩ = some (.int .i64 line)) (first | go_keep | exact keep_cell (below_of (((Below.refl _ _).alloc (Nat.le_refl _) _).drew.drew.drew) bE) k2 | exact keep_cell bE2 k2) (first | (go_at_call 15; refine path_kid B e lo l _ (by exact r1) (by exact r6) (by exact k1) (by exact k6) hlo hl _ (Hid.intro ?_); intro sP) | (go_at_call 14; refine fmtErrorf_any F _ _ _ w.heap.size _ (by exact hF) (by exact new0 w _ _ _ _) (by exact new1 w _ _ _ _) (by exact new2 w _ _ _ _) _ (Hid.intro ?_); intro aE wE bE; have bE2 : Below w.heap.size w wE := below_of (((Below.refl _ _).alloc (Nat.le_refl _) _).drew.drew.drew) bE; clear bE))
  all_goals (go_wp2_with fail; exact hQ.out _ _ bE2)

set_option maxHeartbeats 400000 in
theorem errRoot_any (F : Interp) (B : Nat) (lo : ByteArray) (line : Int) (w : World) (hF : F.answers w.tape) (r1 : w.cell? ⟨B, 1, none⟩ = some (.string lo)) (r2 : w.cell? ⟨B, 2, none⟩ = some (.int .i64 line)) (r6 : w.cell? ⟨B, 6, none⟩ = some (.pointer none))
    (Q : Ending → World → Prop) (hQ : Hid (∀ (a : Addr) (w' : World), Below w.heap.size w w' → Q (.returned (.iface 52 (.pointer (some a)))) w')) :
    Calls Tryf.prog 13 #[.pointer (some ⟨B, 0, none⟩), .string { data := #[101, 109, 112, 116, 121, 44, 32, 119, 104, 101, 114, 101, 32, 105, 116, 32, 104, 111, 108, 100, 115, 32, 111, 110, 101, 32, 101, 108, 101, 109, 101, 110, 116] }, .slice none 0 0] w Q := by
  have hF' := answers_open hF
  go_enter Tryf.func13, Tryf.ntmps13
  go_wp2_with fail
  go_region_held3 (fun w' => w'.cell? ⟨B, 2, none⟩ = some (.int .i64 line)) (first | go_keep | exact keep_cell bE2 r2) (first | (go_at_call 15; refine path_root B lo _ (by exact r1) (by exact r6) _ (Hid.intro ?_)) | (go_at_call 14; refine fmtErrorf_any F _ _ _ w.heap.size _ (by exact hF) (by exact new0 w _ _ _ _) (by exact new1 w _ _ _ _) (by exact new2 w _ _ _ _) _ (Hid.intro ?_); intro aE wE bE; have bE2 : Below w.heap.size w wE := below_of (((Below.refl _ _).alloc (Nat.le_refl _) _).drew.drew) bE; clear bE))
  all_goals (go_wp2_with fail; exact hQ.out _ _ bE2)
end Go.Proofs.Qxb6629177aFmt
