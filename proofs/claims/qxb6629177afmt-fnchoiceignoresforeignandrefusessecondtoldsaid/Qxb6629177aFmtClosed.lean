/-
  Closed facts of the loaded program that both cards ask.
-/
import Derived.Test.Qxb6629177aFmtOpen
import Derived.Stop.JoinedAt
import Derived.Stop.JoinedTold
import Derived.SevenToldRow
namespace Go.Proofs.Qxb6629177aFmt
open Go.Extern.Stop Go.Stop Go.Extern

theorem Tryf.own : ownKnob Tryf.prog.godebug = none := by kernel_rfl
theorem Tryf.laidOut : laidOutB Tryf.pinned.checked.prog = true := by kernel_rfl
theorem Tryf.stops : Tryf.pinned.checked.prog.stops = ["fmt.Sprintf", "fmt.errorf"] := by kernel_rfl
theorem Tryf.stopKnobs : Tryf.pinned.checked.prog.stopKnobs = [] := by kernel_rfl
theorem Tryf.quiet (os : Os) : Stop.quiet Tryf.pinned.checked.prog os := by
  intro k hk
  rw [Tryf.stopKnobs] at hk
  cases hk

end Go.Proofs.Qxb6629177aFmt
