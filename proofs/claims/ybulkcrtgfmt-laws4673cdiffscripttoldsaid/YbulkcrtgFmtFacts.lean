/-
  THE PROGRAM's CLOSED FACTS, for the rows of this seat.
-/
import Derived.Test.YbulkcrtgFmtCards
import Derived.ProofKit
import Derived.SevenToldRow
import Derived.SizedLaws
import Derived.OpenShut
import Derived.ShutString
import Derived.Carry
import Derived.Stop.JoinedTold
namespace Go.Proofs.YbulkcrtgFmt
open Go.Extern.Stop Go.Stop Go.Extern
theorem Ybaf.own : ownKnob Ybaf.prog.godebug = none := by kernel_rfl
theorem Ybaf.laidOut : laidOutB Ybaf.pinned.checked.prog = true := by kernel_rfl
theorem Ybaf.stops : Ybaf.pinned.checked.prog.stops = ["fmt.errorf"] := by kernel_rfl
theorem Ybaf.stopKnobs : Ybaf.pinned.checked.prog.stopKnobs = [] := by kernel_rfl
theorem Ybaf.quiet (os : Os) : Stop.quiet Ybaf.pinned.checked.prog os := by
  intro k hk
  rw [Ybaf.stopKnobs] at hk
  cases hk
theorem Ybaf.cells5 : Ybaf.prog.cellsOf 5 = 1 := by kernel_rfl
theorem Ybaf.bytes5 : Ybaf.checked.prog.bytesOf 5 = 1 := by kernel_rfl
end Go.Proofs.YbulkcrtgFmt
