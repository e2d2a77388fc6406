/-
  The closed facts that every row of this seat states of the program. No condition.
-/
import Derived.Test.YtphmklgbbpiafaaGreatRows
import Derived.JoinedOf
import Derived.KernelRfl
namespace Go.Proofs.YtphmklgbbpiafaaGreat
open Go
theorem gfact1 : mapsRowed Tryz.prog = true := by kernel_rfl
theorem gfact2 : (Tryz.prog.stops == []) = true := by kernel_rfl
theorem gfact3 : (Tryz.prog.stopKnobs == []) = true := by kernel_rfl
theorem gfact4 : (Rows.fnWriteMplsRow.plainKeys == Tryz.prog.plainKeys) = true := by kernel_rfl
theorem gfact5 : Tryz.prog.stopsHeard = true := by kernel_rfl
theorem gfact6 : Tryz.prog.mayEnter = true := by kernel_rfl
theorem gfact7 : (Rows.fnWriteMplsRow.lifted == Tryz.prog.liftsFinal) = true := by kernel_rfl
theorem gfact8 : (Tryz.prog.make == some Rows.fnWriteMplsRow.make) = true := by kernel_rfl
theorem gfact9 : laidOutB Tryz.prog = true := by kernel_rfl
end Go.Proofs.YtphmklgbbpiafaaGreat
