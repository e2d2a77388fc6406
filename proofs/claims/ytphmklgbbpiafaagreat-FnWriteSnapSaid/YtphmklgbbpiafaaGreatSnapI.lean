/-
  FnWriteSnap: whatever the layer and the flag, the law returns true, and its arguments read as they did. No condition.
-/
import Derived.JoinedOf
import Derived.ProofKit
import Derived.Test.YtphmklgbbpiafaaGreatFactA
import Derived.Test.YtphmklgbbpiafaaGreatSnapH
namespace Go.Proofs.YtphmklgbbpiafaaGreat
open Go
set_option linter.unusedSimpArgs false

theorem fact1_snap : (Rows.fnWriteSnapRow.inPlace == Tryz.prog.inPlace 5) = true := by kernel_rfl
theorem fact2_snap : (Rows.fnWriteSnapRow.unfollowed == Tryz.prog.unfollowed 5) = true := by kernel_rfl
theorem fact3_snap : (Rows.fnWriteSnapRow.recurses == Tryz.prog.recurses 5) = true := by kernel_rfl
theorem fact4_snap : (Rows.fnWriteSnapRow.named == Tryz.prog.varsNamed 5) = true := by kernel_rfl
theorem fact5_snap : namedTie Tryz.prog Rows.fnWriteSnapRow.named Rows.fnWriteSnapSpec.vars = true := by kernel_rfl
theorem fact6_snap : (Rows.fnWriteSnapRow.plainKeys == Tryz.prog.plainKeys) = true := gfact4
theorem fact7_snap : (Rows.fnWriteSnapRow.lifted == Tryz.prog.liftsFinal) = true := gfact7
theorem fact8_snap : (Tryz.prog.make == some Rows.fnWriteSnapRow.make) = true := gfact8
theorem closed_snap : joinedFacts Tryz.prog 5 Tryz.f5 Rows.fnWriteSnapSpec Rows.fnWriteSnapRow = true := by
  unfold joinedFacts
  rw [fact1_snap, fact2_snap, fact3_snap, fact4_snap, fact5_snap, fact6_snap, fact7_snap, fact8_snap, gfact1, gfact2, gfact3, gfact5, gfact6, gfact9]
  simp only [Bool.and_true, Bool.true_and]
  kernel_rfl
/-- FnWriteSnap returns true at every layer and flag. -/
theorem proved_snap : Rows.FnWriteSnapSaid :=
  OpenClaim.holds_of_wide 5 Tryz.f5 rfl rfl rfl rfl rfl rfl rfl ⟨rfl, rfl, rfl, rfl, rfl⟩ rfl rfl rfl rfl rfl (by kernel_rfl) Tryz.func5 closed_snap
    (of_decide_eq_true (by kernel_rfl)) (by unfold Func.isWrapper; first | (rw [if_pos (by decide +kernel)]; kernel_rfl) | (rw [if_neg (by decide +kernel)]; exact ⟨rfl, rfl⟩))
    (fun os started H enc _ => lifted_snap os started H enc)
#print axioms proved_snap
end Go.Proofs.YtphmklgbbpiafaaGreat
