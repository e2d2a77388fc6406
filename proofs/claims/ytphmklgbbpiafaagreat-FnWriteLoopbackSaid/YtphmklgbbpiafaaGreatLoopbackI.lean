/-
  FnWriteLoopback: whatever the layer and the flag, the law returns true, and its arguments read as they did. No condition.
-/
import Derived.JoinedOf
import Derived.ProofKit
import Derived.Test.YtphmklgbbpiafaaGreatFactA
import Derived.Test.YtphmklgbbpiafaaGreatLoopbackH
namespace Go.Proofs.YtphmklgbbpiafaaGreat
open Go
set_option linter.unusedSimpArgs false

theorem fact1_loopback : (Rows.fnWriteLoopbackRow.inPlace == Tryz.prog.inPlace 13) = true := by kernel_rfl
theorem fact2_loopback : (Rows.fnWriteLoopbackRow.unfollowed == Tryz.prog.unfollowed 13) = true := by kernel_rfl
theorem fact3_loopback : (Rows.fnWriteLoopbackRow.recurses == Tryz.prog.recurses 13) = true := by kernel_rfl
theorem fact4_loopback : (Rows.fnWriteLoopbackRow.named == Tryz.prog.varsNamed 13) = true := by kernel_rfl
theorem fact5_loopback : namedTie Tryz.prog Rows.fnWriteLoopbackRow.named Rows.fnWriteLoopbackSpec.vars = true := by kernel_rfl
theorem fact6_loopback : (Rows.fnWriteLoopbackRow.plainKeys == Tryz.prog.plainKeys) = true := gfact4
theorem fact7_loopback : (Rows.fnWriteLoopbackRow.lifted == Tryz.prog.liftsFinal) = true := gfact7
theorem fact8_loopback : (Tryz.prog.make == some Rows.fnWriteLoopbackRow.make) = true := gfact8
theorem closed_loopback : joinedFacts Tryz.prog 13 Tryz.f13 Rows.fnWriteLoopbackSpec Rows.fnWriteLoopbackRow = true := by
  unfold joinedFacts
  rw [fact1_loopback, fact2_loopback, fact3_loopback, fact4_loopback, fact5_loopback, fact6_loopback, fact7_loopback, fact8_loopback, gfact1, gfact2, gfact3, gfact5, gfact6, gfact9]
  simp only [Bool.and_true, Bool.true_and]
  kernel_rfl
/-- FnWriteLoopback returns true at every layer and flag. -/
theorem proved_loopback : Rows.FnWriteLoopbackSaid :=
  OpenClaim.holds_of_wide 13 Tryz.f13 rfl rfl rfl rfl rfl rfl rfl ⟨rfl, rfl, rfl, rfl, rfl⟩ rfl rfl rfl rfl rfl (by kernel_rfl) Tryz.func13 closed_loopback
    (of_decide_eq_true (by kernel_rfl)) (by unfold Func.isWrapper; first | (rw [if_pos (by decide +kernel)]; kernel_rfl) | (rw [if_neg (by decide +kernel)]; exact ⟨rfl, rfl⟩))
    (fun os started H enc _ => lifted_loopback os started H enc)
#print axioms proved_loopback
end Go.Proofs.YtphmklgbbpiafaaGreat
