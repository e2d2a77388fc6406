/-
  FnWriteGtp: whatever the layer and the flag, the law returns true, and its arguments read as they did. No condition.
-/
import Derived.JoinedOf
import Derived.ProofKit
import Derived.Test.YtphmklgbbpiafaaGreatFactA
import Derived.Test.YtphmklgbbpiafaaGreatGtpH
namespace Go.Proofs.YtphmklgbbpiafaaGreat
open Go
set_option linter.unusedSimpArgs false

theorem fact1_gtp : (Rows.fnWriteGtpRow.inPlace == Tryz.prog.inPlace 10) = true := by kernel_rfl
theorem fact2_gtp : (Rows.fnWriteGtpRow.unfollowed == Tryz.prog.unfollowed 10) = true := by kernel_rfl
theorem fact3_gtp : (Rows.fnWriteGtpRow.recurses == Tryz.prog.recurses 10) = true := by kernel_rfl
theorem fact4_gtp : (Rows.fnWriteGtpRow.named == Tryz.prog.varsNamed 10) = true := by kernel_rfl
theorem fact5_gtp : namedTie Tryz.prog Rows.fnWriteGtpRow.named Rows.fnWriteGtpSpec.vars = true := by kernel_rfl
theorem fact6_gtp : (Rows.fnWriteGtpRow.plainKeys == Tryz.prog.plainKeys) = true := gfact4
theorem fact7_gtp : (Rows.fnWriteGtpRow.lifted == Tryz.prog.liftsFinal) = true := gfact7
theorem fact8_gtp : (Tryz.prog.make == some Rows.fnWriteGtpRow.make) = true := gfact8
theorem closed_gtp : joinedFacts Tryz.prog 10 Tryz.f10 Rows.fnWriteGtpSpec Rows.fnWriteGtpRow = true := by
  unfold joinedFacts
  rw [fact1_gtp, fact2_gtp, fact3_gtp, fact4_gtp, fact5_gtp, fact6_gtp, fact7_gtp, fact8_gtp, gfact1, gfact2, gfact3, gfact5, gfact6, gfact9]
  simp only [Bool.and_true, Bool.true_and]
  kernel_rfl
/-- FnWriteGtp returns true at every layer and flag. -/
theorem proved_gtp : Rows.FnWriteGtpSaid :=
  OpenClaim.holds_of_wide 10 Tryz.f10 rfl rfl rfl rfl rfl rfl rfl ⟨rfl, rfl, rfl, rfl, rfl⟩ rfl rfl rfl rfl rfl (by kernel_rfl) Tryz.func10 closed_gtp
    (of_decide_eq_true (by kernel_rfl)) (by unfold Func.isWrapper; first | (rw [if_pos (by decide +kernel)]; kernel_rfl) | (rw [if_neg (by decide +kernel)]; exact ⟨rfl, rfl⟩))
    (fun os started H enc _ => lifted_gtp os started H enc)
#print axioms proved_gtp
end Go.Proofs.YtphmklgbbpiafaaGreat
