/-
  FnWriteNtp: whatever the layer and the flag, the law returns true, and its arguments read as they did. No condition.
-/
import Derived.JoinedOf
import Derived.ProofKit
import Derived.Test.YtphmklgbbpiafaaGreatFactA
import Derived.Test.YtphmklgbbpiafaaGreatNtpH
namespace Go.Proofs.YtphmklgbbpiafaaGreat
open Go
set_option linter.unusedSimpArgs false

theorem fact1_ntp : (Rows.fnWriteNtpRow.inPlace == Tryz.prog.inPlace 15) = true := by kernel_rfl
theorem fact2_ntp : (Rows.fnWriteNtpRow.unfollowed == Tryz.prog.unfollowed 15) = true := by kernel_rfl
theorem fact3_ntp : (Rows.fnWriteNtpRow.recurses == Tryz.prog.recurses 15) = true := by kernel_rfl
theorem fact4_ntp : (Rows.fnWriteNtpRow.named == Tryz.prog.varsNamed 15) = true := by kernel_rfl
theorem fact5_ntp : namedTie Tryz.prog Rows.fnWriteNtpRow.named Rows.fnWriteNtpSpec.vars = true := by kernel_rfl
theorem fact6_ntp : (Rows.fnWriteNtpRow.plainKeys == Tryz.prog.plainKeys) = true := gfact4
theorem fact7_ntp : (Rows.fnWriteNtpRow.lifted == Tryz.prog.liftsFinal) = true := gfact7
theorem fact8_ntp : (Tryz.prog.make == some Rows.fnWriteNtpRow.make) = true := gfact8
theorem closed_ntp : joinedFacts Tryz.prog 15 Tryz.f15 Rows.fnWriteNtpSpec Rows.fnWriteNtpRow = true := by
  unfold joinedFacts
  rw [fact1_ntp, fact2_ntp, fact3_ntp, fact4_ntp, fact5_ntp, fact6_ntp, fact7_ntp, fact8_ntp, gfact1, gfact2, gfact3, gfact5, gfact6, gfact9]
  simp only [Bool.and_true, Bool.true_and]
  kernel_rfl
/-- FnWriteNtp returns true at every layer and flag. -/
theorem proved_ntp : Rows.FnWriteNtpSaid :=
  OpenClaim.holds_of_wide 15 Tryz.f15 rfl rfl rfl rfl rfl rfl rfl ⟨rfl, rfl, rfl, rfl, rfl⟩ rfl rfl rfl rfl rfl (by kernel_rfl) Tryz.func15 closed_ntp
    (of_decide_eq_true (by kernel_rfl)) (by unfold Func.isWrapper; first | (rw [if_pos (by decide +kernel)]; kernel_rfl) | (rw [if_neg (by decide +kernel)]; exact ⟨rfl, rfl⟩))
    (fun os started H enc _ => lifted_ntp os started H enc)
#print axioms proved_ntp
end Go.Proofs.YtphmklgbbpiafaaGreat
