/-
  FnWriteBfd: whatever the layer and the flag, the law returns true, and its arguments read as they did. No condition.
-/
import Derived.JoinedOf
import Derived.ProofKit
import Derived.Test.YtphmklgbbpiafaaGreatFactA
import Derived.Test.YtphmklgbbpiafaaGreatBfdH
namespace Go.Proofs.YtphmklgbbpiafaaGreat
open Go
set_option linter.unusedSimpArgs false

theorem fact1_bfd : (Rows.fnWriteBfdRow.inPlace == Tryz.prog.inPlace 6) = true := by kernel_rfl
theorem fact2_bfd : (Rows.fnWriteBfdRow.unfollowed == Tryz.prog.unfollowed 6) = true := by kernel_rfl
theorem fact3_bfd : (Rows.fnWriteBfdRow.recurses == Tryz.prog.recurses 6) = true := by kernel_rfl
theorem fact4_bfd : (Rows.fnWriteBfdRow.named == Tryz.prog.varsNamed 6) = true := by kernel_rfl
theorem fact5_bfd : namedTie Tryz.prog Rows.fnWriteBfdRow.named Rows.fnWriteBfdSpec.vars = true := by kernel_rfl
theorem fact6_bfd : (Rows.fnWriteBfdRow.plainKeys == Tryz.prog.plainKeys) = true := gfact4
theorem fact7_bfd : (Rows.fnWriteBfdRow.lifted == Tryz.prog.liftsFinal) = true := gfact7
theorem fact8_bfd : (Tryz.prog.make == some Rows.fnWriteBfdRow.make) = true := gfact8
theorem closed_bfd : joinedFacts Tryz.prog 6 Tryz.f6 Rows.fnWriteBfdSpec Rows.fnWriteBfdRow = true := by
  unfold joinedFacts
  rw [fact1_bfd, fact2_bfd, fact3_bfd, fact4_bfd, fact5_bfd, fact6_bfd, fact7_bfd, fact8_bfd, gfact1, gfact2, gfact3, gfact5, gfact6, gfact9]
  simp only [Bool.and_true, Bool.true_and]
  kernel_rfl
/-- FnWriteBfd returns true at every layer and flag. -/
theorem proved_bfd : Rows.FnWriteBfdSaid :=
  OpenClaim.holds_of_wide 6 Tryz.f6 rfl rfl rfl rfl rfl rfl rfl ⟨rfl, rfl, rfl, rfl, rfl⟩ rfl rfl rfl rfl rfl (by kernel_rfl) Tryz.func6 closed_bfd
    (of_decide_eq_true (by kernel_rfl)) (by unfold Func.isWrapper; first | (rw [if_pos (by decide +kernel)]; kernel_rfl) | (rw [if_neg (by decide +kernel)]; exact ⟨rfl, rfl⟩))
    (fun os started H enc _ => lifted_bfd os started H enc)
#print axioms proved_bfd
end Go.Proofs.YtphmklgbbpiafaaGreat
