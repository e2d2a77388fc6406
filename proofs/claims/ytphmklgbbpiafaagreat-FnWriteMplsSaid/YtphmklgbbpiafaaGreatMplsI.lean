/-
  FnWriteMpls: whatever the layer and the flag, the law returns true, and its arguments read as they did. No condition.
-/
import Derived.JoinedOf
import Derived.ProofKit
import Derived.Test.YtphmklgbbpiafaaGreatFactA
import Derived.Test.YtphmklgbbpiafaaGreatMplsH
namespace Go.Proofs.YtphmklgbbpiafaaGreat
open Go
set_option linter.unusedSimpArgs false

theorem fact1_mpls : (Rows.fnWriteMplsRow.inPlace == Tryz.prog.inPlace 14) = true := by kernel_rfl
theorem fact2_mpls : (Rows.fnWriteMplsRow.unfollowed == Tryz.prog.unfollowed 14) = true := by kernel_rfl
theorem fact3_mpls : (Rows.fnWriteMplsRow.recurses == Tryz.prog.recurses 14) = true := by kernel_rfl
theorem fact4_mpls : (Rows.fnWriteMplsRow.named == Tryz.prog.varsNamed 14) = true := by kernel_rfl
theorem fact5_mpls : namedTie Tryz.prog Rows.fnWriteMplsRow.named Rows.fnWriteMplsSpec.vars = true := by kernel_rfl
theorem fact6_mpls : (Rows.fnWriteMplsRow.plainKeys == Tryz.prog.plainKeys) = true := gfact4
theorem fact7_mpls : (Rows.fnWriteMplsRow.lifted == Tryz.prog.liftsFinal) = true := gfact7
theorem fact8_mpls : (Tryz.prog.make == some Rows.fnWriteMplsRow.make) = true := gfact8
theorem closed_mpls : joinedFacts Tryz.prog 14 Tryz.f14 Rows.fnWriteMplsSpec Rows.fnWriteMplsRow = true := by
  unfold joinedFacts
  rw [fact1_mpls, fact2_mpls, fact3_mpls, fact4_mpls, fact5_mpls, fact6_mpls, fact7_mpls, fact8_mpls, gfact1, gfact2, gfact3, gfact5, gfact6, gfact9]
  simp only [Bool.and_true, Bool.true_and]
  kernel_rfl
/-- FnWriteMpls returns true at every layer and flag. -/
theorem proved_mpls : Rows.FnWriteMplsSaid :=
  OpenClaim.holds_of_wide 14 Tryz.f14 rfl rfl rfl rfl rfl rfl rfl ⟨rfl, rfl, rfl, rfl, rfl⟩ rfl rfl rfl rfl rfl (by kernel_rfl) Tryz.func14 closed_mpls
    (of_decide_eq_true (by kernel_rfl)) (by unfold Func.isWrapper; first | (rw [if_pos (by decide +kernel)]; kernel_rfl) | (rw [if_neg (by decide +kernel)]; exact ⟨rfl, rfl⟩))
    (fun os started H enc _ => lifted_mpls os started H enc)
#print axioms proved_mpls
end Go.Proofs.YtphmklgbbpiafaaGreat
