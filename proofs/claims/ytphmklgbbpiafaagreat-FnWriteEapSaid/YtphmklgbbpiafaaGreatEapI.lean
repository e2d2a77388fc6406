/-
  FnWriteEap: whatever the layer and the flag, the law returns true, and its arguments read as they did. No condition.
-/
import Derived.JoinedOf
import Derived.ProofKit
import Derived.Test.YtphmklgbbpiafaaGreatFactA
import Derived.Test.YtphmklgbbpiafaaGreatEapH
namespace Go.Proofs.YtphmklgbbpiafaaGreat
open Go
set_option linter.unusedSimpArgs false

theorem fact1_eap : (Rows.fnWriteEapRow.inPlace == Tryz.prog.inPlace 7) = true := by kernel_rfl
theorem fact2_eap : (Rows.fnWriteEapRow.unfollowed == Tryz.prog.unfollowed 7) = true := by kernel_rfl
theorem fact3_eap : (Rows.fnWriteEapRow.recurses == Tryz.prog.recurses 7) = true := by kernel_rfl
theorem fact4_eap : (Rows.fnWriteEapRow.named == Tryz.prog.varsNamed 7) = true := by kernel_rfl
theorem fact5_eap : namedTie Tryz.prog Rows.fnWriteEapRow.named Rows.fnWriteEapSpec.vars = true := by kernel_rfl
theorem fact6_eap : (Rows.fnWriteEapRow.plainKeys == Tryz.prog.plainKeys) = true := gfact4
theorem fact7_eap : (Rows.fnWriteEapRow.lifted == Tryz.prog.liftsFinal) = true := gfact7
theorem fact8_eap : (Tryz.prog.make == some Rows.fnWriteEapRow.make) = true := gfact8
theorem closed_eap : joinedFacts Tryz.prog 7 Tryz.f7 Rows.fnWriteEapSpec Rows.fnWriteEapRow = true := by
  unfold joinedFacts
  rw [fact1_eap, fact2_eap, fact3_eap, fact4_eap, fact5_eap, fact6_eap, fact7_eap, fact8_eap, gfact1, gfact2, gfact3, gfact5, gfact6, gfact9]
  simp only [Bool.and_true, Bool.true_and]
  kernel_rfl
/-- FnWriteEap returns true at every layer and flag. -/
theorem proved_eap : Rows.FnWriteEapSaid :=
  OpenClaim.holds_of_wide 7 Tryz.f7 rfl rfl rfl rfl rfl rfl rfl ⟨rfl, rfl, rfl, rfl, rfl⟩ rfl rfl rfl rfl rfl (by kernel_rfl) Tryz.func7 closed_eap
    (of_decide_eq_true (by kernel_rfl)) (by unfold Func.isWrapper; first | (rw [if_pos (by decide +kernel)]; kernel_rfl) | (rw [if_neg (by decide +kernel)]; exact ⟨rfl, rfl⟩))
    (fun os started H enc _ => lifted_eap os started H enc)
#print axioms proved_eap
end Go.Proofs.YtphmklgbbpiafaaGreat
