/-
  FnWriteEapol: whatever the layer and the flag, the law returns true, and its arguments read as they did. No condition.
-/
import Derived.JoinedOf
import Derived.ProofKit
import Derived.Test.YtphmklgbbpiafaaGreatFactA
import Derived.Test.YtphmklgbbpiafaaGreatEapolH
namespace Go.Proofs.YtphmklgbbpiafaaGreat
open Go
set_option linter.unusedSimpArgs false

theorem fact1_eapol : (Rows.fnWriteEapolRow.inPlace == Tryz.prog.inPlace 8) = true := by kernel_rfl
theorem fact2_eapol : (Rows.fnWriteEapolRow.unfollowed == Tryz.prog.unfollowed 8) = true := by kernel_rfl
theorem fact3_eapol : (Rows.fnWriteEapolRow.recurses == Tryz.prog.recurses 8) = true := by kernel_rfl
theorem fact4_eapol : (Rows.fnWriteEapolRow.named == Tryz.prog.varsNamed 8) = true := by kernel_rfl
theorem fact5_eapol : namedTie Tryz.prog Rows.fnWriteEapolRow.named Rows.fnWriteEapolSpec.vars = true := by kernel_rfl
theorem fact6_eapol : (Rows.fnWriteEapolRow.plainKeys == Tryz.prog.plainKeys) = true := gfact4
theorem fact7_eapol : (Rows.fnWriteEapolRow.lifted == Tryz.prog.liftsFinal) = true := gfact7
theorem fact8_eapol : (Tryz.prog.make == some Rows.fnWriteEapolRow.make) = true := gfact8
theorem closed_eapol : joinedFacts Tryz.prog 8 Tryz.f8 Rows.fnWriteEapolSpec Rows.fnWriteEapolRow = true := by
  unfold joinedFacts
  rw [fact1_eapol, fact2_eapol, fact3_eapol, fact4_eapol, fact5_eapol, fact6_eapol, fact7_eapol, fact8_eapol, gfact1, gfact2, gfact3, gfact5, gfact6, gfact9]
  simp only [Bool.and_true, Bool.true_and]
  kernel_rfl
/-- FnWriteEapol returns true at every layer and flag. -/
theorem proved_eapol : Rows.FnWriteEapolSaid :=
  OpenClaim.holds_of_wide 8 Tryz.f8 rfl rfl rfl rfl rfl rfl rfl ⟨rfl, rfl, rfl, rfl, rfl⟩ rfl rfl rfl rfl rfl (by kernel_rfl) Tryz.func8 closed_eapol
    (of_decide_eq_true (by kernel_rfl)) (by unfold Func.isWrapper; first | (rw [if_pos (by decide +kernel)]; kernel_rfl) | (rw [if_neg (by decide +kernel)]; exact ⟨rfl, rfl⟩))
    (fun os started H enc _ => lifted_eapol os started H enc)
#print axioms proved_eapol
end Go.Proofs.YtphmklgbbpiafaaGreat
