/-
  FnWritePpp: whatever the layer and the flag, the law returns true, and its arguments read as they did. No condition.
-/
import Derived.JoinedOf
import Derived.ProofKit
import Derived.Test.YtphmklgbbpiafaaGreatFactA
import Derived.Test.YtphmklgbbpiafaaGreatPppH
namespace Go.Proofs.YtphmklgbbpiafaaGreat
open Go
set_option linter.unusedSimpArgs false

theorem fact1_ppp : (Rows.fnWritePppRow.inPlace == Tryz.prog.inPlace 3) = true := by kernel_rfl
theorem fact2_ppp : (Rows.fnWritePppRow.unfollowed == Tryz.prog.unfollowed 3) = true := by kernel_rfl
theorem fact3_ppp : (Rows.fnWritePppRow.recurses == Tryz.prog.recurses 3) = true := by kernel_rfl
theorem fact4_ppp : (Rows.fnWritePppRow.named == Tryz.prog.varsNamed 3) = true := by kernel_rfl
theorem fact5_ppp : namedTie Tryz.prog Rows.fnWritePppRow.named Rows.fnWritePppSpec.vars = true := by kernel_rfl
theorem fact6_ppp : (Rows.fnWritePppRow.plainKeys == Tryz.prog.plainKeys) = true := gfact4
theorem fact7_ppp : (Rows.fnWritePppRow.lifted == Tryz.prog.liftsFinal) = true := gfact7
theorem fact8_ppp : (Tryz.prog.make == some Rows.fnWritePppRow.make) = true := gfact8
theorem closed_ppp : joinedFacts Tryz.prog 3 Tryz.f3 Rows.fnWritePppSpec Rows.fnWritePppRow = true := by
  unfold joinedFacts
  rw [fact1_ppp, fact2_ppp, fact3_ppp, fact4_ppp, fact5_ppp, fact6_ppp, fact7_ppp, fact8_ppp, gfact1, gfact2, gfact3, gfact5, gfact6, gfact9]
  simp only [Bool.and_true, Bool.true_and]
  kernel_rfl
/-- FnWritePpp returns true at every layer and flag. -/
theorem proved_ppp : Rows.FnWritePppSaid :=
  OpenClaim.holds_of_wide 3 Tryz.f3 rfl rfl rfl rfl rfl rfl rfl ⟨rfl, rfl, rfl, rfl, rfl⟩ rfl rfl rfl rfl rfl (by kernel_rfl) Tryz.func3 closed_ppp
    (of_decide_eq_true (by kernel_rfl)) (by unfold Func.isWrapper; first | (rw [if_pos (by decide +kernel)]; kernel_rfl) | (rw [if_neg (by decide +kernel)]; exact ⟨rfl, rfl⟩))
    (fun os started H enc _ => lifted_ppp os started H enc)
#print axioms proved_ppp
end Go.Proofs.YtphmklgbbpiafaaGreat
