/-
  FnWriteLlc: whatever the layer and the flag, the law returns true, and its arguments read as they did. No condition.
-/
import Derived.JoinedOf
import Derived.ProofKit
import Derived.Test.YtphmklgbbpiafaaGreatFactA
import Derived.Test.YtphmklgbbpiafaaGreatLlcH
namespace Go.Proofs.YtphmklgbbpiafaaGreat
open Go
set_option linter.unusedSimpArgs false

theorem fact1_llc : (Rows.fnWriteLlcRow.inPlace == Tryz.prog.inPlace 12) = true := by kernel_rfl
theorem fact2_llc : (Rows.fnWriteLlcRow.unfollowed == Tryz.prog.unfollowed 12) = true := by kernel_rfl
theorem fact3_llc : (Rows.fnWriteLlcRow.recurses == Tryz.prog.recurses 12) = true := by kernel_rfl
theorem fact4_llc : (Rows.fnWriteLlcRow.named == Tryz.prog.varsNamed 12) = true := by kernel_rfl
theorem fact5_llc : namedTie Tryz.prog Rows.fnWriteLlcRow.named Rows.fnWriteLlcSpec.vars = true := by kernel_rfl
theorem fact6_llc : (Rows.fnWriteLlcRow.plainKeys == Tryz.prog.plainKeys) = true := gfact4
theorem fact7_llc : (Rows.fnWriteLlcRow.lifted == Tryz.prog.liftsFinal) = true := gfact7
theorem fact8_llc : (Tryz.prog.make == some Rows.fnWriteLlcRow.make) = true := gfact8
theorem closed_llc : joinedFacts Tryz.prog 12 Tryz.f12 Rows.fnWriteLlcSpec Rows.fnWriteLlcRow = true := by
  unfold joinedFacts
  rw [fact1_llc, fact2_llc, fact3_llc, fact4_llc, fact5_llc, fact6_llc, fact7_llc, fact8_llc, gfact1, gfact2, gfact3, gfact5, gfact6, gfact9]
  simp only [Bool.and_true, Bool.true_and]
  kernel_rfl
/-- FnWriteLlc returns true at every layer and flag. -/
theorem proved_llc : Rows.FnWriteLlcSaid :=
  OpenClaim.holds_of_wide 12 Tryz.f12 rfl rfl rfl rfl rfl rfl rfl ⟨rfl, rfl, rfl, rfl, rfl⟩ rfl rfl rfl rfl rfl (by kernel_rfl) Tryz.func12 closed_llc
    (of_decide_eq_true (by kernel_rfl)) (by unfold Func.isWrapper; first | (rw [if_pos (by decide +kernel)]; kernel_rfl) | (rw [if_neg (by decide +kernel)]; exact ⟨rfl, rfl⟩))
    (fun os started H enc _ => lifted_llc os started H enc)
#print axioms proved_llc
end Go.Proofs.YtphmklgbbpiafaaGreat
