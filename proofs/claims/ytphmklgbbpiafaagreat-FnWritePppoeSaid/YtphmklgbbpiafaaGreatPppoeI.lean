/-
  FnWritePppoe: whatever the layer and the flag, the law returns true, and its arguments read as they did. No condition.
-/
import Derived.JoinedOf
import Derived.ProofKit
import Derived.Test.YtphmklgbbpiafaaGreatFactA
import Derived.Test.YtphmklgbbpiafaaGreatPppoeH
namespace Go.Proofs.YtphmklgbbpiafaaGreat
open Go
set_option linter.unusedSimpArgs false

theorem fact1_pppoe : (Rows.fnWritePppoeRow.inPlace == Tryz.prog.inPlace 4) = true := by kernel_rfl
theorem fact2_pppoe : (Rows.fnWritePppoeRow.unfollowed == Tryz.prog.unfollowed 4) = true := by kernel_rfl
theorem fact3_pppoe : (Rows.fnWritePppoeRow.recurses == Tryz.prog.recurses 4) = true := by kernel_rfl
theorem fact4_pppoe : (Rows.fnWritePppoeRow.named == Tryz.prog.varsNamed 4) = true := by kernel_rfl
theorem fact5_pppoe : namedTie Tryz.prog Rows.fnWritePppoeRow.named Rows.fnWritePppoeSpec.vars = true := by kernel_rfl
theorem fact6_pppoe : (Rows.fnWritePppoeRow.plainKeys == Tryz.prog.plainKeys) = true := gfact4
theorem fact7_pppoe : (Rows.fnWritePppoeRow.lifted == Tryz.prog.liftsFinal) = true := gfact7
theorem fact8_pppoe : (Tryz.prog.make == some Rows.fnWritePppoeRow.make) = true := gfact8
theorem closed_pppoe : joinedFacts Tryz.prog 4 Tryz.f4 Rows.fnWritePppoeSpec Rows.fnWritePppoeRow = true := by
  unfold joinedFacts
  rw [fact1_pppoe, fact2_pppoe, fact3_pppoe, fact4_pppoe, fact5_pppoe, fact6_pppoe, fact7_pppoe, fact8_pppoe, gfact1, gfact2, gfact3, gfact5, gfact6, gfact9]
  simp only [Bool.and_true, Bool.true_and]
  kernel_rfl
/-- FnWritePppoe returns true at every layer and flag. -/
theorem proved_pppoe : Rows.FnWritePppoeSaid :=
  OpenClaim.holds_of_wide 4 Tryz.f4 rfl rfl rfl rfl rfl rfl rfl ⟨rfl, rfl, rfl, rfl, rfl⟩ rfl rfl rfl rfl rfl (by kernel_rfl) Tryz.func4 closed_pppoe
    (of_decide_eq_true (by kernel_rfl)) (by unfold Func.isWrapper; first | (rw [if_pos (by decide +kernel)]; kernel_rfl) | (rw [if_neg (by decide +kernel)]; exact ⟨rfl, rfl⟩))
    (fun os started H enc _ => lifted_pppoe os started H enc)
#print axioms proved_pppoe
end Go.Proofs.YtphmklgbbpiafaaGreat
