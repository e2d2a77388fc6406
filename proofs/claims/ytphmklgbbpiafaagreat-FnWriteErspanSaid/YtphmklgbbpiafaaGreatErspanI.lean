/-
  FnWriteErspan: whatever the layer and the flag, the law returns true, and its arguments read as they did. No condition.
-/
import Derived.JoinedOf
import Derived.ProofKit
import Derived.Test.YtphmklgbbpiafaaGreatFactA
import Derived.Test.YtphmklgbbpiafaaGreatErspanH
namespace Go.Proofs.YtphmklgbbpiafaaGreat
open Go
set_option linter.unusedSimpArgs false

theorem fact1_erspan : (Rows.fnWriteErspanRow.inPlace == Tryz.prog.inPlace 9) = true := by kernel_rfl
theorem fact2_erspan : (Rows.fnWriteErspanRow.unfollowed == Tryz.prog.unfollowed 9) = true := by kernel_rfl
theorem fact3_erspan : (Rows.fnWriteErspanRow.recurses == Tryz.prog.recurses 9) = true := by kernel_rfl
theorem fact4_erspan : (Rows.fnWriteErspanRow.named == Tryz.prog.varsNamed 9) = true := by kernel_rfl
theorem fact5_erspan : namedTie Tryz.prog Rows.fnWriteErspanRow.named Rows.fnWriteErspanSpec.vars = true := by kernel_rfl
theorem fact6_erspan : (Rows.fnWriteErspanRow.plainKeys == Tryz.prog.plainKeys) = true := gfact4
theorem fact7_erspan : (Rows.fnWriteErspanRow.lifted == Tryz.prog.liftsFinal) = true := gfact7
theorem fact8_erspan : (Tryz.prog.make == some Rows.fnWriteErspanRow.make) = true := gfact8
theorem closed_erspan : joinedFacts Tryz.prog 9 Tryz.f9 Rows.fnWriteErspanSpec Rows.fnWriteErspanRow = true := by
  unfold joinedFacts
  rw [fact1_erspan, fact2_erspan, fact3_erspan, fact4_erspan, fact5_erspan, fact6_erspan, fact7_erspan, fact8_erspan, gfact1, gfact2, gfact3, gfact5, gfact6, gfact9]
  simp only [Bool.and_true, Bool.true_and]
  kernel_rfl
/-- FnWriteErspan returns true at every layer and flag. -/
theorem proved_erspan : Rows.FnWriteErspanSaid :=
  OpenClaim.holds_of_wide 9 Tryz.f9 rfl rfl rfl rfl rfl rfl rfl ⟨rfl, rfl, rfl, rfl, rfl⟩ rfl rfl rfl rfl rfl (by kernel_rfl) Tryz.func9 closed_erspan
    (of_decide_eq_true (by kernel_rfl)) (by unfold Func.isWrapper; first | (rw [if_pos (by decide +kernel)]; kernel_rfl) | (rw [if_neg (by decide +kernel)]; exact ⟨rfl, rfl⟩))
    (fun os started H enc _ => lifted_erspan os started H enc)
#print axioms proved_erspan
end Go.Proofs.YtphmklgbbpiafaaGreat
