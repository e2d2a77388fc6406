/-
  One step of a drawn region: a call of the function that makes 0 or 1 of a bool. No condition.
-/
import Derived.Deep.RegionHeld3
import Derived.Test.YtphmklgbbpiafaaGreatDecA
namespace Go.Proofs.YtphmklgbbpiafaaGreat
open Go Go.RowKit
set_option linter.unusedVariables false
set_option maxRecDepth 100000 in
theorem step_bit {ops : Array Oper} {o : Oper} {a : Act} {w : World} {K : Act → World → Prop} {Q : Exit → Act → World → Prop} {E : Prop} (hgd : o.guard = none) (t : Nat)
    (ho : o.op = .call { callee := .value (.func 70), args := #[.tmp t], argTypes := #[4] }) (n : Nat) (h : n < 2) (hx : a.tmps[t]?.getD undef = .bool (bt n)) (hK : K (a.put o.dst (.int .u64 n)) w) :
    if Region.wanted o (yielded ops a.tmps) = true then Oper.wp Tryz.prog o a w K Q else E := by
  have hw : Region.wanted o (yielded ops a.tmps) = true := by simp [Region.wanted, hgd]
  rw [if_pos hw]
  obtain ⟨dst, op, type, pos, after, guard⟩ := o
  simp only at ho hgd hK
  subst ho
  go_simp
  refine (bit_any n h w).mono ?_
  rintro e w' ⟨rfl, rfl⟩
  exact hK
end Go.Proofs.YtphmklgbbpiafaaGreat
