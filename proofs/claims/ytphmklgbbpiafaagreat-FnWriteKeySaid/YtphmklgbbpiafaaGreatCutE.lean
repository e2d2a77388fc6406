/-
  Slices 'b[k:]' with an index of any kind. No condition.
-/
import Derived.Test.YtphmklgbbpiafaaGreatCutD
namespace Go.Proofs.YtphmklgbbpiafaaGreat
open Go Go.RowKit
set_option linter.unusedVariables false
/-- 'b[k:]' with an index of any kind. -/
theorem cut_fromK (K : IntKind) (g o n c k : Nat) (ki : Int) (hki : ki = k) (hk : k ≤ n) (hnc : n ≤ c) :
    ∃ A', (∀ w, (Instr.sliceAt 25 (.slice (some ⟨g, o, none⟩) n c) (some (.int K ki)) none none).run Tryz.prog w = .ok (.slice A' (n - k) (c - k)) w) ∧
      (∀ (w : World) (B : Nat) (xs : List UInt8), Sl w B (some ⟨g, o, none⟩) n (bcs xs) → Sl w B A' (n - k) (bcs (xs.drop k))) ∧ (A' = some ⟨g, o, none⟩ ∨ A' = some ⟨g, o + k, none⟩) := by
  obtain ⟨i0, hi0, hz0, hz1, hz2⟩ := info_parts info5
  subst hki
  refine ⟨if c = k then some ⟨g, o, none⟩ else some ⟨g, o + k, none⟩, fun w => ?_, fun w B xs h => h.from_ hk hnc rfl, by split <;> simp⟩
  have he : Tryz.prog.elem 25 = 5 := by kernel_rfl
  have hu : Tryz.prog.underlying 25 = some (.slice (Tryz.prog.elem 25)) := by rw [he]; exact Tryz.underlying25
  rw [run_sliceAt_slice w 25 _ _ _ _ hu, run_slice_l w 25 (some ⟨g, o, none⟩) n c hu K k (by omega) (by omega), he]
  have hs : (sizeOf 5).run Tryz.prog w = .ok 1 w := by simp [sizeOf, typeInfo, hi0, hz1]
  rw [hs]
  simp only [Result.andThen_ok, sliced, Int.toNat_natCast, Nat.mul_one]
  split <;> simp [Addr.add_lit]
end Go.Proofs.YtphmklgbbpiafaaGreat
