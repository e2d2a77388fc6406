/-
  Slices 'b[k:m]' whatever the capacity. No condition.
-/
import Derived.Test.YtphmklgbbpiafaaGreatCutB
namespace Go.Proofs.YtphmklgbbpiafaaGreat
open Go Go.RowKit
set_option linter.unusedVariables false
/-- 'b[k:m]': what it is, whatever its capacity. -/
theorem cut_mid (g o n c k m : Nat) (K M : IntKind) (ki mi : Int) (hki : ki = k) (hmi : mi = m) (hkm : k ≤ m) (hmc : m ≤ c) :
    ∃ A', (∀ w, (Instr.sliceAt 25 (.slice (some ⟨g, o, none⟩) n c) (some (.int K ki)) (some (.int M mi)) none).run Tryz.prog w = .ok (.slice A' (m - k) (c - k)) w) ∧
      (∀ (w : World) (B : Nat) (xs : List UInt8), m ≤ n → Sl w B (some ⟨g, o, none⟩) n (bcs xs) → Sl w B A' (m - k) (bcs ((xs.drop k).take (m - k)))) ∧ (A' = some ⟨g, o, none⟩ ∨ A' = some ⟨g, o + k, none⟩) := by
  obtain ⟨i0, hi0, hz0, hz1, hz2⟩ := info_parts info5
  subst hki
  subst hmi
  refine ⟨if c = k then some ⟨g, o, none⟩ else some ⟨g, o + k, none⟩, fun w => ?_, fun w B xs hmn h => ?_, by split <;> simp⟩
  · have he : Tryz.prog.elem 25 = 5 := by kernel_rfl
    have hu : Tryz.prog.underlying 25 = some (.slice (Tryz.prog.elem 25)) := by rw [he]; exact Tryz.underlying25
    rw [run_sliceAt_slice w 25 _ _ _ _ hu, run_slice_lh w 25 (some ⟨g, o, none⟩) n c hu K M k m (by omega) (by omega) (by omega), he]
    have hs : (sizeOf 5).run Tryz.prog w = .ok 1 w := by simp [sizeOf, typeInfo, hi0, hz1]
    rw [hs]
    simp only [Result.andThen_ok, sliced, Int.toNat_natCast, Nat.mul_one]
    split <;> simp [Addr.add_lit]
  · split
    · next h0 =>
      have e : m - k = 0 := by omega
      rw [e]
      exact Sl.none_ _ _ _
    · exact (h.drop_ (by omega)).take_ (by omega)
/-- 'b[k:m]' of a slice with room behind k. -/
theorem cut_mid_at (g o n c k m : Nat) (K M : IntKind) (ki mi : Int) (hki : ki = k) (hmi : mi = m) (hkm : k ≤ m) (hmc : m ≤ c) (hk : k < c) (oo mm cc : Nat) (ho : oo = o + k) (hm : mm = m - k) (hc : cc = c - k) (w : World) :
    (Instr.sliceAt 25 (.slice (some ⟨g, o, none⟩) n c) (some (.int K ki)) (some (.int M mi)) none).run Tryz.prog w = .ok (.slice (some ⟨g, oo, none⟩) mm cc) w := by
  obtain ⟨i0, hi0, hz0, hz1, hz2⟩ := info_parts info5
  subst hki hmi ho hm hc
  have he : Tryz.prog.elem 25 = 5 := by kernel_rfl
  have hu : Tryz.prog.underlying 25 = some (.slice (Tryz.prog.elem 25)) := by rw [he]; exact Tryz.underlying25
  rw [run_sliceAt_slice w 25 _ _ _ _ hu, run_slice_lh w 25 (some ⟨g, o, none⟩) n c hu K M k m (by omega) (by omega) (by omega), he]
  have hs : (sizeOf 5).run Tryz.prog w = .ok 1 w := by simp [sizeOf, typeInfo, hi0, hz1]
  rw [hs]
  have hne : ¬ c = k := by omega
  simp only [Result.andThen_ok, sliced, Int.toNat_natCast, Nat.mul_one]
  split <;> simp_all [Addr.add_lit]
end Go.Proofs.YtphmklgbbpiafaaGreat
