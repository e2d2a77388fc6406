/-
  Slices 'b[k:]' of a slice with room behind k. No condition.
-/
import Derived.Test.YtphmklgbbpiafaaGreatCutB
namespace Go.Proofs.YtphmklgbbpiafaaGreat
open Go Go.RowKit
set_option linter.unusedVariables false
theorem cut_at (g o m cc k : Nat) (ki : Int) (hki : ki = k) (n c : Nat) (hn : n = m + k) (hc : c = cc + k) (hmc : m ≤ cc) (h0 : 0 < cc) (w : World) :
    (Instr.sliceAt 25 (.slice (some ⟨g, o, none⟩) n c) (some (.int .i64 ki)) none none).run Tryz.prog w = .ok (.slice (some ⟨g, o + k, none⟩) m cc) w := by
  obtain ⟨i0, hi0, hz0, hz1, hz2⟩ := info_parts info5
  subst hki hn hc
  have he : Tryz.prog.elem 25 = 5 := by kernel_rfl
  have hu : Tryz.prog.underlying 25 = some (.slice (Tryz.prog.elem 25)) := by rw [he]; exact Tryz.underlying25
  rw [run_sliceAt_slice w 25 _ _ _ _ hu, run_slice_l w 25 (some ⟨g, o, none⟩) (m + k) (cc + k) hu .i64 k (by omega) (by omega), he]
  have hs : (sizeOf 5).run Tryz.prog w = .ok 1 w := by simp [sizeOf, typeInfo, hi0, hz1]
  rw [hs]
  have hne : ¬ cc + k = k := by omega
  simp only [Result.andThen_ok, sliced, Int.toNat_natCast, Nat.mul_one, Nat.add_sub_cancel]
  split <;> simp_all [Addr.add_lit]
end Go.Proofs.YtphmklgbbpiafaaGreat
