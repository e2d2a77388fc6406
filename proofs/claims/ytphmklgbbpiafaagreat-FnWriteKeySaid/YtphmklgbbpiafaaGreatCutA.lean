/-
  Words on slices that are cut, and numbers of bytes. No condition.
-/
import Derived.Test.YtphmklgbbpiafaaGreatMapB
import Derived.Test.YtphmklgbbpiafaaGreatEqA
namespace Go.Proofs.YtphmklgbbpiafaaGreat
open Go Go.RowKit
set_option linter.unusedVariables false

theorem beNat_take (xs : List UInt8) (k : Nat) : Lib.beNat (xs.take k) < 256 ^ k :=
  Nat.lt_of_lt_of_le (beNat_lt _) (Nat.pow_le_pow_right (by omega) (by rw [List.length_take]; omega))
theorem Sl.take_ {w : World} {B n k : Nat} {A : Option Addr} {xs : List UInt8} (h : Sl w B A n (bcs xs)) (hk : k ≤ n) : Sl w B A k (bcs (xs.take k)) := by
  have hl : xs.length = n := by rw [← bcs_length]; exact h.1
  refine ⟨by rw [bcs_length, List.length_take]; omega, fun h0 => ?_⟩
  obtain ⟨g, o, e, hb, hc⟩ := h.2 (by omega)
  refine ⟨g, o, e, hb, fun j u hu => hc j u ?_⟩
  rw [bcs, List.getElem?_map] at hu ⊢
  rw [List.getElem?_take] at hu
  split at hu
  · exact hu
  · simp at hu
theorem Sl.drop_ {w : World} {B n k g o : Nat} {xs : List UInt8} (h : Sl w B (some ⟨g, o, none⟩) n (bcs xs)) (hk : k ≤ n) : Sl w B (some ⟨g, o + k, none⟩) (n - k) (bcs (xs.drop k)) := by
  have hl : xs.length = n := by rw [← bcs_length]; exact h.1
  refine ⟨by rw [bcs_length, List.length_drop]; omega, fun h0 => ?_⟩
  obtain ⟨hb, hc⟩ := h.at_ (by omega)
  refine ⟨g, o + k, rfl, hb, fun j u hu => ?_⟩
  rw [Nat.add_assoc]
  refine hc (k + j) u ?_
  rw [bcs, List.getElem?_map] at hu ⊢
  rw [List.getElem?_drop] at hu
  exact hu
theorem Sl.nil_ {w : World} {B n : Nat} {A A' : Option Addr} {xs : List Value} (h : Sl w B A n xs) (hn : n = 0) : Sl w B A' n xs := ⟨h.1, fun h0 => absurd h0 (by omega)⟩
theorem Sl.from_ {w : World} {B n k g o c : Nat} {xs : List UInt8} (h : Sl w B (some ⟨g, o, none⟩) n (bcs xs)) (hk : k ≤ n) (hc : n ≤ c) {A' : Option Addr} (hA : A' = if c = k then some ⟨g, o, none⟩ else some ⟨g, o + k, none⟩) : Sl w B A' (n - k) (bcs (xs.drop k)) := by
  subst hA
  split
  · exact (h.drop_ hk).nil_ (by omega)
  · exact h.drop_ hk
/-- 'b[k:]': what it is, whatever its capacity. -/
theorem cut_from (g o n c k : Nat) (ki : Int) (hki : ki = k) (hk : k ≤ n) (hnc : n ≤ c) :
    ∃ A', (∀ w, (Instr.sliceAt 25 (.slice (some ⟨g, o, none⟩) n c) (some (.int .i64 ki)) none none).run Tryz.prog w = .ok (.slice A' (n - k) (c - k)) w) ∧
      (∀ (w : World) (B : Nat) (xs : List UInt8), Sl w B (some ⟨g, o, none⟩) n (bcs xs) → Sl w B A' (n - k) (bcs (xs.drop k))) ∧ (A' = some ⟨g, o, none⟩ ∨ A' = some ⟨g, o + k, none⟩) := by
  obtain ⟨i0, hi0, hz0, hz1, hz2⟩ := info_parts info5
  subst hki
  refine ⟨if c = k then some ⟨g, o, none⟩ else some ⟨g, o + k, none⟩, fun w => ?_, fun w B xs h => h.from_ hk hnc rfl, by split <;> simp⟩
  have he : Tryz.prog.elem 25 = 5 := by kernel_rfl
  have hu : Tryz.prog.underlying 25 = some (.slice (Tryz.prog.elem 25)) := by rw [he]; exact Tryz.underlying25
  rw [run_sliceAt_slice w 25 _ _ _ _ hu, run_slice_l w 25 (some ⟨g, o, none⟩) n c hu .i64 k (by omega) (by omega), he]
  have hs : (sizeOf 5).run Tryz.prog w = .ok 1 w := by simp [sizeOf, typeInfo, hi0, hz1]
  rw [hs]
  simp only [Result.andThen_ok, sliced, Int.toNat_natCast, Nat.mul_one]
  split <;> simp [Addr.add_lit]
end Go.Proofs.YtphmklgbbpiafaaGreat
