/-
  Masks of a number of 16 bits; SetTruncated. No condition.
-/
import Derived.Test.YtphmklgbbpiafaaGreatMskA
import Derived.Test.YtphmklgbbpiafaaGreatDecA
namespace Go.Proofs.YtphmklgbbpiafaaGreat
open Go Go.RowKit
/-- A mask of b bits from c on. -/
theorem m16_mask (c b m : Nat) (hc : c + b ≤ 16) (hm : m = (2 ^ b - 1) * 2 ^ c) (x : Nat) (hx3 : x < 65536) : bits .and .u16 (x : Int) (m : Int) = ((x / 2 ^ c % 2 ^ b * 2 ^ c : Nat) : Int) := by
  subst hm
  have hm2 : (2 ^ b - 1) * 2 ^ c < 65536 := by
    have h1 : (2 ^ b - 1) * 2 ^ c < 2 ^ b * 2 ^ c := Nat.mul_lt_mul_of_pos_right (Nat.sub_lt (Nat.pow_pos (by omega)) (by omega)) (Nat.pow_pos (by omega))
    rw [← Nat.pow_add] at h1
    exact Nat.lt_of_lt_of_le h1 (Nat.pow_le_pow_right (by omega) (by omega : b + c ≤ 16))
  rw [(bits_nat .u16 16 (by decide) wraps_u16 x _ hx3 hm2).1]
  congr 1
  apply Nat.eq_of_testBit_eq
  intro i
  rw [Nat.testBit_and, Nat.testBit_mul_two_pow, Nat.testBit_mul_two_pow, Nat.testBit_two_pow_sub_one, Nat.testBit_mod_two_pow, Nat.testBit_div_two_pow]
  by_cases h : c ≤ i
  · by_cases h2 : i - c < b
    · simp [h, h2]
    · simp [h, h2]
  · simp [h]
theorem trunc_meth (gk : Nat) (W : World) : (method 390 234 (.pointer (some ⟨gk, 0, none⟩)) "SetTruncated").run Tryz.prog W = .ok (202, .pointer (some ⟨gk, 0, none⟩)) W := by kernel_rfl
theorem trunc_ent (args : Array Value) (W : World) : (callFunc 202 args).run Tryz.prog W = .ok (.enter 202 args) W := by kernel_rfl
theorem trunc_any (gk : Nat) (w : World) : Calls Tryz.prog 202 #[.pointer (some ⟨gk, 0, none⟩)] w fun e w' => (∃ v, e = .returned v) ∧ w' = w := by
  refine calls_hid fun R hR => ?_
  go_enter Tryz.func202, Tryz.ntmps202
  go_wp2
  go_end0
  exact hR.out _ _ ⟨⟨_, rfl⟩, rfl⟩
theorem trunc_nil (gk : Nat) (W : World) : (nilAhead 390 234 (.pointer (some ⟨gk, 0, none⟩)) "SetTruncated").run Tryz.prog W = .ok (some false) W := by kernel_rfl
end Go.Proofs.YtphmklgbbpiafaaGreat
