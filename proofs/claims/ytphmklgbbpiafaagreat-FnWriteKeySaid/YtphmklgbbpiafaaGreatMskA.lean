/-
  Masks of one byte, whole. No condition.
-/
import Derived.Test.YtphmklgbbpiafaaGreatSerA
namespace Go.Proofs.YtphmklgbbpiafaaGreat
open Go
theorem and8_all (m : Nat) (f : Nat → Nat) (h : (List.range 256).all (fun y => decide (bits .and .u8 (y : Int) (m : Int) = (f y : Int))) = true) (x : Nat) (hx : x < 256) : bits .and .u8 (x : Int) (m : Int) = (f x : Int) := by
  have := List.all_eq_true.1 h x (List.mem_range.2 hx)
  exact of_decide_eq_true this
theorem m8_240 (x : Nat) (hx : x < 256) : bits .and .u8 (x : Int) 240 = ((x / 16 * 16 : Nat) : Int) := and8_all 240 (fun x => x / 16 * 16) (by kernel_rfl) x hx
theorem m8_224 (x : Nat) (hx : x < 256) : bits .and .u8 (x : Int) 224 = ((x / 32 * 32 : Nat) : Int) := and8_all 224 (fun x => x / 32 * 32) (by kernel_rfl) x hx
theorem m8_192 (x : Nat) (hx : x < 256) : bits .and .u8 (x : Int) 192 = ((x / 64 * 64 : Nat) : Int) := and8_all 192 (fun x => x / 64 * 64) (by kernel_rfl) x hx
theorem m8_254 (x : Nat) (hx : x < 256) : bits .and .u8 (x : Int) 254 = ((x / 2 * 2 : Nat) : Int) := and8_all 254 (fun x => x / 2 * 2) (by kernel_rfl) x hx
theorem m8_24 (x : Nat) (hx : x < 256) : bits .and .u8 (x : Int) 24 = ((x / 8 % 4 * 8 : Nat) : Int) := and8_all 24 (fun x => x / 8 % 4 * 8) (by kernel_rfl) x hx
theorem m8_56 (x : Nat) (hx : x < 256) : bits .and .u8 (x : Int) 56 = ((x / 8 % 8 * 8 : Nat) : Int) := and8_all 56 (fun x => x / 8 % 8 * 8) (by kernel_rfl) x hx
theorem m8_1 (x : Nat) (hx : x < 256) : bits .and .u8 (x : Int) 1 = ((x % 2 : Nat) : Int) := and8_all 1 (fun x => x % 2) (by kernel_rfl) x hx
theorem m8_2 (x : Nat) (hx : x < 256) : bits .and .u8 (x : Int) 2 = ((x / 2 % 2 * 2 : Nat) : Int) := and8_all 2 (fun x => x / 2 % 2 * 2) (by kernel_rfl) x hx
theorem m8_4 (x : Nat) (hx : x < 256) : bits .and .u8 (x : Int) 4 = ((x / 4 % 2 * 4 : Nat) : Int) := and8_all 4 (fun x => x / 4 % 2 * 4) (by kernel_rfl) x hx
theorem m8_8 (x : Nat) (hx : x < 256) : bits .and .u8 (x : Int) 8 = ((x / 8 % 2 * 8 : Nat) : Int) := and8_all 8 (fun x => x / 8 % 2 * 8) (by kernel_rfl) x hx
theorem m8_16 (x : Nat) (hx : x < 256) : bits .and .u8 (x : Int) 16 = ((x / 16 % 2 * 16 : Nat) : Int) := and8_all 16 (fun x => x / 16 % 2 * 16) (by kernel_rfl) x hx
theorem m8_32 (x : Nat) (hx : x < 256) : bits .and .u8 (x : Int) 32 = ((x / 32 % 2 * 32 : Nat) : Int) := and8_all 32 (fun x => x / 32 % 2 * 32) (by kernel_rfl) x hx
theorem m8_7 (x : Nat) (hx : x < 256) : bits .and .u8 (x : Int) 7 = ((x % 8 : Nat) : Int) := and8_all 7 (fun x => x % 8) (by kernel_rfl) x hx
theorem m8_15 (x : Nat) (hx : x < 256) : bits .and .u8 (x : Int) 15 = ((x % 16 : Nat) : Int) := and8_all 15 (fun x => x % 16) (by kernel_rfl) x hx
theorem m8_31 (x : Nat) (hx : x < 256) : bits .and .u8 (x : Int) 31 = ((x % 32 : Nat) : Int) := and8_all 31 (fun x => x % 32) (by kernel_rfl) x hx
theorem m8_3 (x : Nat) (hx : x < 256) : bits .and .u8 (x : Int) 3 = ((x % 4 : Nat) : Int) := and8_all 3 (fun x => x % 4) (by kernel_rfl) x hx
theorem m8_63 (x : Nat) (hx : x < 256) : bits .and .u8 (x : Int) 63 = ((x % 64 : Nat) : Int) := and8_all 63 (fun x => x % 64) (by kernel_rfl) x hx
/-- A mask of the upper bits. -/
theorem m16_up (c : Nat) (m : Nat) (hc : c ≤ 16) (hm : m = (2 ^ (16 - c) - 1) * 2 ^ c) (x : Nat) (hx3 : x < 65536) : bits .and .u16 (x : Int) (m : Int) = ((x / 2 ^ c * 2 ^ c : Nat) : Int) := by
  subst hm
  have hm2 : (2 ^ (16 - c) - 1) * 2 ^ c < 65536 := by
    have : (2 ^ (16 - c) - 1) * 2 ^ c < 2 ^ (16 - c) * 2 ^ c := Nat.mul_lt_mul_of_pos_right (Nat.sub_lt (Nat.pow_pos (by omega)) (by omega)) (Nat.pow_pos (by omega))
    rw [← Nat.pow_add, show 16 - c + c = 16 by omega] at this
    exact this
  rw [(bits_nat .u16 16 (by decide) wraps_u16 x _ hx3 hm2).1]
  congr 1
  apply Nat.eq_of_testBit_eq
  intro i
  rw [Nat.testBit_and, Nat.testBit_mul_two_pow, Nat.testBit_mul_two_pow, Nat.testBit_two_pow_sub_one, Nat.testBit_div_two_pow]
  by_cases h : c ≤ i
  · by_cases h2 : i - c < 16 - c
    · simp [h, h2]
    · have : x.testBit i = false := Nat.testBit_lt_two_pow (Nat.lt_of_lt_of_le hx3 (Nat.pow_le_pow_right (show 0 < 2 by omega) (by omega : 16 ≤ i)))
      simp [h, h2, this]
  · simp [h]
theorem m16_65520 (x : Nat) (hx : x < 65536) : bits .and .u16 (x : Int) 65520 = ((x / 16 * 16 : Nat) : Int) := m16_up 4 65520 (by omega) (by decide) x hx
end Go.Proofs.YtphmklgbbpiafaaGreat
