/-
  Numbers in bytes, cut. No condition.
-/
import Derived.Test.YtphmklgbbpiafaaGreatSerA
import Derived.Lib.EndianMore
namespace Go.Proofs.YtphmklgbbpiafaaGreat
open Go
theorem beBytes_cat (a b v : Nat) : Lib.beBytes (a + b) v = Lib.beBytes a (v / 256 ^ b) ++ Lib.beBytes b v := by
  induction b generalizing v with
  | zero => simp [Lib.beBytes, Lib.leBytes]
  | succ b ih =>
    rw [← Nat.add_assoc, beBytes_succ, beBytes_succ, ih, List.append_assoc, Nat.div_div_eq_div_mul, Nat.pow_succ, Nat.mul_comm (256 ^ b) 256]
theorem beBytes_mod (k v : Nat) : Lib.beBytes k v = Lib.beBytes k (v % 256 ^ k) := by
  induction k generalizing v with
  | zero => simp [Lib.beBytes, Lib.leBytes]
  | succ k ih =>
    rw [beBytes_succ, beBytes_succ, ih (v / 256), ih (v % 256 ^ (k + 1) / 256)]
    have e1 : v % 256 ^ (k + 1) / 256 % 256 ^ k = v / 256 % 256 ^ k := by
      rw [Nat.pow_succ, Nat.mul_comm, Nat.mod_mul_right_div_self, Nat.mod_mod]
    have e2 : v % 256 ^ (k + 1) % 256 = v % 256 := by
      rw [Nat.pow_succ, Nat.mul_comm, Nat.mod_mul_right_mod]
    rw [e1, e2]
theorem beNat_two (a b : UInt8) : Lib.beNat [a, b] = a.toNat * 256 + b.toNat := by simp [Lib.beNat, Lib.beFrom]
theorem beNat_four (a b c d : UInt8) : Lib.beNat [a, b, c, d] = ((a.toNat * 256 + b.toNat) * 256 + c.toNat) * 256 + d.toNat := by simp [Lib.beNat, Lib.beFrom]
theorem beNat_eight (a b c d e f g h : UInt8) : Lib.beNat [a, b, c, d, e, f, g, h] = ((((((a.toNat * 256 + b.toNat) * 256 + c.toNat) * 256 + d.toNat) * 256 + e.toNat) * 256 + f.toNat) * 256 + g.toNat) * 256 + h.toNat := by simp [Lib.beNat, Lib.beFrom]
end Go.Proofs.YtphmklgbbpiafaaGreat
