/-
  Numbers in bytes, byte for byte. No condition.
-/
import Derived.Test.YtphmklgbbpiafaaGreatBytesL
namespace Go.Proofs.YtphmklgbbpiafaaGreat
open Go
theorem be1 (v : Nat) (h : v < 256) : ∃ a : UInt8, Lib.beBytes 1 v = [a] ∧ a.toNat = v :=
  ⟨(v % 256).toUInt8, rfl, by rw [Lib.toUInt8_mod, Nat.mod_eq_of_lt h]⟩
theorem be2 (v : Nat) (h : v < 65536) : ∃ a b : UInt8, Lib.beBytes 2 v = [a, b] ∧ a.toNat = v / 256 ∧ b.toNat = v % 256 := by
  obtain ⟨a, ha, ea⟩ := be1 (v / 256) (by omega)
  refine ⟨a, (v % 256).toUInt8, ?_, ea, Lib.toUInt8_mod v⟩
  rw [beBytes_succ, ha]; rfl
theorem be4 (v : Nat) (h : v < 4294967296) : ∃ a b c d : UInt8, Lib.beBytes 4 v = [a, b, c, d] ∧ a.toNat = v / 16777216 ∧ b.toNat = v / 65536 % 256 ∧ c.toNat = v / 256 % 256 ∧ d.toNat = v % 256 := by
  obtain ⟨a, b, ha, ea, eb⟩ := be2 (v / 65536) (by omega)
  refine ⟨a, b, (v / 256 % 256).toUInt8, (v % 256).toUInt8, ?_, by omega, eb, Lib.toUInt8_mod _, Lib.toUInt8_mod _⟩
  rw [beBytes_succ, beBytes_succ, Nat.div_div_eq_div_mul, ha]; rfl
end Go.Proofs.YtphmklgbbpiafaaGreat
