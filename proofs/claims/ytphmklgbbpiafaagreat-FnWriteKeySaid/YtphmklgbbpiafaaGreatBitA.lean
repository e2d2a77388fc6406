/-
  The closures 'bit' of the reference's readers. No condition.
-/
import Derived.Test.YtphmklgbbpiafaaGreatCutB
import Derived.Test.YtphmklgbbpiafaaGreatMskA
namespace Go.Proofs.YtphmklgbbpiafaaGreat
open Go Go.RowKit
set_option linter.unusedVariables false
set_option linter.unusedSimpArgs false
attribute [local go_sem] sd_drewN ad_drewN
set_option maxRecDepth 100000 in
theorem bitb0 (a m gf : Nat) (w : World) (ha : a < 256) (hm : a % 2 = m) (hc : w.cell? ⟨gf, 0, none⟩ = some (.int .u8 a)) :
    Calls Tryz.prog 66 #[.int .i64 0, .pointer (some ⟨gf, 0, none⟩)] w fun e w' => e = .returned (.int .u64 m) ∧ w' = w := by
  refine calls_hid fun R hR => ?_
  have hm2 : m < 2 := by omega
  have um : IntKind.u64.wrap (m : Int) = m := IntWalk.u64_in _ (by omega)
  have q : bits .and .u8 (a : Int) 1 = m := by rw [m8_1 a (by omega)]; omega
  clear hm
  go_enter Tryz.func66, Tryz.ntmps66
  go_wp2
  exact hR.out _ _ ⟨rfl, rfl⟩
set_option maxRecDepth 100000 in
theorem bitb1 (a m gf : Nat) (w : World) (ha : a < 256) (hm : a / 2 % 2 = m) (hc : w.cell? ⟨gf, 0, none⟩ = some (.int .u8 a)) :
    Calls Tryz.prog 66 #[.int .i64 1, .pointer (some ⟨gf, 0, none⟩)] w fun e w' => e = .returned (.int .u64 m) ∧ w' = w := by
  refine calls_hid fun R hR => ?_
  have hm2 : m < 2 := by omega
  have um : IntKind.u64.wrap (m : Int) = m := IntWalk.u64_in _ (by omega)
  have q : bits .and .u8 ((a : Int) / 2) 1 = m := by rw [show (a : Int) / 2 = ((a / 2 : Nat) : Int) by omega, m8_1 (a / 2) (by omega)]; omega
  clear hm
  go_enter Tryz.func66, Tryz.ntmps66
  go_wp2
  exact hR.out _ _ ⟨rfl, rfl⟩
set_option maxRecDepth 100000 in
theorem bitb2 (a m gf : Nat) (w : World) (ha : a < 256) (hm : a / 4 % 2 = m) (hc : w.cell? ⟨gf, 0, none⟩ = some (.int .u8 a)) :
    Calls Tryz.prog 66 #[.int .i64 2, .pointer (some ⟨gf, 0, none⟩)] w fun e w' => e = .returned (.int .u64 m) ∧ w' = w := by
  refine calls_hid fun R hR => ?_
  have hm2 : m < 2 := by omega
  have um : IntKind.u64.wrap (m : Int) = m := IntWalk.u64_in _ (by omega)
  have q : bits .and .u8 ((a : Int) / 4) 1 = m := by rw [show (a : Int) / 4 = ((a / 4 : Nat) : Int) by omega, m8_1 (a / 4) (by omega)]; omega
  clear hm
  go_enter Tryz.func66, Tryz.ntmps66
  go_wp2
  exact hR.out _ _ ⟨rfl, rfl⟩
set_option maxRecDepth 100000 in
theorem bitb3 (a m gf : Nat) (w : World) (ha : a < 256) (hm : a / 8 % 2 = m) (hc : w.cell? ⟨gf, 0, none⟩ = some (.int .u8 a)) :
    Calls Tryz.prog 66 #[.int .i64 3, .pointer (some ⟨gf, 0, none⟩)] w fun e w' => e = .returned (.int .u64 m) ∧ w' = w := by
  refine calls_hid fun R hR => ?_
  have hm2 : m < 2 := by omega
  have um : IntKind.u64.wrap (m : Int) = m := IntWalk.u64_in _ (by omega)
  have q : bits .and .u8 ((a : Int) / 8) 1 = m := by rw [show (a : Int) / 8 = ((a / 8 : Nat) : Int) by omega, m8_1 (a / 8) (by omega)]; omega
  clear hm
  go_enter Tryz.func66, Tryz.ntmps66
  go_wp2
  exact hR.out _ _ ⟨rfl, rfl⟩
set_option maxRecDepth 100000 in
theorem bitb4 (a m gf : Nat) (w : World) (ha : a < 256) (hm : a / 16 % 2 = m) (hc : w.cell? ⟨gf, 0, none⟩ = some (.int .u8 a)) :
    Calls Tryz.prog 66 #[.int .i64 4, .pointer (some ⟨gf, 0, none⟩)] w fun e w' => e = .returned (.int .u64 m) ∧ w' = w := by
  refine calls_hid fun R hR => ?_
  have hm2 : m < 2 := by omega
  have um : IntKind.u64.wrap (m : Int) = m := IntWalk.u64_in _ (by omega)
  have q : bits .and .u8 ((a : Int) / 16) 1 = m := by rw [show (a : Int) / 16 = ((a / 16 : Nat) : Int) by omega, m8_1 (a / 16) (by omega)]; omega
  clear hm
  go_enter Tryz.func66, Tryz.ntmps66
  go_wp2
  exact hR.out _ _ ⟨rfl, rfl⟩
set_option maxRecDepth 100000 in
theorem bitb5 (a m gf : Nat) (w : World) (ha : a < 256) (hm : a / 32 % 2 = m) (hc : w.cell? ⟨gf, 0, none⟩ = some (.int .u8 a)) :
    Calls Tryz.prog 66 #[.int .i64 5, .pointer (some ⟨gf, 0, none⟩)] w fun e w' => e = .returned (.int .u64 m) ∧ w' = w := by
  refine calls_hid fun R hR => ?_
  have hm2 : m < 2 := by omega
  have um : IntKind.u64.wrap (m : Int) = m := IntWalk.u64_in _ (by omega)
  have q : bits .and .u8 ((a : Int) / 32) 1 = m := by rw [show (a : Int) / 32 = ((a / 32 : Nat) : Int) by omega, m8_1 (a / 32) (by omega)]; omega
  clear hm
  go_enter Tryz.func66, Tryz.ntmps66
  go_wp2
  exact hR.out _ _ ⟨rfl, rfl⟩
set_option maxRecDepth 100000 in
theorem bitq3 (a m gf : Nat) (w : World) (ha : a < 65536) (hm : a / 8 % 2 = m) (hc : w.cell? ⟨gf, 0, none⟩ = some (.int .u64 a)) :
    Calls Tryz.prog 64 #[.int .i64 3, .pointer (some ⟨gf, 0, none⟩)] w fun e w' => e = .returned (.int .u64 m) ∧ w' = w := by
  refine calls_hid fun R hR => ?_
  have hm2 : m < 2 := by omega
  have um : IntKind.u64.wrap (m : Int) = m := IntWalk.u64_in _ (by omega)
  have q : bits .and .u64 ((a : Int) / 8) 1 = m := by rw [and64_1 _ (by omega) (by omega)]; omega
  clear hm
  go_enter Tryz.func64, Tryz.ntmps64
  go_wp2
  exact hR.out _ _ ⟨rfl, rfl⟩
set_option maxRecDepth 100000 in
theorem bitq6 (a m gf : Nat) (w : World) (ha : a < 65536) (hm : a / 64 % 2 = m) (hc : w.cell? ⟨gf, 0, none⟩ = some (.int .u64 a)) :
    Calls Tryz.prog 64 #[.int .i64 6, .pointer (some ⟨gf, 0, none⟩)] w fun e w' => e = .returned (.int .u64 m) ∧ w' = w := by
  refine calls_hid fun R hR => ?_
  have hm2 : m < 2 := by omega
  have um : IntKind.u64.wrap (m : Int) = m := IntWalk.u64_in _ (by omega)
  have q : bits .and .u64 ((a : Int) / 64) 1 = m := by rw [and64_1 _ (by omega) (by omega)]; omega
  clear hm
  go_enter Tryz.func64, Tryz.ntmps64
  go_wp2
  exact hR.out _ _ ⟨rfl, rfl⟩
set_option maxRecDepth 100000 in
theorem bitq7 (a m gf : Nat) (w : World) (ha : a < 65536) (hm : a / 128 % 2 = m) (hc : w.cell? ⟨gf, 0, none⟩ = some (.int .u64 a)) :
    Calls Tryz.prog 64 #[.int .i64 7, .pointer (some ⟨gf, 0, none⟩)] w fun e w' => e = .returned (.int .u64 m) ∧ w' = w := by
  refine calls_hid fun R hR => ?_
  have hm2 : m < 2 := by omega
  have um : IntKind.u64.wrap (m : Int) = m := IntWalk.u64_in _ (by omega)
  have q : bits .and .u64 ((a : Int) / 128) 1 = m := by rw [and64_1 _ (by omega) (by omega)]; omega
  clear hm
  go_enter Tryz.func64, Tryz.ntmps64
  go_wp2
  exact hR.out _ _ ⟨rfl, rfl⟩
set_option maxRecDepth 100000 in
theorem bitq8 (a m gf : Nat) (w : World) (ha : a < 65536) (hm : a / 256 % 2 = m) (hc : w.cell? ⟨gf, 0, none⟩ = some (.int .u64 a)) :
    Calls Tryz.prog 64 #[.int .i64 8, .pointer (some ⟨gf, 0, none⟩)] w fun e w' => e = .returned (.int .u64 m) ∧ w' = w := by
  refine calls_hid fun R hR => ?_
  have hm2 : m < 2 := by omega
  have um : IntKind.u64.wrap (m : Int) = m := IntWalk.u64_in _ (by omega)
  have q : bits .and .u64 ((a : Int) / 256) 1 = m := by rw [and64_1 _ (by omega) (by omega)]; omega
  clear hm
  go_enter Tryz.func64, Tryz.ntmps64
  go_wp2
  exact hR.out _ _ ⟨rfl, rfl⟩
set_option maxRecDepth 100000 in
theorem bitq9 (a m gf : Nat) (w : World) (ha : a < 65536) (hm : a / 512 % 2 = m) (hc : w.cell? ⟨gf, 0, none⟩ = some (.int .u64 a)) :
    Calls Tryz.prog 64 #[.int .i64 9, .pointer (some ⟨gf, 0, none⟩)] w fun e w' => e = .returned (.int .u64 m) ∧ w' = w := by
  refine calls_hid fun R hR => ?_
  have hm2 : m < 2 := by omega
  have um : IntKind.u64.wrap (m : Int) = m := IntWalk.u64_in _ (by omega)
  have q : bits .and .u64 ((a : Int) / 512) 1 = m := by rw [and64_1 _ (by omega) (by omega)]; omega
  clear hm
  go_enter Tryz.func64, Tryz.ntmps64
  go_wp2
  exact hR.out _ _ ⟨rfl, rfl⟩
set_option maxRecDepth 100000 in
theorem bitq10 (a m gf : Nat) (w : World) (ha : a < 65536) (hm : a / 1024 % 2 = m) (hc : w.cell? ⟨gf, 0, none⟩ = some (.int .u64 a)) :
    Calls Tryz.prog 64 #[.int .i64 10, .pointer (some ⟨gf, 0, none⟩)] w fun e w' => e = .returned (.int .u64 m) ∧ w' = w := by
  refine calls_hid fun R hR => ?_
  have hm2 : m < 2 := by omega
  have um : IntKind.u64.wrap (m : Int) = m := IntWalk.u64_in _ (by omega)
  have q : bits .and .u64 ((a : Int) / 1024) 1 = m := by rw [and64_1 _ (by omega) (by omega)]; omega
  clear hm
  go_enter Tryz.func64, Tryz.ntmps64
  go_wp2
  exact hR.out _ _ ⟨rfl, rfl⟩
set_option maxRecDepth 100000 in
theorem bitq11 (a m gf : Nat) (w : World) (ha : a < 65536) (hm : a / 2048 % 2 = m) (hc : w.cell? ⟨gf, 0, none⟩ = some (.int .u64 a)) :
    Calls Tryz.prog 64 #[.int .i64 11, .pointer (some ⟨gf, 0, none⟩)] w fun e w' => e = .returned (.int .u64 m) ∧ w' = w := by
  refine calls_hid fun R hR => ?_
  have hm2 : m < 2 := by omega
  have um : IntKind.u64.wrap (m : Int) = m := IntWalk.u64_in _ (by omega)
  have q : bits .and .u64 ((a : Int) / 2048) 1 = m := by rw [and64_1 _ (by omega) (by omega)]; omega
  clear hm
  go_enter Tryz.func64, Tryz.ntmps64
  go_wp2
  exact hR.out _ _ ⟨rfl, rfl⟩
set_option maxRecDepth 100000 in
theorem bitq12 (a m gf : Nat) (w : World) (ha : a < 65536) (hm : a / 4096 % 2 = m) (hc : w.cell? ⟨gf, 0, none⟩ = some (.int .u64 a)) :
    Calls Tryz.prog 64 #[.int .i64 12, .pointer (some ⟨gf, 0, none⟩)] w fun e w' => e = .returned (.int .u64 m) ∧ w' = w := by
  refine calls_hid fun R hR => ?_
  have hm2 : m < 2 := by omega
  have um : IntKind.u64.wrap (m : Int) = m := IntWalk.u64_in _ (by omega)
  have q : bits .and .u64 ((a : Int) / 4096) 1 = m := by rw [and64_1 _ (by omega) (by omega)]; omega
  clear hm
  go_enter Tryz.func64, Tryz.ntmps64
  go_wp2
  exact hR.out _ _ ⟨rfl, rfl⟩
set_option maxRecDepth 100000 in
theorem bitq13 (a m gf : Nat) (w : World) (ha : a < 65536) (hm : a / 8192 % 2 = m) (hc : w.cell? ⟨gf, 0, none⟩ = some (.int .u64 a)) :
    Calls Tryz.prog 64 #[.int .i64 13, .pointer (some ⟨gf, 0, none⟩)] w fun e w' => e = .returned (.int .u64 m) ∧ w' = w := by
  refine calls_hid fun R hR => ?_
  have hm2 : m < 2 := by omega
  have um : IntKind.u64.wrap (m : Int) = m := IntWalk.u64_in _ (by omega)
  have q : bits .and .u64 ((a : Int) / 8192) 1 = m := by rw [and64_1 _ (by omega) (by omega)]; omega
  clear hm
  go_enter Tryz.func64, Tryz.ntmps64
  go_wp2
  exact hR.out _ _ ⟨rfl, rfl⟩
end Go.Proofs.YtphmklgbbpiafaaGreat
