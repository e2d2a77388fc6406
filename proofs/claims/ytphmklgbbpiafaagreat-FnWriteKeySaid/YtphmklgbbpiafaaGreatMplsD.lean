/-
  MPLS: what its decoder hands on. No condition.
-/
import Derived.Test.YtphmklgbbpiafaaGreatDecA
namespace Go.Proofs.YtphmklgbbpiafaaGreat
open Go Go.RowKit
set_option linter.unusedVariables false
attribute [local go_sem] sd_drewN ad_drewN
def fMpls (N : Nat) : Fld := Fld.just [.int .u32 (N / 4096 : Nat), .int .u8 (N / 512 % 8 : Nat), .bool (bt (N / 256 % 2)), .int .u8 (N % 256 : Nat)]
set_option maxRecDepth 1000000 in
set_option maxHeartbeats 10000000 in
theorem dec_mpls (xs : List UInt8) (h4 : 4 ≤ xs.length) (hn : xs.length ≤ 1000) : Decs 87 111 114 xs (xs.drop 4) (fMpls (Lib.beNat (xs.take 4))) := by
  intro gk u A n c w hk hs hnc
  refine calls_hid fun R hR => ?_
  have hl : xs.length = n := by rw [← bcs_length]; exact hs.1
  have e4 : (xs.drop 4).length = n - 4 := by rw [List.length_drop, hl]
  rw [e4] at hR
  rw [hl] at h4 hn
  obtain ⟨g, o, rfl, hg, _⟩ := hs.2 (by omega)
  obtain ⟨A4, cut4, cs4, cf4⟩ := cut_from g o n c 4 4 rfl (by omega) hnc
  have HS := Lib.hid hs
  have HK := Lib.hid hk
  have HL := Lib.hid hl
  have HC4 := Lib.hid cs4
  have HF4 := Lib.hid cf4
  have hlt := hk.lt
  clear hs hk hl cs4 cf4 e4
  have jc : (4 : Int) ≤ (c : Int) := by omega
  have jn : (4 : Int) ≤ (n : Int) := by omega
  go_enter Tryz.func87, Tryz.ntmps87
  go_wp2_with fail
  refine wp_region_tail 3 (by kernel_rfl) (by kernel_rfl) ?_
  simp only [List.take_succ_cons, List.take_zero, List.drop_succ_cons, List.drop_zero]
  repeat still_step
  refine wpStill_nil ?_
  go_wp2_with fail
  refine (u32_at g o n 0 4 c gk o xs _ (HS.out.below (Below.refl _ _).drew) (by omega) (by omega) rfl).mono ?_
  rintro e w1 ⟨rfl, hb⟩
  have hN : Lib.beNat ((xs.drop 0).take 4) = Lib.beNat (xs.take 4) := by rw [List.drop_zero]
  rw [hN]
  have hN2 : Lib.beNat (xs.take 4) < 4294967296 := beNat_take xs 4
  clear hN
  generalize Lib.beNat (xs.take 4) = N at *
  have hb' : Below w.heap.size w w1 := below_undrew hb
  have HB := Lib.hid hb'
  clear hb hb'
  go_wp2_with fail
  refine wp_region_tail 17 (by kernel_rfl) (by kernel_rfl) ?_
  simp only [List.take_succ_cons, List.take_zero, List.drop_succ_cons, List.drop_zero]
  repeat still_step
  refine wpStill_nil ?_
  go_wp2_with fail
  have q1 : bits .and .u8 (IntKind.u8.wrap ((N : Int) / 512)) 7 = ((N / 512 % 8 : Nat) : Int) := by rw [u8w, and8_7 _ (by omega) (by omega)]; omega
  have q2 : (bits .and .u32 (N : Int) 256 != 0) = bt (N / 256 % 2) := bt_ne _ 256 (by decide) _ (by omega) (by rw [bit32_256 _ (by omega) (by omega)]; omega)
  have q3 : IntKind.u8.wrap (N : Int) = ((N % 256 : Nat) : Int) := by rw [u8w]; omega
  have q4 : (N : Int) / 4096 = ((N / 4096 : Nat) : Int) := by omega
  simp only [q1, q2, q3, q4]
  clear q1 q2 q3 q4
  have hk1 := HK.out.below HB.out hlt
  have hs1 := HB.out.size
  refine (addlayer gk u _ _ _ ((hk1.alloc _).drewN _)).mono ?_
  rintro e w2 ⟨rfl, rfl⟩
  go_wp2_with fail
  obtain ⟨cs, hcs⟩ : ∃ cs : List Value, cs = [.slice (some ⟨g, o, none⟩) 4 c, .slice A4 (n - 4) (c - 4), .int .u32 ((N : Int) / 4096), .int .u8 ((N : Int) / 512 % 8), .bool (bt (N / 256 % 2)), .int .u8 ((N : Int) % 256)] := ⟨_, rfl⟩
  rw [← hcs]
  have hgr : w.grownBy (((w1.alloc (.cells cs.toArray 114)).setCell ⟨gk, 0, none⟩ (.iface 111 (.pointer (some ⟨w1.heap.size, 0, none⟩)))).drewN 1) (some gk) := by
    refine only_drewN ?_ 1
    refine only_set ?_ (.inl rfl) _
    refine only_alloc ?_ _
    exact grown_of_below HB.out _
  refine hR.out _ _ ⟨w1.heap.size, .slice (some ⟨g, o, none⟩) 4 c, A4, c - 4, [.int .u32 ((N : Int) / 4096), .int .u8 ((N : Int) / 512 % 8), .bool (bt (N / 256 % 2)), .int .u8 ((N : Int) % 256)], rfl, hs1, ?_, ?_, ?_, ?_, hgr⟩
  · exact ((hk1.alloc _).set_ 0 _).drewN 1
  · have := ((Bk.new w1 114 cs).far (p := ⟨gk, 0, none⟩) (by simp; omega) (.iface 111 (.pointer (some ⟨w1.heap.size, 0, none⟩)))).drewN 1
    exact Bk.cast this hcs
  · exact (HC4.out w _ xs HS.out).below (grown_below hgr (by omega))
  · simp [fMpls, Fld.just]
end Go.Proofs.YtphmklgbbpiafaaGreat
