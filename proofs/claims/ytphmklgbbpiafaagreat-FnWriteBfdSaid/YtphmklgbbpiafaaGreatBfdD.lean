/-
  Bfd: what its decoder hands on. No condition.
-/
import Derived.Deep.RegionHeld3
import Derived.Test.YtphmklgbbpiafaaGreatDldA
import Derived.Test.YtphmklgbbpiafaaGreatMskA
import Derived.Test.YtphmklgbbpiafaaGreatCutC
namespace Go.Proofs.YtphmklgbbpiafaaGreat
open Go Go.RowKit
set_option linter.unusedVariables false
attribute [local go_sem] sd_drewN ad_drewN
set_option maxRecDepth 1000000 in
set_option maxHeartbeats 10000000 in
/-- What DecodeFromBytes does to the layer in block gx. -/
theorem dfb_bfd (xs : List UInt8) (h24 : xs.length = 24) (hN : (xs.getD 3 0).toNat = 24) (hz2 : (xs.getD 1 0).toNat / 4 % 2 = 0) (g o n c B gx : Nat) (df : Value) (w : World) (hs : Sl w B (some ⟨g, o, none⟩) n (bcs xs)) (hB : B ≤ gx) (h4 : 24 ≤ n) (hnc : n ≤ c) (hn : n ≤ 1000)
    (hx : Bk w gx 134 [.slice none 0 0, .slice none 0 0, .int .u8 0, .int .u8 0, .int .u8 0, .bool false, .bool false, .bool false, .bool false, .bool false, .bool false, .int .u8 0, .int .u32 0, .int .u32 0, .int .u32 0, .int .u32 0, .int .u32 0, .pointer none]) :
    Calls Tryz.prog 108 #[.pointer (some ⟨gx, 0, none⟩), .slice (some ⟨g, o, none⟩) n c, df] w (Dfbs B gx 134 [] (Fld.just [.int .u8 ((xs.getD 0 0).toNat / 32 : Nat), .int .u8 ((xs.getD 0 0).toNat % 32 : Nat), .int .u8 ((xs.getD 1 0).toNat / 64 : Nat), .bool (bt ((xs.getD 1 0).toNat / 32 % 2)), .bool (bt ((xs.getD 1 0).toNat / 16 % 2)), .bool (bt ((xs.getD 1 0).toNat / 8 % 2)), .bool false, .bool (bt ((xs.getD 1 0).toNat / 2 % 2)), .bool (bt ((xs.getD 1 0).toNat % 2)), .int .u8 (xs.getD 2 0).toNat, .int .u32 (Lib.beNat ((xs.drop 4).take 4) : Nat), .int .u32 (Lib.beNat ((xs.drop 8).take 4) : Nat), .int .u32 (Lib.beNat ((xs.drop 12).take 4) : Nat), .int .u32 (Lib.beNat ((xs.drop 16).take 4) : Nat), .int .u32 (Lib.beNat ((xs.drop 20).take 4) : Nat), .pointer none]) w) := by
  refine calls_hid fun R hR => ?_
  unfold Dfbs at hR
  simp only [Fld.just] at hR
  have hln : xs.length = n := by rw [← bcs_length]; exact hs.1
  obtain ⟨hg, _⟩ := hs.at_ (by omega)
  obtain ⟨A4, cut4, cs4, cf4⟩ := cut_from g o n c 24 24 rfl (by omega) hnc
  have hlt := hx.lt
  have b0 := (xs.getD 0 0).toNat_lt
  have x0 : w.cell? ⟨g, o, none⟩ = some (.int .u8 (xs.getD 0 0).toNat) := hs.byte (k := 0) (by omega)
  have HXB0 := Lib.hid x0
  have j0 : 0 < n := by omega
  have i0 : (0 : Int) < (n : Int) := by omega
  have b1 := (xs.getD 1 0).toNat_lt
  have x1 : w.cell? ⟨g, o + 1, none⟩ = some (.int .u8 (xs.getD 1 0).toNat) := hs.byte (k := 1) (by omega)
  have HXB1 := Lib.hid x1
  have j1 : 1 < n := by omega
  have i1 : (1 : Int) < (n : Int) := by omega
  have b2 := (xs.getD 2 0).toNat_lt
  have x2 : w.cell? ⟨g, o + 2, none⟩ = some (.int .u8 (xs.getD 2 0).toNat) := hs.byte (k := 2) (by omega)
  have HXB2 := Lib.hid x2
  have j2 : 2 < n := by omega
  have i2 : (2 : Int) < (n : Int) := by omega
  have b3 := (xs.getD 3 0).toNat_lt
  have x3 : w.cell? ⟨g, o + 3, none⟩ = some (.int .u8 (xs.getD 3 0).toNat) := hs.byte (k := 3) (by omega)
  have HXB3 := Lib.hid x3
  have j3 : 3 < n := by omega
  have i3 : (3 : Int) < (n : Int) := by omega
  have c0 := hx.cell 0
  have c1 := hx.cell 1
  have c2 := hx.cell 2
  have c3 := hx.cell 3
  have c4 := hx.cell 4
  have c5 := hx.cell 5
  have c6 := hx.cell 6
  have c7 := hx.cell 7
  have c8 := hx.cell 8
  have c9 := hx.cell 9
  have c10 := hx.cell 10
  have c11 := hx.cell 11
  have c12 := hx.cell 12
  have c13 := hx.cell 13
  have c14 := hx.cell 14
  have c15 := hx.cell 15
  have c16 := hx.cell 16
  have c17 := hx.cell 17
  simp only [List.getElem?_cons_zero, List.getElem?_cons_succ] at c0 c1 c2 c3 c4 c5 c6 c7 c8 c9 c10 c11 c12 c13 c14 c15 c16 c17
  have f0 := hx.frozen 0
  have f1 := hx.frozen 1
  have f2 := hx.frozen 2
  have f3 := hx.frozen 3
  have f4 := hx.frozen 4
  have f5 := hx.frozen 5
  have f6 := hx.frozen 6
  have f7 := hx.frozen 7
  have f8 := hx.frozen 8
  have f9 := hx.frozen 9
  have f10 := hx.frozen 10
  have f11 := hx.frozen 11
  have f12 := hx.frozen 12
  have f13 := hx.frozen 13
  have f14 := hx.frozen 14
  have f15 := hx.frozen 15
  have f16 := hx.frozen 16
  have f17 := hx.frozen 17
  have HS := Lib.hid hs
  have HX := Lib.hid hx
  have HC4 := Lib.hid cs4
  clear hs hx cs4 cf4
  have jc : (24 : Int) ≤ (c : Int) := by omega
  have jn : (24 : Int) ≤ (n : Int) := by omega
  have tl : decide ((n : Int) < 24) = false := by simp; omega
  have hne : gx ≠ g := by omega
  have hne' : ¬ gx = g := hne
  have hne2 : ¬ g = gx := fun h => hne h.symm
  generalize (xs.getD 0 0).toNat = a0 at *
  generalize (xs.getD 1 0).toNat = a1 at *
  generalize (xs.getD 2 0).toNat = a2 at *
  clear b3
  have hn24 : n = 24 := by rw [← hln]; exact h24
  have HLN := Lib.hid h24
  clear h24 hln
  subst hn24
  obtain ⟨AZ, cutZ, csZ, cfZ⟩ := cut_from g (o + 20) 4 (c - 20) 4 4 rfl (by omega) (by omega)
  have sl1 : ∀ w, (Instr.sliceAt 25 (.slice (some ⟨g, o, none⟩) 24 c) (some (.int .i64 1)) none none).run Tryz.prog w = .ok (.slice (some ⟨g, o + 1, none⟩) 23 (c - 1)) w := cut_at g o 23 (c - 1) 1 1 rfl 24 c rfl (by omega) (by omega) (by omega)
  have sl2 : ∀ w, (Instr.sliceAt 25 (.slice (some ⟨g, o + 1, none⟩) 23 (c - 1)) (some (.int .i64 1)) none none).run Tryz.prog w = .ok (.slice (some ⟨g, o + 2, none⟩) 22 (c - 2)) w := cut_at g (o + 1) 22 (c - 2) 1 1 rfl 23 (c - 1) rfl (by omega) (by omega) (by omega)
  have sl3 : ∀ w, (Instr.sliceAt 25 (.slice (some ⟨g, o + 2, none⟩) 22 (c - 2)) (some (.int .i64 1)) none none).run Tryz.prog w = .ok (.slice (some ⟨g, o + 3, none⟩) 21 (c - 3)) w := cut_at g (o + 2) 21 (c - 3) 1 1 rfl 22 (c - 2) rfl (by omega) (by omega) (by omega)
  have sl4 : ∀ w, (Instr.sliceAt 25 (.slice (some ⟨g, o + 3, none⟩) 21 (c - 3)) (some (.int .i64 1)) none none).run Tryz.prog w = .ok (.slice (some ⟨g, o + 4, none⟩) 20 (c - 4)) w := cut_at g (o + 3) 20 (c - 4) 1 1 rfl 21 (c - 3) rfl (by omega) (by omega) (by omega)
  have sl8 : ∀ w, (Instr.sliceAt 25 (.slice (some ⟨g, o + 4, none⟩) 20 (c - 4)) (some (.int .i64 4)) none none).run Tryz.prog w = .ok (.slice (some ⟨g, o + 8, none⟩) 16 (c - 8)) w := cut_at g (o + 4) 16 (c - 8) 4 4 rfl 20 (c - 4) rfl (by omega) (by omega) (by omega)
  have sl12 : ∀ w, (Instr.sliceAt 25 (.slice (some ⟨g, o + 8, none⟩) 16 (c - 8)) (some (.int .i64 4)) none none).run Tryz.prog w = .ok (.slice (some ⟨g, o + 12, none⟩) 12 (c - 12)) w := cut_at g (o + 8) 12 (c - 12) 4 4 rfl 16 (c - 8) rfl (by omega) (by omega) (by omega)
  have sl16 : ∀ w, (Instr.sliceAt 25 (.slice (some ⟨g, o + 12, none⟩) 12 (c - 12)) (some (.int .i64 4)) none none).run Tryz.prog w = .ok (.slice (some ⟨g, o + 16, none⟩) 8 (c - 16)) w := cut_at g (o + 12) 8 (c - 16) 4 4 rfl 12 (c - 12) rfl (by omega) (by omega) (by omega)
  have sl20 : ∀ w, (Instr.sliceAt 25 (.slice (some ⟨g, o + 16, none⟩) 8 (c - 16)) (some (.int .i64 4)) none none).run Tryz.prog w = .ok (.slice (some ⟨g, o + 20, none⟩) 4 (c - 20)) w := cut_at g (o + 16) 4 (c - 20) 4 4 rfl 8 (c - 16) rfl (by omega) (by omega) (by omega)
  have jq4 : (4 : Int) ≤ ((c - 4 : Nat) : Int) := by omega
  have jq8 : (4 : Int) ≤ ((c - 8 : Nat) : Int) := by omega
  have jq12 : (4 : Int) ≤ ((c - 12 : Nat) : Int) := by omega
  have jq16 : (4 : Int) ≤ ((c - 16 : Nat) : Int) := by omega
  have jq20 : (4 : Int) ≤ ((c - 20 : Nat) : Int) := by omega
  have d1 : ((a0 / 32 * 32 : Nat) : Int) / 32 = ((a0 / 32 : Nat) : Int) := by omega
  have d2 : ((a1 / 64 * 64 : Nat) : Int) / 64 = ((a1 / 64 : Nat) : Int) := by omega
  have q224 := m8_224 a0 (by omega)
  have q31 := m8_31 a0 (by omega)
  have q192 := m8_192 a1 (by omega)
  have q32 := m8_32 a1 (by omega)
  have q16 := m8_16 a1 (by omega)
  have q8 := m8_8 a1 (by omega)
  have q4 : bits .and .u8 (a1 : Int) 4 = 0 := by rw [m8_4 a1 (by omega), hz2]; rfl
  have q2 := m8_2 a1 (by omega)
  have q1 := m8_1 a1 (by omega)
  have v5 : (((a1 / 32 % 2 * 32 : Nat) : Int) != 0) = bt (a1 / 32 % 2) := bt_ne _ 32 (by decide) _ (by omega) (by omega)
  have v4 : (((a1 / 16 % 2 * 16 : Nat) : Int) != 0) = bt (a1 / 16 % 2) := bt_ne _ 16 (by decide) _ (by omega) (by omega)
  have v3 : (((a1 / 8 % 2 * 8 : Nat) : Int) != 0) = bt (a1 / 8 % 2) := bt_ne _ 8 (by decide) _ (by omega) (by omega)
  have v1 : (((a1 / 2 % 2 * 2 : Nat) : Int) != 0) = bt (a1 / 2 % 2) := bt_ne _ 2 (by decide) _ (by omega) (by omega)
  have v0 : (((a1 % 2 : Nat) : Int) != 0) = bt (a1 % 2) := bt_ne _ 1 (by decide) _ (by omega) (by omega)
  have HZ2 := Lib.hid hz2
  clear hz2
  rw [hN] at x3
  have HXB3 := Lib.hid x3
  have HNN := Lib.hid hN
  clear hN
  generalize a0 / 32 * 32 = t0 at *
  generalize a0 / 32 = m0 at *
  generalize a0 % 32 = m1 at *
  generalize a1 / 64 * 64 = t1 at *
  generalize a1 / 64 = m2 at *
  generalize a1 / 32 % 2 * 32 = t5 at *
  generalize a1 / 32 % 2 = r5 at *
  generalize a1 / 16 % 2 * 16 = t4 at *
  generalize a1 / 16 % 2 = r4 at *
  generalize a1 / 8 % 2 * 8 = t3 at *
  generalize a1 / 8 % 2 = r3 at *
  generalize a1 / 2 % 2 * 2 = t2 at *
  generalize a1 / 2 % 2 = r1 at *
  generalize a1 % 2 = r0 at *
  have hN4 : Lib.beNat ((xs.drop 4).take 4) < 4294967296 := beNat_take _ 4
  generalize hNN4 : Lib.beNat ((xs.drop 4).take 4) = N4 at *
  have HNN4 := Lib.hid hNN4
  clear hNN4
  have hN8 : Lib.beNat ((xs.drop 8).take 4) < 4294967296 := beNat_take _ 4
  generalize hNN8 : Lib.beNat ((xs.drop 8).take 4) = N8 at *
  have HNN8 := Lib.hid hNN8
  clear hNN8
  have hN12 : Lib.beNat ((xs.drop 12).take 4) < 4294967296 := beNat_take _ 4
  generalize hNN12 : Lib.beNat ((xs.drop 12).take 4) = N12 at *
  have HNN12 := Lib.hid hNN12
  clear hNN12
  have hN16 : Lib.beNat ((xs.drop 16).take 4) < 4294967296 := beNat_take _ 4
  generalize hNN16 : Lib.beNat ((xs.drop 16).take 4) = N16 at *
  have HNN16 := Lib.hid hNN16
  clear hNN16
  have hN20 : Lib.beNat ((xs.drop 20).take 4) < 4294967296 := beNat_take _ 4
  generalize hNN20 : Lib.beNat ((xs.drop 20).take 4) = N20 at *
  have HNN20 := Lib.hid hNN20
  clear hNN20
  go_enter Tryz.func108, Tryz.ntmps108
  have HBE0 := Lib.hid (Below.refl gx w)
  have HBX0 := HX
  have HSW0 := HS
  go_wp2_with fail
  obtain ⟨W1, hW⟩ : ∃ W, W = (((((((((((w.setCell ⟨gx, 0, none⟩ (.slice (some ⟨g, o, none⟩) 24 c)).setCell ⟨gx, 1, none⟩ (.slice none 0 0)).setCell ⟨gx, 2, none⟩ (.int .u8 m0)).setCell ⟨gx, 3, none⟩ (.int .u8 m1)).setCell ⟨gx, 4, none⟩ (.int .u8 m2)).setCell ⟨gx, 5, none⟩ (.bool (bt r5))).setCell ⟨gx, 6, none⟩ (.bool (bt r4))).setCell ⟨gx, 7, none⟩ (.bool (bt r3))).setCell ⟨gx, 8, none⟩ (.bool false)).setCell ⟨gx, 9, none⟩ (.bool (bt r1))).setCell ⟨gx, 10, none⟩ (.bool (bt r0))) := ⟨_, rfl⟩
  rw [← hW]
  have hbe : Below gx w W1 := by rw [hW]; exact ((((((((((((Below.refl gx w).setCell (p := ⟨gx, 0, none⟩) (Nat.le_refl _) _).setCell (p := ⟨gx, 1, none⟩) (Nat.le_refl _) _).setCell (p := ⟨gx, 2, none⟩) (Nat.le_refl _) _).setCell (p := ⟨gx, 3, none⟩) (Nat.le_refl _) _).setCell (p := ⟨gx, 4, none⟩) (Nat.le_refl _) _).setCell (p := ⟨gx, 5, none⟩) (Nat.le_refl _) _).setCell (p := ⟨gx, 6, none⟩) (Nat.le_refl _) _).setCell (p := ⟨gx, 7, none⟩) (Nat.le_refl _) _).setCell (p := ⟨gx, 8, none⟩) (Nat.le_refl _) _).setCell (p := ⟨gx, 9, none⟩) (Nat.le_refl _) _).setCell (p := ⟨gx, 10, none⟩) (Nat.le_refl _) _)
  have hbx : Bk W1 gx 134 [.slice (some ⟨g, o, none⟩) 24 c, .slice none 0 0, .int .u8 m0, .int .u8 m1, .int .u8 m2, .bool (bt r5), .bool (bt r4), .bool (bt r3), .bool false, .bool (bt r1), .bool (bt r0), .int .u8 0, .int .u32 0, .int .u32 0, .int .u32 0, .int .u32 0, .int .u32 0, .pointer none] := by rw [hW]; exact (((((((((((HBX0.out.set_ 0 _).set_ 1 _).set_ 2 _).set_ 3 _).set_ 4 _).set_ 5 _).set_ 6 _).set_ 7 _).set_ 8 _).set_ 9 _).set_ 10 _)
  have HBE1 := Lib.hid (HBE0.out.trans hbe)
  have HBX1 := Lib.hid hbx
  have HSW1 := Lib.hid (HS.out.below ((HBE0.out.trans hbe).mono hB))
  have hlw := hbx.lt
  clear hbe hW c0 f0 c1 f1 c2 f2 c3 f3 c4 f4 c5 f5 c6 f6 c7 f7 c8 f8 c9 f9 c10 f10 c11 f11 c12 f12 c13 f13 c14 f14 c15 f15 c16 f16 c17 f17
  clear hbx
  have c11 := HBX1.out.cell 11
  have f11 := HBX1.out.frozen 11
  simp only [List.getElem?_cons_zero, List.getElem?_cons_succ] at c11
  have x2 := (World.cell?_of_block (a := ⟨g, o + 2, none⟩) (HBE1.out.block g (by omega))).trans HXB2.out
  go_region_held3 (fun w' => w'.cell? ⟨g, o + 2, none⟩ = some (.int .u8 a2)) (go_keep) (fail)
  obtain ⟨W2, hW⟩ : ∃ W, W = (W1.setCell ⟨gx, 11, none⟩ (.int .u8 a2)).drew := ⟨_, rfl⟩
  rw [← hW]
  have hbe : Below gx W1 W2 := by rw [hW]; exact ((Below.refl gx W1).setCell (p := ⟨gx, 11, none⟩) (Nat.le_refl _) _).drew
  have hbx : Bk W2 gx 134 [.slice (some ⟨g, o, none⟩) 24 c, .slice none 0 0, .int .u8 m0, .int .u8 m1, .int .u8 m2, .bool (bt r5), .bool (bt r4), .bool (bt r3), .bool false, .bool (bt r1), .bool (bt r0), .int .u8 a2, .int .u32 0, .int .u32 0, .int .u32 0, .int .u32 0, .int .u32 0, .pointer none] := by rw [hW]; exact (HBX1.out.set_ 11 _).drew
  have HBE2 := Lib.hid (HBE1.out.trans hbe)
  have HBX2 := Lib.hid hbx
  have HSW2 := Lib.hid (HS.out.below ((HBE1.out.trans hbe).mono hB))
  have hlw := hbx.lt
  clear hW hbe hbx x2 c11 f11
  have x3 := (World.cell?_of_block (a := ⟨g, o + 3, none⟩) (HBE2.out.block g (by omega))).trans HXB3.out
  go_wp2_with fail
  go_region_held3 (fun w' => w'.cell? ⟨g, o + 3, none⟩ = some (.int .u8 24)) (go_keep) (fail)
  obtain ⟨W3, hW⟩ : ∃ W, W = W2.drew := ⟨_, rfl⟩
  rw [← hW]
  have hbe : Below gx W2 W3 := by rw [hW]; exact (Below.refl gx W2).drew
  have hbx : Bk W3 gx 134 [.slice (some ⟨g, o, none⟩) 24 c, .slice none 0 0, .int .u8 m0, .int .u8 m1, .int .u8 m2, .bool (bt r5), .bool (bt r4), .bool (bt r3), .bool false, .bool (bt r1), .bool (bt r0), .int .u8 a2, .int .u32 0, .int .u32 0, .int .u32 0, .int .u32 0, .int .u32 0, .pointer none] := by rw [hW]; exact HBX2.out.drew
  have HBE3 := Lib.hid (HBE2.out.trans hbe)
  have HBX3 := Lib.hid hbx
  have HSW3 := Lib.hid (HS.out.below ((HBE2.out.trans hbe).mono hB))
  have hlw := hbx.lt
  clear hW hbe hbx x3
  go_wp2_with fail
  go_region_held3 (fun w' => True) (trivial) ((go_at_call 106; (with_reducible refine (u32_at g o 24 4 4 _ B (o + 4) xs _ (HSW3.out.below (Below.refl _ _).drew) (by omega) (by omega) rfl).mono ?_); rintro e v4 ⟨rfl, hb1⟩; have hbx1 := HBX3.out.drew.below hb1 (by simpa using hlw); have f12 := hbx1.frozen 12; have c12 := hbx1.cell 12; simp only [List.getElem?_cons_zero, List.getElem?_cons_succ] at c12))
  rw [HNN4.out]
  obtain ⟨W4, hW⟩ : ∃ W, W = v4.setCell ⟨gx, 12, none⟩ (.int .u32 N4) := ⟨_, rfl⟩
  rw [← hW]
  have hbe : Below gx W3 W4 := by rw [hW]; exact (below_undrew (hb1.mono (by simpa using Nat.le_of_lt hlw))).setCell (p := ⟨gx, 12, none⟩) (Nat.le_refl _) _
  have hbx : Bk W4 gx 134 [.slice (some ⟨g, o, none⟩) 24 c, .slice none 0 0, .int .u8 m0, .int .u8 m1, .int .u8 m2, .bool (bt r5), .bool (bt r4), .bool (bt r3), .bool false, .bool (bt r1), .bool (bt r0), .int .u8 a2, .int .u32 N4, .int .u32 0, .int .u32 0, .int .u32 0, .int .u32 0, .pointer none] := by rw [hW]; exact hbx1.set_ 12 _
  have HBE4 := Lib.hid (HBE3.out.trans hbe)
  have HBX4 := Lib.hid hbx
  have HSW4 := Lib.hid (HS.out.below ((HBE3.out.trans hbe).mono hB))
  have hlw := hbx.lt
  clear hW hbe hbx hb1 hbx1 c12 f12
  go_wp2_with fail
  go_region_held3 (fun w' => True) (trivial) ((go_at_call 106; (with_reducible refine (u32_at g o 24 8 4 _ B (o + 8) xs _ (HSW4.out.below (Below.refl _ _).drew) (by omega) (by omega) rfl).mono ?_); rintro e v5 ⟨rfl, hb1⟩; have hbx1 := HBX4.out.drew.below hb1 (by simpa using hlw); have f13 := hbx1.frozen 13; have c13 := hbx1.cell 13; simp only [List.getElem?_cons_zero, List.getElem?_cons_succ] at c13))
  rw [HNN8.out]
  obtain ⟨W5, hW⟩ : ∃ W, W = v5.setCell ⟨gx, 13, none⟩ (.int .u32 N8) := ⟨_, rfl⟩
  rw [← hW]
  have hbe : Below gx W4 W5 := by rw [hW]; exact (below_undrew (hb1.mono (by simpa using Nat.le_of_lt hlw))).setCell (p := ⟨gx, 13, none⟩) (Nat.le_refl _) _
  have hbx : Bk W5 gx 134 [.slice (some ⟨g, o, none⟩) 24 c, .slice none 0 0, .int .u8 m0, .int .u8 m1, .int .u8 m2, .bool (bt r5), .bool (bt r4), .bool (bt r3), .bool false, .bool (bt r1), .bool (bt r0), .int .u8 a2, .int .u32 N4, .int .u32 N8, .int .u32 0, .int .u32 0, .int .u32 0, .pointer none] := by rw [hW]; exact hbx1.set_ 13 _
  have HBE5 := Lib.hid (HBE4.out.trans hbe)
  have HBX5 := Lib.hid hbx
  have HSW5 := Lib.hid (HS.out.below ((HBE4.out.trans hbe).mono hB))
  have hlw := hbx.lt
  clear hW hbe hbx hb1 hbx1 c13 f13
  go_wp2_with fail
  go_region_held3 (fun w' => True) (trivial) ((go_at_call 106; (with_reducible refine (u32_at g o 24 12 4 _ B (o + 12) xs _ (HSW5.out.below (Below.refl _ _).drew) (by omega) (by omega) rfl).mono ?_); rintro e v6 ⟨rfl, hb1⟩; have hbx1 := HBX5.out.drew.below hb1 (by simpa using hlw); have f14 := hbx1.frozen 14; have c14 := hbx1.cell 14; simp only [List.getElem?_cons_zero, List.getElem?_cons_succ] at c14))
  rw [HNN12.out]
  obtain ⟨W6, hW⟩ : ∃ W, W = v6.setCell ⟨gx, 14, none⟩ (.int .u32 N12) := ⟨_, rfl⟩
  rw [← hW]
  have hbe : Below gx W5 W6 := by rw [hW]; exact (below_undrew (hb1.mono (by simpa using Nat.le_of_lt hlw))).setCell (p := ⟨gx, 14, none⟩) (Nat.le_refl _) _
  have hbx : Bk W6 gx 134 [.slice (some ⟨g, o, none⟩) 24 c, .slice none 0 0, .int .u8 m0, .int .u8 m1, .int .u8 m2, .bool (bt r5), .bool (bt r4), .bool (bt r3), .bool false, .bool (bt r1), .bool (bt r0), .int .u8 a2, .int .u32 N4, .int .u32 N8, .int .u32 N12, .int .u32 0, .int .u32 0, .pointer none] := by rw [hW]; exact hbx1.set_ 14 _
  have HBE6 := Lib.hid (HBE5.out.trans hbe)
  have HBX6 := Lib.hid hbx
  have HSW6 := Lib.hid (HS.out.below ((HBE5.out.trans hbe).mono hB))
  have hlw := hbx.lt
  clear hW hbe hbx hb1 hbx1 c14 f14
  go_wp2_with fail
  go_region_held3 (fun w' => True) (trivial) ((go_at_call 106; (with_reducible refine (u32_at g o 24 16 4 _ B (o + 16) xs _ (HSW6.out.below (Below.refl _ _).drew) (by omega) (by omega) rfl).mono ?_); rintro e v7 ⟨rfl, hb1⟩; have hbx1 := HBX6.out.drew.below hb1 (by simpa using hlw); have f15 := hbx1.frozen 15; have c15 := hbx1.cell 15; simp only [List.getElem?_cons_zero, List.getElem?_cons_succ] at c15))
  rw [HNN16.out]
  obtain ⟨W7, hW⟩ : ∃ W, W = v7.setCell ⟨gx, 15, none⟩ (.int .u32 N16) := ⟨_, rfl⟩
  rw [← hW]
  have hbe : Below gx W6 W7 := by rw [hW]; exact (below_undrew (hb1.mono (by simpa using Nat.le_of_lt hlw))).setCell (p := ⟨gx, 15, none⟩) (Nat.le_refl _) _
  have hbx : Bk W7 gx 134 [.slice (some ⟨g, o, none⟩) 24 c, .slice none 0 0, .int .u8 m0, .int .u8 m1, .int .u8 m2, .bool (bt r5), .bool (bt r4), .bool (bt r3), .bool false, .bool (bt r1), .bool (bt r0), .int .u8 a2, .int .u32 N4, .int .u32 N8, .int .u32 N12, .int .u32 N16, .int .u32 0, .pointer none] := by rw [hW]; exact hbx1.set_ 15 _
  have HBE7 := Lib.hid (HBE6.out.trans hbe)
  have HBX7 := Lib.hid hbx
  have HSW7 := Lib.hid (HS.out.below ((HBE6.out.trans hbe).mono hB))
  have hlw := hbx.lt
  clear hW hbe hbx hb1 hbx1 c15 f15
  go_wp2_with fail
  go_region_held3 (fun w' => True) (trivial) ((go_at_call 106; (with_reducible refine (u32_at g o 24 20 4 _ B (o + 20) xs _ (HSW7.out.below (Below.refl _ _).drew) (by omega) (by omega) rfl).mono ?_); rintro e v8 ⟨rfl, hb1⟩; have hbx1 := HBX7.out.drew.below hb1 (by simpa using hlw); have f16 := hbx1.frozen 16; have c16 := hbx1.cell 16; simp only [List.getElem?_cons_zero, List.getElem?_cons_succ] at c16))
  rw [HNN20.out]
  obtain ⟨W8, hW⟩ : ∃ W, W = v8.setCell ⟨gx, 16, none⟩ (.int .u32 N20) := ⟨_, rfl⟩
  rw [← hW]
  have hbe : Below gx W7 W8 := by rw [hW]; exact (below_undrew (hb1.mono (by simpa using Nat.le_of_lt hlw))).setCell (p := ⟨gx, 16, none⟩) (Nat.le_refl _) _
  have hbx : Bk W8 gx 134 [.slice (some ⟨g, o, none⟩) 24 c, .slice none 0 0, .int .u8 m0, .int .u8 m1, .int .u8 m2, .bool (bt r5), .bool (bt r4), .bool (bt r3), .bool false, .bool (bt r1), .bool (bt r0), .int .u8 a2, .int .u32 N4, .int .u32 N8, .int .u32 N12, .int .u32 N16, .int .u32 N20, .pointer none] := by rw [hW]; exact hbx1.set_ 16 _
  have HBE8 := Lib.hid (HBE7.out.trans hbe)
  have HBX8 := Lib.hid hbx
  have HSW8 := Lib.hid (HS.out.below ((HBE7.out.trans hbe).mono hB))
  have hlw := hbx.lt
  clear hW hbe hbx hb1 hbx1 c16 f16
  have c8 := HBX8.out.cell 8
  have f8 := HBX8.out.frozen 8
  simp only [List.getElem?_cons_zero, List.getElem?_cons_succ] at c8
  go_wp2_with fail
  exact hR.out _ _ ⟨_, _, _, _, rfl, HBE8.out, HBX8.out, Sl.none_ _ _ _, rfl⟩
set_option maxRecDepth 1000000 in
set_option maxHeartbeats 10000000 in
theorem dec_bfd (xs : List UInt8) (h24 : xs.length = 24) (hN : (xs.getD 3 0).toNat = 24) (hz2 : (xs.getD 1 0).toNat / 4 % 2 = 0) (h4 : 24 ≤ xs.length) (hn : xs.length ≤ 1000) : Decs 93 125 134 xs [] (Fld.just [.int .u8 ((xs.getD 0 0).toNat / 32 : Nat), .int .u8 ((xs.getD 0 0).toNat % 32 : Nat), .int .u8 ((xs.getD 1 0).toNat / 64 : Nat), .bool (bt ((xs.getD 1 0).toNat / 32 % 2)), .bool (bt ((xs.getD 1 0).toNat / 16 % 2)), .bool (bt ((xs.getD 1 0).toNat / 8 % 2)), .bool false, .bool (bt ((xs.getD 1 0).toNat / 2 % 2)), .bool (bt ((xs.getD 1 0).toNat % 2)), .int .u8 (xs.getD 2 0).toNat, .int .u32 (Lib.beNat ((xs.drop 4).take 4) : Nat), .int .u32 (Lib.beNat ((xs.drop 8).take 4) : Nat), .int .u32 (Lib.beNat ((xs.drop 12).take 4) : Nat), .int .u32 (Lib.beNat ((xs.drop 16).take 4) : Nat), .int .u32 (Lib.beNat ((xs.drop 20).take 4) : Nat), .pointer none]) := by
  intro gk u A n c w hk hs hnc
  refine calls_hid fun R hR => ?_
  have hl : xs.length = n := by rw [← bcs_length]; exact hs.1
  rw [hl] at h4 hn
  obtain ⟨g, o, rfl, hg, _⟩ := hs.2 (by omega)
  have hlt := hk.lt
  have HS := Lib.hid hs
  have HK := Lib.hid hk
  clear hs hk
  obtain ⟨W, hW⟩ : ∃ W, W = w.alloc (.cells #[.slice none 0 0, .slice none 0 0, .int .u8 0, .int .u8 0, .int .u8 0, .bool false, .bool false, .bool false, .bool false, .bool false, .bool false, .int .u8 0, .int .u32 0, .int .u32 0, .int .u32 0, .int .u32 0, .int .u32 0, .pointer none] 134) := ⟨_, rfl⟩
  have hx : Bk W w.heap.size 134 [.slice none 0 0, .slice none 0 0, .int .u8 0, .int .u8 0, .int .u8 0, .bool false, .bool false, .bool false, .bool false, .bool false, .bool false, .int .u8 0, .int .u32 0, .int .u32 0, .int .u32 0, .int .u32 0, .int .u32 0, .pointer none] := by rw [hW]; exact Bk.new _ _ _
  have hbe0 : Below w.heap.size w W := by rw [hW]; exact (Below.refl _ _).alloc (Nat.le_refl _) _
  have HBE := Lib.hid hbe0
  have hD := dfb_bfd xs h24 hN hz2 g o n c gk w.heap.size (.iface 234 (.pointer (some ⟨gk, 0, none⟩))) W ((HS.out.below (hbe0.mono (Nat.le_of_lt hlt)))) (Nat.le_of_lt hlt) h4 hnc hn hx
  have HD := Lib.hid hD
  have HW := Lib.hid hW
  have HKW := Lib.hid (HK.out.below hbe0 hlt)
  clear hD hW hx hbe0
  go_enter Tryz.func93, Tryz.ntmps93
  go_wp2_with fail
  rw [← HW.out]
  refine HD.out.mono ?_
  rintro e w1 ⟨Cv, Ap, cp, fs, rfl, hb1, h3, h4', h5⟩
  have hk1 := HKW.out.below hb1 hlt
  have HK1 := Lib.hid hk1
  have HB1 := Lib.hid (HBE.out.trans hb1)
  have H3 := Lib.hid h3
  have H4 := Lib.hid h4'
  have H5 := Lib.hid h5
  clear hk1 hb1 h3 h4' h5
  go_wp2_with fail
  refine (addlayer gk u _ 125 w1 HK1.out).mono ?_
  rintro e w2 ⟨rfl, rfl⟩
  go_wp2_with fail
  have hset : Below gk w1 (w1.setCell ⟨gk, 0, none⟩ (.iface 125 (.pointer (some ⟨w.heap.size, 0, none⟩)))) := (Below.refl _ _).setCell (p := ⟨gk, 0, none⟩) (Nat.le_refl _) _
  refine hR.out _ _ ⟨w.heap.size, Cv, Ap, cp, fs, rfl, Nat.le_refl _, HK1.out.set_ 0 _, H3.out.far (p := ⟨gk, 0, none⟩) (by simp; omega) _, H4.out.below hset, Fld.keep _ _ _ _ _ H5.out hset, ?_⟩
  refine only_set ?_ (.inl rfl) _
  exact grown_of_below HB1.out _
end Go.Proofs.YtphmklgbbpiafaaGreat
