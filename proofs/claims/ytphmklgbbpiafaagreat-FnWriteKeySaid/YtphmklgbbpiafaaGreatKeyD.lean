/-
  Key: what its decoder hands on. No condition.
-/
import Derived.Deep.RegionHeld3
import Derived.Test.YtphmklgbbpiafaaGreatDldA
import Derived.Test.YtphmklgbbpiafaaGreatMskB
import Derived.Test.YtphmklgbbpiafaaGreatFldA
import Derived.Test.YtphmklgbbpiafaaGreatCutE
namespace Go.Proofs.YtphmklgbbpiafaaGreat
open Go Go.RowKit
set_option linter.unusedVariables false
attribute [local go_sem] sd_drewN ad_drewN
set_option maxRecDepth 1000000 in
set_option maxHeartbeats 40000000 in
/-- What DecodeFromBytes does to the layer in block gx. -/
theorem dfb_key_enc (xs : List UInt8) (h12 : Lib.beNat ((xs.drop 1).take 2) / 4096 % 2 = 1) (hd : Lib.beNat ((xs.drop 93).take 2) ≤ xs.length - 95)  (g o n c B gx : Nat) (df : Value) (w : World) (hs : Sl w B (some ⟨g, o, none⟩) n (bcs xs)) (hB : B ≤ gx) (h4 : 95 ≤ n) (hnc : n ≤ c) (hn : n ≤ 1000)
    (hx : Bk w gx 105 [.slice none 0 0, .slice none 0 0, .int .u8 0, .int .u8 0, .int .u8 0, .int .u8 0, .bool false, .bool false, .bool false, .bool false, .bool false, .bool false, .bool false, .bool false, .int .u16 0, .int .u64 0, .slice none 0 0, .slice none 0 0, .int .u64 0, .int .u64 0, .slice none 0 0, .int .u16 0, .slice none 0 0]) :
    Calls Tryz.prog 149 #[.pointer (some ⟨gx, 0, none⟩), .slice (some ⟨g, o, none⟩) n c, df] w (Dfbs B gx 105 (xs.drop (95 + Lib.beNat ((xs.drop 93).take 2))) (Fld.dat4 (fun Q0 q0 Q1 q1 Q2 q2 Q3 q3 => [.int .u8 (xs.getD 0 0).toNat, .int .u8 (Lib.beNat ((xs.drop 1).take 2) % 8 : Nat), .int .u8 (Lib.beNat ((xs.drop 1).take 2) / 8 % 2 : Nat), .int .u8 (Lib.beNat ((xs.drop 1).take 2) / 16 % 4 : Nat), .bool (bt (Lib.beNat ((xs.drop 1).take 2) / 64 % 2)), .bool (bt (Lib.beNat ((xs.drop 1).take 2) / 128 % 2)), .bool (bt (Lib.beNat ((xs.drop 1).take 2) / 256 % 2)), .bool (bt (Lib.beNat ((xs.drop 1).take 2) / 512 % 2)), .bool (bt (Lib.beNat ((xs.drop 1).take 2) / 1024 % 2)), .bool (bt (Lib.beNat ((xs.drop 1).take 2) / 2048 % 2)), .bool (bt (Lib.beNat ((xs.drop 1).take 2) / 4096 % 2)), .bool (bt (Lib.beNat ((xs.drop 1).take 2) / 8192 % 2)), .int .u16 (Lib.beNat ((xs.drop 3).take 2) : Nat), .int .u64 (Lib.beNat ((xs.drop 5).take 8) : Nat), .slice Q0 ((xs.drop 13).take 32).length q0, .slice Q1 ((xs.drop 45).take 16).length q1, .int .u64 (Lib.beNat ((xs.drop 61).take 8) : Nat), .int .u64 (Lib.beNat ((xs.drop 69).take 8) : Nat), .slice Q2 ((xs.drop 77).take 16).length q2, .int .u16 (Lib.beNat ((xs.drop 93).take 2) : Nat), .slice Q3 ((xs.drop 95).take (Lib.beNat ((xs.drop 93).take 2)) : List UInt8).length q3]) ((xs.drop 13).take 32) ((xs.drop 45).take 16) ((xs.drop 77).take 16) ((xs.drop 95).take (Lib.beNat ((xs.drop 93).take 2)))) w) := by
  refine calls_hid fun R hR => ?_
  unfold Dfbs at hR
  have hln : xs.length = n := by rw [← bcs_length]; exact hs.1
  rw [hln] at hd
  obtain ⟨hg, _⟩ := hs.at_ (by omega)
  obtain ⟨A4, cut4, cs4, cf4⟩ := cut_from g o n c 95 95 rfl (by omega) hnc
  have hlt := hx.lt
  have b0 := (xs.getD 0 0).toNat_lt
  have x0 : w.cell? ⟨g, o, none⟩ = some (.int .u8 (xs.getD 0 0).toNat) := hs.byte (k := 0) (by omega)
  have HXB0 := Lib.hid x0
  have j0 : 0 < n := by omega
  have i0 : (0 : Int) < (n : Int) := by omega
  have c0 := hx.cell 0
  have c1 := hx.cell 1
  have c2 := hx.cell 2
  have c3 := hx.cell 3
  have c4 := hx.cell 4
  have c5 := hx.cell 5
  have c6 := hx.cell 6
  have c7 := hx.cell 7
  have c8 := hx.cell 8
  have c9 := hx.cell 9
  have c10 := hx.cell 10
  have c11 := hx.cell 11
  have c12 := hx.cell 12
  have c13 := hx.cell 13
  have c14 := hx.cell 14
  have c15 := hx.cell 15
  have c16 := hx.cell 16
  have c17 := hx.cell 17
  have c18 := hx.cell 18
  have c19 := hx.cell 19
  have c20 := hx.cell 20
  have c21 := hx.cell 21
  have c22 := hx.cell 22
  simp only [List.getElem?_cons_zero, List.getElem?_cons_succ] at c0 c1 c2 c3 c4 c5 c6 c7 c8 c9 c10 c11 c12 c13 c14 c15 c16 c17 c18 c19 c20 c21 c22
  have f0 := hx.frozen 0
  have f1 := hx.frozen 1
  have f2 := hx.frozen 2
  have f3 := hx.frozen 3
  have f4 := hx.frozen 4
  have f5 := hx.frozen 5
  have f6 := hx.frozen 6
  have f7 := hx.frozen 7
  have f8 := hx.frozen 8
  have f9 := hx.frozen 9
  have f10 := hx.frozen 10
  have f11 := hx.frozen 11
  have f12 := hx.frozen 12
  have f13 := hx.frozen 13
  have f14 := hx.frozen 14
  have f15 := hx.frozen 15
  have f16 := hx.frozen 16
  have f17 := hx.frozen 17
  have f18 := hx.frozen 18
  have f19 := hx.frozen 19
  have f20 := hx.frozen 20
  have f21 := hx.frozen 21
  have f22 := hx.frozen 22
  have HS := Lib.hid hs
  have HX := Lib.hid hx
  have HC4 := Lib.hid cs4
  clear hs hx cs4 cf4
  have jc : (95 : Int) ≤ (c : Int) := by omega
  have jn : (95 : Int) ≤ (n : Int) := by omega
  have tl : decide ((n : Int) < 95) = false := by simp; omega
  have hne : gx ≠ g := by omega
  have hne' : ¬ gx = g := hne
  have hne2 : ¬ g = gx := fun h => hne h.symm
  generalize (xs.getD 0 0).toNat = a0 at *
  have HLN := Lib.hid hln
  clear hln
  have hN1 : Lib.beNat ((xs.drop 1).take 2) < 65536 := beNat_take _ 2
  generalize hNN1 : Lib.beNat ((xs.drop 1).take 2) = N1 at *
  have HNN1 := Lib.hid hNN1
  clear hNN1
  have hN3 : Lib.beNat ((xs.drop 3).take 2) < 65536 := beNat_take _ 2
  generalize hNN3 : Lib.beNat ((xs.drop 3).take 2) = N3 at *
  have HNN3 := Lib.hid hNN3
  clear hNN3
  have hN5 : Lib.beNat ((xs.drop 5).take 8) < 18446744073709551616 := beNat_take _ 8
  generalize hNN5 : Lib.beNat ((xs.drop 5).take 8) = N5 at *
  have HNN5 := Lib.hid hNN5
  clear hNN5
  have hN61 : Lib.beNat ((xs.drop 61).take 8) < 18446744073709551616 := beNat_take _ 8
  generalize hNN61 : Lib.beNat ((xs.drop 61).take 8) = N61 at *
  have HNN61 := Lib.hid hNN61
  clear hNN61
  have hN69 : Lib.beNat ((xs.drop 69).take 8) < 18446744073709551616 := beNat_take _ 8
  generalize hNN69 : Lib.beNat ((xs.drop 69).take 8) = N69 at *
  have HNN69 := Lib.hid hNN69
  clear hNN69
  have hN93 : Lib.beNat ((xs.drop 93).take 2) < 65536 := beNat_take _ 2
  generalize hNN93 : Lib.beNat ((xs.drop 93).take 2) = N93 at *
  have HNN93 := Lib.hid hNN93
  clear hNN93
  have kz13 : ¬ (c : Int) = 13 := by omega
  have ky13 : ¬ c = 13 := by omega
  have kz45 : ¬ (c : Int) = 45 := by omega
  have ky45 : ¬ c = 45 := by omega
  have kz77 : ¬ (c : Int) = 77 := by omega
  have ky77 : ¬ c = 77 := by omega
  have kc45 : (45 : Int) ≤ (c : Int) := by omega
  have kc61 : (61 : Int) ≤ (c : Int) := by omega
  have kc93 : (93 : Int) ≤ (c : Int) := by omega
  have kc95 : (95 : Int) ≤ (c : Int) := by omega
  have g3 : bits .and .u16 (N1 : Int) 7 = ((N1 % 8 : Nat) : Int) := by
    have h := m16_mask 0 3 7 (by omega) (by decide) N1 (by omega)
    simp only [Nat.pow_zero, Nat.div_one, Nat.mul_one, Nat.reducePow] at h
    exact h
  have g1 : bits .and .u16 (N1 : Int) 8 = ((N1 / 8 % 2 * 8 : Nat) : Int) := m16_mask 3 1 8 (by omega) (by decide) N1 (by omega)
  have g2 : bits .and .u16 (N1 : Int) 48 = ((N1 / 16 % 4 * 16 : Nat) : Int) := m16_mask 4 2 48 (by omega) (by decide) N1 (by omega)
  have e1 : ((N1 / 8 % 2 * 8 : Nat) : Int) / 8 = ((N1 / 8 % 2 : Nat) : Int) := by omega
  have e2 : ((N1 / 16 % 4 * 16 : Nat) : Int) / 16 = ((N1 / 16 % 4 : Nat) : Int) := by omega
  have p3 : N1 % 8 < 8 := by omega
  have p1 : N1 / 8 % 2 < 2 := by omega
  have p2 : N1 / 16 % 4 < 4 := by omega
  have y64 : bits .and .u16 (N1 : Int) 64 = ((N1 / 64 % 2 * 64 : Nat) : Int) := m16_mask 6 1 64 (by omega) (by decide) N1 (by omega)
  have l64 : N1 / 64 % 2 < 2 := by omega
  have v64 : (((N1 / 64 % 2 * 64 : Nat) : Int) != 0) = bt (N1 / 64 % 2) := bt_ne _ 64 (by decide) _ l64 (by omega)
  have y128 : bits .and .u16 (N1 : Int) 128 = ((N1 / 128 % 2 * 128 : Nat) : Int) := m16_mask 7 1 128 (by omega) (by decide) N1 (by omega)
  have l128 : N1 / 128 % 2 < 2 := by omega
  have v128 : (((N1 / 128 % 2 * 128 : Nat) : Int) != 0) = bt (N1 / 128 % 2) := bt_ne _ 128 (by decide) _ l128 (by omega)
  have y256 : bits .and .u16 (N1 : Int) 256 = ((N1 / 256 % 2 * 256 : Nat) : Int) := m16_mask 8 1 256 (by omega) (by decide) N1 (by omega)
  have l256 : N1 / 256 % 2 < 2 := by omega
  have v256 : (((N1 / 256 % 2 * 256 : Nat) : Int) != 0) = bt (N1 / 256 % 2) := bt_ne _ 256 (by decide) _ l256 (by omega)
  have y512 : bits .and .u16 (N1 : Int) 512 = ((N1 / 512 % 2 * 512 : Nat) : Int) := m16_mask 9 1 512 (by omega) (by decide) N1 (by omega)
  have l512 : N1 / 512 % 2 < 2 := by omega
  have v512 : (((N1 / 512 % 2 * 512 : Nat) : Int) != 0) = bt (N1 / 512 % 2) := bt_ne _ 512 (by decide) _ l512 (by omega)
  have y1024 : bits .and .u16 (N1 : Int) 1024 = ((N1 / 1024 % 2 * 1024 : Nat) : Int) := m16_mask 10 1 1024 (by omega) (by decide) N1 (by omega)
  have l1024 : N1 / 1024 % 2 < 2 := by omega
  have v1024 : (((N1 / 1024 % 2 * 1024 : Nat) : Int) != 0) = bt (N1 / 1024 % 2) := bt_ne _ 1024 (by decide) _ l1024 (by omega)
  have y2048 : bits .and .u16 (N1 : Int) 2048 = ((N1 / 2048 % 2 * 2048 : Nat) : Int) := m16_mask 11 1 2048 (by omega) (by decide) N1 (by omega)
  have l2048 : N1 / 2048 % 2 < 2 := by omega
  have v2048 : (((N1 / 2048 % 2 * 2048 : Nat) : Int) != 0) = bt (N1 / 2048 % 2) := bt_ne _ 2048 (by decide) _ l2048 (by omega)
  have y4096 : bits .and .u16 (N1 : Int) 4096 = ((N1 / 4096 % 2 * 4096 : Nat) : Int) := m16_mask 12 1 4096 (by omega) (by decide) N1 (by omega)
  have l4096 : N1 / 4096 % 2 < 2 := by omega
  have v4096 : (((N1 / 4096 % 2 * 4096 : Nat) : Int) != 0) = bt (N1 / 4096 % 2) := bt_ne _ 4096 (by decide) _ l4096 (by omega)
  have y8192 : bits .and .u16 (N1 : Int) 8192 = ((N1 / 8192 % 2 * 8192 : Nat) : Int) := m16_mask 13 1 8192 (by omega) (by decide) N1 (by omega)
  have l8192 : N1 / 8192 % 2 < 2 := by omega
  have v8192 : (((N1 / 8192 % 2 * 8192 : Nat) : Int) != 0) = bt (N1 / 8192 % 2) := bt_ne _ 8192 (by decide) _ l8192 (by omega)
  have H12 := Lib.hid h12
  clear h12
  generalize N1 / 8 % 2 * 8 = t1 at *
  generalize N1 / 16 % 4 * 16 = t2 at *
  generalize N1 % 8 = m1 at *
  generalize N1 / 8 % 2 = m2 at *
  generalize N1 / 16 % 4 = m3 at *
  generalize N1 / 64 % 2 * 64 = t64 at *
  generalize N1 / 64 % 2 = r4 at *
  generalize N1 / 128 % 2 * 128 = t128 at *
  generalize N1 / 128 % 2 = r5 at *
  generalize N1 / 256 % 2 * 256 = t256 at *
  generalize N1 / 256 % 2 = r6 at *
  generalize N1 / 512 % 2 * 512 = t512 at *
  generalize N1 / 512 % 2 = r7 at *
  generalize N1 / 1024 % 2 * 1024 = t1024 at *
  generalize N1 / 1024 % 2 = r8 at *
  generalize N1 / 2048 % 2 * 2048 = t2048 at *
  generalize N1 / 2048 % 2 = r9 at *
  generalize N1 / 4096 % 2 * 4096 = t4096 at *
  generalize N1 / 4096 % 2 = r10 at *
  generalize N1 / 8192 % 2 * 8192 = t8192 at *
  generalize N1 / 8192 % 2 = r11 at *
  have wm1 : IntKind.u8.wrap (m1 : Int) = m1 := by rw [u8w]; omega
  have xm1 : (m1 : Int) % 256 = m1 := by omega
  have wm2 : IntKind.u8.wrap (m2 : Int) = m2 := by rw [u8w]; omega
  have xm2 : (m2 : Int) % 256 = m2 := by omega
  have wm3 : IntKind.u8.wrap (m3 : Int) = m3 := by rw [u8w]; omega
  have xm3 : (m3 : Int) % 256 = m3 := by omega
  have vN : IntKind.i64.wrap (N93 : Int) = N93 := IntWalk.i64_in _ (by omega)
  have v95 : IntKind.i64.wrap (95 + (N93 : Int)) = 95 + N93 := IntWalk.i64_in _ (by omega)
  have tn : decide ((n : Int) < 95 + (N93 : Int)) = false := by rw [decide_eq_false_iff_not]; omega
  obtain ⟨A95, cut95, cs95, cf95⟩ := cut_mid g o n c 95 (95 + N93) .i64 .i64 95 (95 + (N93 : Int)) rfl (by omega) (by omega) (by omega)
  rw [Nat.add_sub_cancel_left] at cut95
  have HC95 := Lib.hid cs95
  obtain ⟨AT, cutT, csT, cfT⟩ := cut_from g o n c (95 + N93) (95 + (N93 : Int)) (by omega) (by omega) hnc
  have HCT := Lib.hid csT
  clear cs95 cf95 csT cfT
  have kcN : (95 : Int) + (N93 : Int) ≤ (c : Int) := by omega
  have kc0 : (0 : Int) ≤ 95 + (N93 : Int) := by omega
  have ktN : (95 + (N93 : Int)).toNat = 95 + N93 := by omega
  have hdN := hd
  have HR10 : Hid (bt r10 = true) := Lib.hid (by rw [H12.out]; rfl)
  go_enter Tryz.func149, Tryz.ntmps149
  have HBE0 := Lib.hid (Below.refl gx w)
  have HBX0 := HX
  have HSW0 := HS
  go_wp2_with fail
  obtain ⟨W1, hW⟩ : ∃ W, W = (w.setCell ⟨gx, 2, none⟩ (.int .u8 a0)) := ⟨_, rfl⟩
  rw [← hW]
  have hbe : Below gx w W1 := by rw [hW]; exact ((Below.refl gx w).setCell (p := ⟨gx, 2, none⟩) (Nat.le_refl _) _)
  have hbx : Bk W1 gx 105 [.slice none 0 0, .slice none 0 0, .int .u8 a0, .int .u8 0, .int .u8 0, .int .u8 0, .bool false, .bool false, .bool false, .bool false, .bool false, .bool false, .bool false, .bool false, .int .u16 0, .int .u64 0, .slice none 0 0, .slice none 0 0, .int .u64 0, .int .u64 0, .slice none 0 0, .int .u16 0, .slice none 0 0] := by rw [hW]; exact (HBX0.out.set_ 2 _)
  have HBE1 := Lib.hid (HBE0.out.trans hbe)
  have HBX1 := Lib.hid hbx
  have HSW1 := Lib.hid (HS.out.below ((HBE0.out.trans hbe).mono hB))
  have hlw := hbx.lt
  clear hbe hW c0 f0 c1 f1 c2 f2 c3 f3 c4 f4 c5 f5 c6 f6 c7 f7 c8 f8 c9 f9 c10 f10 c11 f11 c12 f12 c13 f13 c14 f14 c15 f15 c16 f16 c17 f17 c18 f18 c19 f19 c20 f20 c21 f21 c22 f22
  clear hbx
  go_wp2_with fail
  have jl2 : (3 : Int) ≤ (c : Int) := by omega
  have jz2 : ¬ (c : Int) = 1 := by omega
  have jy2 : ¬ c = 1 := by omega
  go_region_held3 (fun w' => True) (trivial) ((go_at_call 100; (with_reducible refine (u16_at g o n 1 2 _ B (o + 1) xs _ (HSW1.out.below (Below.refl _ _).drew) (by omega) (by omega) rfl).mono ?_); rintro e v2 ⟨rfl, hb1⟩; have hbx1 := HBX1.out.drew.below hb1 (by simpa using hlw)))
  first | rw [HNN1.out] | rw [← List.drop_one, HNN1.out]
  obtain ⟨W2, hW⟩ : ∃ W, W = v2 := ⟨_, rfl⟩
  rw [← hW]
  have hbe : Below gx W1 W2 := by rw [hW]; exact below_undrew (hb1.mono (by simpa using Nat.le_of_lt hlw))
  have hbx : Bk W2 gx 105 [.slice none 0 0, .slice none 0 0, .int .u8 a0, .int .u8 0, .int .u8 0, .int .u8 0, .bool false, .bool false, .bool false, .bool false, .bool false, .bool false, .bool false, .bool false, .int .u16 0, .int .u64 0, .slice none 0 0, .slice none 0 0, .int .u64 0, .int .u64 0, .slice none 0 0, .int .u16 0, .slice none 0 0] := by rw [hW]; exact hbx1
  have HBE2 := Lib.hid (HBE1.out.trans hbe)
  have HBX2 := Lib.hid hbx
  have HSW2 := Lib.hid (HS.out.below ((HBE1.out.trans hbe).mono hB))
  have hlw := hbx.lt
  clear hbe hW hb1 hbx1
  have c3 := hbx.cell 3
  have f3 := hbx.frozen 3
  have c4 := hbx.cell 4
  have f4 := hbx.frozen 4
  have c5 := hbx.cell 5
  have f5 := hbx.frozen 5
  have c6 := hbx.cell 6
  have f6 := hbx.frozen 6
  have c7 := hbx.cell 7
  have f7 := hbx.frozen 7
  have c8 := hbx.cell 8
  have f8 := hbx.frozen 8
  have c9 := hbx.cell 9
  have f9 := hbx.frozen 9
  have c10 := hbx.cell 10
  have f10 := hbx.frozen 10
  have c11 := hbx.cell 11
  have f11 := hbx.frozen 11
  have c12 := hbx.cell 12
  have f12 := hbx.frozen 12
  have c13 := hbx.cell 13
  have f13 := hbx.frozen 13
  simp only [List.getElem?_cons_zero, List.getElem?_cons_succ] at c3 c4 c5 c6 c7 c8 c9 c10 c11 c12 c13
  have x0 := (World.cell?_of_block (a := ⟨g, o, none⟩) (HBE2.out.block g (by omega))).trans HXB0.out
  clear hbx
  go_wp2_with fail
  obtain ⟨W3, hW⟩ : ∃ W, W = (((((((((((W2.setCell ⟨gx, 3, none⟩ (.int .u8 m1)).setCell ⟨gx, 4, none⟩ (.int .u8 m2)).setCell ⟨gx, 5, none⟩ (.int .u8 m3)).setCell ⟨gx, 6, none⟩ (.bool (bt r4))).setCell ⟨gx, 7, none⟩ (.bool (bt r5))).setCell ⟨gx, 8, none⟩ (.bool (bt r6))).setCell ⟨gx, 9, none⟩ (.bool (bt r7))).setCell ⟨gx, 10, none⟩ (.bool (bt r8))).setCell ⟨gx, 11, none⟩ (.bool (bt r9))).setCell ⟨gx, 12, none⟩ (.bool (bt r10))).setCell ⟨gx, 13, none⟩ (.bool (bt r11))) := ⟨_, rfl⟩
  rw [← hW]
  have hbe : Below gx W2 W3 := by rw [hW]; exact ((((((((((((Below.refl gx W2).setCell (p := ⟨gx, 3, none⟩) (Nat.le_refl _) _).setCell (p := ⟨gx, 4, none⟩) (Nat.le_refl _) _).setCell (p := ⟨gx, 5, none⟩) (Nat.le_refl _) _).setCell (p := ⟨gx, 6, none⟩) (Nat.le_refl _) _).setCell (p := ⟨gx, 7, none⟩) (Nat.le_refl _) _).setCell (p := ⟨gx, 8, none⟩) (Nat.le_refl _) _).setCell (p := ⟨gx, 9, none⟩) (Nat.le_refl _) _).setCell (p := ⟨gx, 10, none⟩) (Nat.le_refl _) _).setCell (p := ⟨gx, 11, none⟩) (Nat.le_refl _) _).setCell (p := ⟨gx, 12, none⟩) (Nat.le_refl _) _).setCell (p := ⟨gx, 13, none⟩) (Nat.le_refl _) _)
  have hbx : Bk W3 gx 105 [.slice none 0 0, .slice none 0 0, .int .u8 a0, .int .u8 m1, .int .u8 m2, .int .u8 m3, .bool (bt r4), .bool (bt r5), .bool (bt r6), .bool (bt r7), .bool (bt r8), .bool (bt r9), .bool (bt r10), .bool (bt r11), .int .u16 0, .int .u64 0, .slice none 0 0, .slice none 0 0, .int .u64 0, .int .u64 0, .slice none 0 0, .int .u16 0, .slice none 0 0] := by rw [hW]; exact (((((((((((HBX2.out.set_ 3 _).set_ 4 _).set_ 5 _).set_ 6 _).set_ 7 _).set_ 8 _).set_ 9 _).set_ 10 _).set_ 11 _).set_ 12 _).set_ 13 _)
  have HBE3 := Lib.hid (HBE2.out.trans hbe)
  have HBX3 := Lib.hid hbx
  have HSW3 := Lib.hid (HS.out.below ((HBE2.out.trans hbe).mono hB))
  have hlw := hbx.lt
  clear hbe hW c3 f3 c4 f4 c5 f5 c6 f6 c7 f7 c8 f8 c9 f9 c10 f10 c11 f11 c12 f12 c13 f13
  clear hbx
  go_wp2_with fail
  have jl4 : (5 : Int) ≤ (c : Int) := by omega
  have jz4 : ¬ (c : Int) = 3 := by omega
  have jy4 : ¬ c = 3 := by omega
  go_region_held3 (fun w' => True) (trivial) ((go_at_call 100; refine (u16_at g o n 3 2 _ B (o + 3) xs _ (HSW3.out.below (Below.refl _ _).drew) (by omega) (by omega) rfl).mono ?_; rintro e v4 ⟨rfl, hb1⟩; have hbx1 := HBX3.out.drew.below hb1 (by simpa using hlw); have f14 := hbx1.frozen 14; have c14 := hbx1.cell 14; simp only [List.getElem?_cons_zero, List.getElem?_cons_succ] at c14))
  rw [HNN3.out]
  obtain ⟨W4, hW⟩ : ∃ W, W = v4.setCell ⟨gx, 14, none⟩ (.int .u16 N3) := ⟨_, rfl⟩
  rw [← hW]
  have hbe : Below gx W3 W4 := by rw [hW]; exact (below_undrew (hb1.mono (by simpa using Nat.le_of_lt hlw))).setCell (p := ⟨gx, 14, none⟩) (Nat.le_refl _) _
  have hbx : Bk W4 gx 105 [.slice none 0 0, .slice none 0 0, .int .u8 a0, .int .u8 m1, .int .u8 m2, .int .u8 m3, .bool (bt r4), .bool (bt r5), .bool (bt r6), .bool (bt r7), .bool (bt r8), .bool (bt r9), .bool (bt r10), .bool (bt r11), .int .u16 N3, .int .u64 0, .slice none 0 0, .slice none 0 0, .int .u64 0, .int .u64 0, .slice none 0 0, .int .u16 0, .slice none 0 0] := by rw [hW]; exact hbx1.set_ 14 _
  have HBE4 := Lib.hid (HBE3.out.trans hbe)
  have HBX4 := Lib.hid hbx
  have HSW4 := Lib.hid (HS.out.below ((HBE3.out.trans hbe).mono hB))
  have hlw := hbx.lt
  clear hbe hW hb1 hbx1 c14 f14
  clear hbx
  go_wp2_with fail
  have jl5 : (13 : Int) ≤ (c : Int) := by omega
  have jz5 : ¬ (c : Int) = 5 := by omega
  have jy5 : ¬ c = 5 := by omega
  go_region_held3 (fun w' => True) (trivial) ((go_at_call 111; refine (u64_at g o n 5 8 _ B (o + 5) xs _ (HSW4.out.below (Below.refl _ _).drew) (by omega) (by omega) rfl).mono ?_; rintro e v5 ⟨rfl, hb1⟩; have hbx1 := HBX4.out.drew.below hb1 (by simpa using hlw); have f15 := hbx1.frozen 15; have c15 := hbx1.cell 15; simp only [List.getElem?_cons_zero, List.getElem?_cons_succ] at c15))
  rw [HNN5.out]
  obtain ⟨W5, hW⟩ : ∃ W, W = v5.setCell ⟨gx, 15, none⟩ (.int .u64 N5) := ⟨_, rfl⟩
  rw [← hW]
  have hbe : Below gx W4 W5 := by rw [hW]; exact (below_undrew (hb1.mono (by simpa using Nat.le_of_lt hlw))).setCell (p := ⟨gx, 15, none⟩) (Nat.le_refl _) _
  have hbx : Bk W5 gx 105 [.slice none 0 0, .slice none 0 0, .int .u8 a0, .int .u8 m1, .int .u8 m2, .int .u8 m3, .bool (bt r4), .bool (bt r5), .bool (bt r6), .bool (bt r7), .bool (bt r8), .bool (bt r9), .bool (bt r10), .bool (bt r11), .int .u16 N3, .int .u64 N5, .slice none 0 0, .slice none 0 0, .int .u64 0, .int .u64 0, .slice none 0 0, .int .u16 0, .slice none 0 0] := by rw [hW]; exact hbx1.set_ 15 _
  have HBE5 := Lib.hid (HBE4.out.trans hbe)
  have HBX5 := Lib.hid hbx
  have HSW5 := Lib.hid (HS.out.below ((HBE4.out.trans hbe).mono hB))
  have hlw := hbx.lt
  clear hbe hW hb1 hbx1 c15 f15
  have c16 := hbx.cell 16
  have f16 := hbx.frozen 16
  have c17 := hbx.cell 17
  have f17 := hbx.frozen 17
  simp only [List.getElem?_cons_zero, List.getElem?_cons_succ] at c16 c17
  have x0 := (World.cell?_of_block (a := ⟨g, o, none⟩) (HBE5.out.block g (by omega))).trans HXB0.out
  clear hbx
  go_wp2_with fail
  obtain ⟨W6, hW⟩ : ∃ W, W = ((W5.setCell ⟨gx, 16, none⟩ (.slice (some ⟨g, o + 13, none⟩) 32 (c - 13))).setCell ⟨gx, 17, none⟩ (.slice (some ⟨g, o + 45, none⟩) 16 (c - 45))) := ⟨_, rfl⟩
  rw [← hW]
  have hbe : Below gx W5 W6 := by rw [hW]; exact (((Below.refl gx W5).setCell (p := ⟨gx, 16, none⟩) (Nat.le_refl _) _).setCell (p := ⟨gx, 17, none⟩) (Nat.le_refl _) _)
  have hbx : Bk W6 gx 105 [.slice none 0 0, .slice none 0 0, .int .u8 a0, .int .u8 m1, .int .u8 m2, .int .u8 m3, .bool (bt r4), .bool (bt r5), .bool (bt r6), .bool (bt r7), .bool (bt r8), .bool (bt r9), .bool (bt r10), .bool (bt r11), .int .u16 N3, .int .u64 N5, .slice (some ⟨g, o + 13, none⟩) 32 (c - 13), .slice (some ⟨g, o + 45, none⟩) 16 (c - 45), .int .u64 0, .int .u64 0, .slice none 0 0, .int .u16 0, .slice none 0 0] := by rw [hW]; exact ((HBX5.out.set_ 16 _).set_ 17 _)
  have HBE6 := Lib.hid (HBE5.out.trans hbe)
  have HBX6 := Lib.hid hbx
  have HSW6 := Lib.hid (HS.out.below ((HBE5.out.trans hbe).mono hB))
  have hlw := hbx.lt
  clear hbe hW c16 f16 c17 f17
  clear hbx
  go_wp2_with fail
  have jl7 : (69 : Int) ≤ (c : Int) := by omega
  have jz7 : ¬ (c : Int) = 61 := by omega
  have jy7 : ¬ c = 61 := by omega
  go_region_held3 (fun w' => True) (trivial) ((go_at_call 111; refine (u64_at g o n 61 8 _ B (o + 61) xs _ (HSW6.out.below (Below.refl _ _).drew) (by omega) (by omega) rfl).mono ?_; rintro e v7 ⟨rfl, hb1⟩; have hbx1 := HBX6.out.drew.below hb1 (by simpa using hlw); have f18 := hbx1.frozen 18; have c18 := hbx1.cell 18; simp only [List.getElem?_cons_zero, List.getElem?_cons_succ] at c18))
  rw [HNN61.out]
  obtain ⟨W7, hW⟩ : ∃ W, W = v7.setCell ⟨gx, 18, none⟩ (.int .u64 N61) := ⟨_, rfl⟩
  rw [← hW]
  have hbe : Below gx W6 W7 := by rw [hW]; exact (below_undrew (hb1.mono (by simpa using Nat.le_of_lt hlw))).setCell (p := ⟨gx, 18, none⟩) (Nat.le_refl _) _
  have hbx : Bk W7 gx 105 [.slice none 0 0, .slice none 0 0, .int .u8 a0, .int .u8 m1, .int .u8 m2, .int .u8 m3, .bool (bt r4), .bool (bt r5), .bool (bt r6), .bool (bt r7), .bool (bt r8), .bool (bt r9), .bool (bt r10), .bool (bt r11), .int .u16 N3, .int .u64 N5, .slice (some ⟨g, o + 13, none⟩) 32 (c - 13), .slice (some ⟨g, o + 45, none⟩) 16 (c - 45), .int .u64 N61, .int .u64 0, .slice none 0 0, .int .u16 0, .slice none 0 0] := by rw [hW]; exact hbx1.set_ 18 _
  have HBE7 := Lib.hid (HBE6.out.trans hbe)
  have HBX7 := Lib.hid hbx
  have HSW7 := Lib.hid (HS.out.below ((HBE6.out.trans hbe).mono hB))
  have hlw := hbx.lt
  clear hbe hW hb1 hbx1 c18 f18
  clear hbx
  go_wp2_with fail
  have jl8 : (77 : Int) ≤ (c : Int) := by omega
  have jz8 : ¬ (c : Int) = 69 := by omega
  have jy8 : ¬ c = 69 := by omega
  go_region_held3 (fun w' => True) (trivial) ((go_at_call 111; refine (u64_at g o n 69 8 _ B (o + 69) xs _ (HSW7.out.below (Below.refl _ _).drew) (by omega) (by omega) rfl).mono ?_; rintro e v8 ⟨rfl, hb1⟩; have hbx1 := HBX7.out.drew.below hb1 (by simpa using hlw); have f19 := hbx1.frozen 19; have c19 := hbx1.cell 19; simp only [List.getElem?_cons_zero, List.getElem?_cons_succ] at c19))
  rw [HNN69.out]
  obtain ⟨W8, hW⟩ : ∃ W, W = v8.setCell ⟨gx, 19, none⟩ (.int .u64 N69) := ⟨_, rfl⟩
  rw [← hW]
  have hbe : Below gx W7 W8 := by rw [hW]; exact (below_undrew (hb1.mono (by simpa using Nat.le_of_lt hlw))).setCell (p := ⟨gx, 19, none⟩) (Nat.le_refl _) _
  have hbx : Bk W8 gx 105 [.slice none 0 0, .slice none 0 0, .int .u8 a0, .int .u8 m1, .int .u8 m2, .int .u8 m3, .bool (bt r4), .bool (bt r5), .bool (bt r6), .bool (bt r7), .bool (bt r8), .bool (bt r9), .bool (bt r10), .bool (bt r11), .int .u16 N3, .int .u64 N5, .slice (some ⟨g, o + 13, none⟩) 32 (c - 13), .slice (some ⟨g, o + 45, none⟩) 16 (c - 45), .int .u64 N61, .int .u64 N69, .slice none 0 0, .int .u16 0, .slice none 0 0] := by rw [hW]; exact hbx1.set_ 19 _
  have HBE8 := Lib.hid (HBE7.out.trans hbe)
  have HBX8 := Lib.hid hbx
  have HSW8 := Lib.hid (HS.out.below ((HBE7.out.trans hbe).mono hB))
  have hlw := hbx.lt
  clear hbe hW hb1 hbx1 c19 f19
  have c20 := hbx.cell 20
  have f20 := hbx.frozen 20
  simp only [List.getElem?_cons_zero, List.getElem?_cons_succ] at c20
  have x0 := (World.cell?_of_block (a := ⟨g, o, none⟩) (HBE8.out.block g (by omega))).trans HXB0.out
  clear hbx
  go_wp2_with fail
  obtain ⟨W9, hW⟩ : ∃ W, W = (W8.setCell ⟨gx, 20, none⟩ (.slice (some ⟨g, o + 77, none⟩) 16 (c - 77))) := ⟨_, rfl⟩
  rw [← hW]
  have hbe : Below gx W8 W9 := by rw [hW]; exact ((Below.refl gx W8).setCell (p := ⟨gx, 20, none⟩) (Nat.le_refl _) _)
  have hbx : Bk W9 gx 105 [.slice none 0 0, .slice none 0 0, .int .u8 a0, .int .u8 m1, .int .u8 m2, .int .u8 m3, .bool (bt r4), .bool (bt r5), .bool (bt r6), .bool (bt r7), .bool (bt r8), .bool (bt r9), .bool (bt r10), .bool (bt r11), .int .u16 N3, .int .u64 N5, .slice (some ⟨g, o + 13, none⟩) 32 (c - 13), .slice (some ⟨g, o + 45, none⟩) 16 (c - 45), .int .u64 N61, .int .u64 N69, .slice (some ⟨g, o + 77, none⟩) 16 (c - 77), .int .u16 0, .slice none 0 0] := by rw [hW]; exact (HBX8.out.set_ 20 _)
  have HBE9 := Lib.hid (HBE8.out.trans hbe)
  have HBX9 := Lib.hid hbx
  have HSW9 := Lib.hid (HS.out.below ((HBE8.out.trans hbe).mono hB))
  have hlw := hbx.lt
  clear hbe hW c20 f20
  clear hbx
  go_wp2_with fail
  have jl10 : (95 : Int) ≤ (c : Int) := by omega
  have jz10 : ¬ (c : Int) = 93 := by omega
  have jy10 : ¬ c = 93 := by omega
  go_region_held3 (fun w' => True) (trivial) ((go_at_call 100; refine (u16_at g o n 93 2 _ B (o + 93) xs _ (HSW9.out.below (Below.refl _ _).drew) (by omega) (by omega) rfl).mono ?_; rintro e v10 ⟨rfl, hb1⟩; have hbx1 := HBX9.out.drew.below hb1 (by simpa using hlw); have f21 := hbx1.frozen 21; have c21 := hbx1.cell 21; simp only [List.getElem?_cons_zero, List.getElem?_cons_succ] at c21))
  rw [HNN93.out]
  obtain ⟨W10, hW⟩ : ∃ W, W = v10.setCell ⟨gx, 21, none⟩ (.int .u16 N93) := ⟨_, rfl⟩
  rw [← hW]
  have hbe : Below gx W9 W10 := by rw [hW]; exact (below_undrew (hb1.mono (by simpa using Nat.le_of_lt hlw))).setCell (p := ⟨gx, 21, none⟩) (Nat.le_refl _) _
  have hbx : Bk W10 gx 105 [.slice none 0 0, .slice none 0 0, .int .u8 a0, .int .u8 m1, .int .u8 m2, .int .u8 m3, .bool (bt r4), .bool (bt r5), .bool (bt r6), .bool (bt r7), .bool (bt r8), .bool (bt r9), .bool (bt r10), .bool (bt r11), .int .u16 N3, .int .u64 N5, .slice (some ⟨g, o + 13, none⟩) 32 (c - 13), .slice (some ⟨g, o + 45, none⟩) 16 (c - 45), .int .u64 N61, .int .u64 N69, .slice (some ⟨g, o + 77, none⟩) 16 (c - 77), .int .u16 N93, .slice none 0 0] := by rw [hW]; exact hbx1.set_ 21 _
  have HBE10 := Lib.hid (HBE9.out.trans hbe)
  have HBX10 := Lib.hid hbx
  have HSW10 := Lib.hid (HS.out.below ((HBE9.out.trans hbe).mono hB))
  have hlw := hbx.lt
  clear hbe hW hb1 hbx1 c21 f21
  clear hbx
  have hr10 := HR10.out
  have c0 := HBX10.out.cell 0
  have f0 := HBX10.out.frozen 0
  have c1 := HBX10.out.cell 1
  have f1 := HBX10.out.frozen 1
  have c12 := HBX10.out.cell 12
  have f12 := HBX10.out.frozen 12
  have c21 := HBX10.out.cell 21
  have f21 := HBX10.out.frozen 21
  have c22 := HBX10.out.cell 22
  have f22 := HBX10.out.frozen 22
  simp only [List.getElem?_cons_zero, List.getElem?_cons_succ] at c0 c1 c12 c21 c22
  go_wp2_with fail
  go_region_held3 (fun w' => True) (trivial) (fail)
  go_wp2_with fail
  obtain ⟨WF, hWF⟩ : ∃ WF, WF = (((W10.setCell ⟨gx, 22, none⟩ (.slice A95 N93 (c - 95))).setCell ⟨gx, 0, none⟩ (.slice (some ⟨g, o, none⟩) (95 + N93) c)).setCell ⟨gx, 1, none⟩ (.slice AT (n - (95 + N93)) (c - (95 + N93)))).drew := ⟨_, rfl⟩
  have hbf : Below gx W10 WF := by rw [hWF]; exact ((((Below.refl gx W10).setCell (p := ⟨gx, 22, none⟩) (Nat.le_refl _) _).setCell (p := ⟨gx, 0, none⟩) (Nat.le_refl _) _).setCell (p := ⟨gx, 1, none⟩) (Nat.le_refl _) _).drew
  have hbg := HBE10.out.trans hbf
  have hbz := (((HBX10.out.set_ 22 (.slice A95 N93 (c - 95))).set_ 0 (.slice (some ⟨g, o, none⟩) (95 + N93) c)).set_ 1 (.slice AT (n - (95 + N93)) (c - (95 + N93)))).drew
  have q0 : Sl WF B (some ⟨g, o + 13, none⟩) 32 (bcs ((xs.drop 13).take 32)) := ((HS.out.drop_ (k := 13) (by omega)).take_ (k := 32) (by omega)).below (hbg.mono hB)
  have q1 : Sl WF B (some ⟨g, o + 45, none⟩) 16 (bcs ((xs.drop 45).take 16)) := ((HS.out.drop_ (k := 45) (by omega)).take_ (k := 16) (by omega)).below (hbg.mono hB)
  have q2 : Sl WF B (some ⟨g, o + 77, none⟩) 16 (bcs ((xs.drop 77).take 16)) := ((HS.out.drop_ (k := 77) (by omega)).take_ (k := 16) (by omega)).below (hbg.mono hB)
  have z0 : ((xs.drop 13).take 32).length = 32 := by rw [List.length_take, List.length_drop, HLN.out]; omega
  have z1 : ((xs.drop 45).take 16).length = 16 := by rw [List.length_take, List.length_drop, HLN.out]; omega
  have z2 : ((xs.drop 77).take 16).length = 16 := by rw [List.length_take, List.length_drop, HLN.out]; omega
  have q3 : Sl WF B A95 N93 (bcs ((xs.drop 95).take N93)) := (by have := HC95.out w B xs (by omega) HS.out; rw [Nat.add_sub_cancel_left] at this; exact this.below (hbg.mono hB))
  have z3 : ((xs.drop 95).take N93).length = N93 := by rw [List.length_take, List.length_drop, HLN.out]; omega
  have zp : (xs.drop (95 + N93)).length = n - (95 + N93) := by rw [List.length_drop, HLN.out]
  have qp : Sl WF B AT (n - (95 + N93)) (bcs (xs.drop (95 + N93))) := (HCT.out w B xs HS.out).below (hbg.mono hB)
  rw [← hWF] at hbz
  refine hR.out _ _ ⟨.slice (some ⟨g, o, none⟩) (95 + N93) c, AT, c - (95 + N93), _, rfl, by rw [← hWF]; exact hbg, by rw [← hWF, zp]; exact hbz, by rw [← hWF, zp]; exact qp, ?_⟩
  rw [← hWF]
  exact ⟨_, c - 13, _, c - 45, _, c - 77, _, c - 95, by rw [z0, z1, z2, z3]; rfl, by rw [z0]; exact q0, by rw [z1]; exact q1, by rw [z2]; exact q2, by rw [z3]; exact q3⟩
theorem dnil_key (gx : Nat) (W : World) : (nilAhead 390 100 (.pointer (some ⟨gx, 0, none⟩)) "DecodeFromBytes").run Tryz.prog W = .ok (some false) W := by kernel_rfl
theorem dmeth_key (gx : Nat) (W : World) : (method 390 100 (.pointer (some ⟨gx, 0, none⟩)) "DecodeFromBytes").run Tryz.prog W = .ok (149, .pointer (some ⟨gx, 0, none⟩)) W := by kernel_rfl
theorem dent_key (args : Array Value) (W : World) : (callFunc 149 args).run Tryz.prog W = .ok (.enter 149 args) W := by kernel_rfl
set_option maxRecDepth 1000000 in
set_option maxHeartbeats 10000000 in
theorem dec_key_enc (xs : List UInt8) (h12 : Lib.beNat ((xs.drop 1).take 2) / 4096 % 2 = 1) (hd : Lib.beNat ((xs.drop 93).take 2) ≤ xs.length - 95)  (h4 : 95 ≤ xs.length) (hn : xs.length ≤ 1000) : Decs 85 100 105 xs (xs.drop (95 + Lib.beNat ((xs.drop 93).take 2))) (Fld.dat4 (fun Q0 q0 Q1 q1 Q2 q2 Q3 q3 => [.int .u8 (xs.getD 0 0).toNat, .int .u8 (Lib.beNat ((xs.drop 1).take 2) % 8 : Nat), .int .u8 (Lib.beNat ((xs.drop 1).take 2) / 8 % 2 : Nat), .int .u8 (Lib.beNat ((xs.drop 1).take 2) / 16 % 4 : Nat), .bool (bt (Lib.beNat ((xs.drop 1).take 2) / 64 % 2)), .bool (bt (Lib.beNat ((xs.drop 1).take 2) / 128 % 2)), .bool (bt (Lib.beNat ((xs.drop 1).take 2) / 256 % 2)), .bool (bt (Lib.beNat ((xs.drop 1).take 2) / 512 % 2)), .bool (bt (Lib.beNat ((xs.drop 1).take 2) / 1024 % 2)), .bool (bt (Lib.beNat ((xs.drop 1).take 2) / 2048 % 2)), .bool (bt (Lib.beNat ((xs.drop 1).take 2) / 4096 % 2)), .bool (bt (Lib.beNat ((xs.drop 1).take 2) / 8192 % 2)), .int .u16 (Lib.beNat ((xs.drop 3).take 2) : Nat), .int .u64 (Lib.beNat ((xs.drop 5).take 8) : Nat), .slice Q0 ((xs.drop 13).take 32).length q0, .slice Q1 ((xs.drop 45).take 16).length q1, .int .u64 (Lib.beNat ((xs.drop 61).take 8) : Nat), .int .u64 (Lib.beNat ((xs.drop 69).take 8) : Nat), .slice Q2 ((xs.drop 77).take 16).length q2, .int .u16 (Lib.beNat ((xs.drop 93).take 2) : Nat), .slice Q3 ((xs.drop 95).take (Lib.beNat ((xs.drop 93).take 2)) : List UInt8).length q3]) ((xs.drop 13).take 32) ((xs.drop 45).take 16) ((xs.drop 77).take 16) ((xs.drop 95).take (Lib.beNat ((xs.drop 93).take 2)))) := by
  intro gk u A n c w hk hs hnc
  refine calls_hid fun R hR => ?_
  have hl : xs.length = n := by rw [← bcs_length]; exact hs.1
  rw [hl] at h4 hn
  obtain ⟨g, o, rfl, hg, _⟩ := hs.2 (by omega)
  have hlt := hk.lt
  have HS := Lib.hid hs
  have HK := Lib.hid hk
  clear hs hk
  go_enter Tryz.func85, Tryz.ntmps85
  go_wp2_with fail
  obtain ⟨W, hW⟩ : ∃ W, W = w.alloc (.cells #[.slice none 0 0, .slice none 0 0, .int .u8 0, .int .u8 0, .int .u8 0, .int .u8 0, .bool false, .bool false, .bool false, .bool false, .bool false, .bool false, .bool false, .bool false, .int .u16 0, .int .u64 0, .slice none 0 0, .slice none 0 0, .int .u64 0, .int .u64 0, .slice none 0 0, .int .u16 0, .slice none 0 0] 105) := ⟨_, rfl⟩
  rw [← hW]
  have hx : Bk W w.heap.size 105 [.slice none 0 0, .slice none 0 0, .int .u8 0, .int .u8 0, .int .u8 0, .int .u8 0, .bool false, .bool false, .bool false, .bool false, .bool false, .bool false, .bool false, .bool false, .int .u16 0, .int .u64 0, .slice none 0 0, .slice none 0 0, .int .u64 0, .int .u64 0, .slice none 0 0, .int .u16 0, .slice none 0 0] := by rw [hW]; exact Bk.new _ _ _
  have hbe : Below w.heap.size w W := by rw [hW]; exact (Below.refl _ _).alloc (Nat.le_refl _) _
  have HBE := Lib.hid hbe
  clear hW
  refine (dld_decs 100 105 149 w.heap.size gk u _ (xs.drop (95 + Lib.beNat ((xs.drop 93).take 2))) _ (dnil_key _) (dmeth_key _) dent_key w W (HK.out.below hbe hlt) hlt rfl HBE.out (dfb_key_enc xs h12 hd g o n c gk w.heap.size _ W ((HS.out.below (hbe.mono (Nat.le_of_lt hlt)))) (Nat.le_of_lt hlt) h4 hnc hn hx)).mono ?_
  rintro e w' ⟨gx, Cv, Ap, cp, fs, rfl, h1, h2, h3, h4', h5, h6⟩
  go_wp2_with fail
  exact hR.out _ _ ⟨gx, Cv, Ap, cp, fs, rfl, h1, h2, h3, h4', h5, h6⟩
set_option maxRecDepth 1000000 in
set_option maxHeartbeats 40000000 in
/-- What DecodeFromBytes does to the layer in block gx. -/
theorem dfb_key_pln (xs : List UInt8) (h12 : Lib.beNat ((xs.drop 1).take 2) / 4096 % 2 = 0) (hd : Lib.beNat ((xs.drop 93).take 2) ≤ xs.length - 95)  (g o n c B gx : Nat) (df : Value) (w : World) (hs : Sl w B (some ⟨g, o, none⟩) n (bcs xs)) (hB : B ≤ gx) (h4 : 95 ≤ n) (hnc : n ≤ c) (hn : n ≤ 1000)
    (hx : Bk w gx 105 [.slice none 0 0, .slice none 0 0, .int .u8 0, .int .u8 0, .int .u8 0, .int .u8 0, .bool false, .bool false, .bool false, .bool false, .bool false, .bool false, .bool false, .bool false, .int .u16 0, .int .u64 0, .slice none 0 0, .slice none 0 0, .int .u64 0, .int .u64 0, .slice none 0 0, .int .u16 0, .slice none 0 0]) :
    Calls Tryz.prog 149 #[.pointer (some ⟨gx, 0, none⟩), .slice (some ⟨g, o, none⟩) n c, df] w (Dfbs B gx 105 (xs.drop 95) (Fld.dat4 (fun Q0 q0 Q1 q1 Q2 q2 Q3 q3 => [.int .u8 (xs.getD 0 0).toNat, .int .u8 (Lib.beNat ((xs.drop 1).take 2) % 8 : Nat), .int .u8 (Lib.beNat ((xs.drop 1).take 2) / 8 % 2 : Nat), .int .u8 (Lib.beNat ((xs.drop 1).take 2) / 16 % 4 : Nat), .bool (bt (Lib.beNat ((xs.drop 1).take 2) / 64 % 2)), .bool (bt (Lib.beNat ((xs.drop 1).take 2) / 128 % 2)), .bool (bt (Lib.beNat ((xs.drop 1).take 2) / 256 % 2)), .bool (bt (Lib.beNat ((xs.drop 1).take 2) / 512 % 2)), .bool (bt (Lib.beNat ((xs.drop 1).take 2) / 1024 % 2)), .bool (bt (Lib.beNat ((xs.drop 1).take 2) / 2048 % 2)), .bool (bt (Lib.beNat ((xs.drop 1).take 2) / 4096 % 2)), .bool (bt (Lib.beNat ((xs.drop 1).take 2) / 8192 % 2)), .int .u16 (Lib.beNat ((xs.drop 3).take 2) : Nat), .int .u64 (Lib.beNat ((xs.drop 5).take 8) : Nat), .slice Q0 ((xs.drop 13).take 32).length q0, .slice Q1 ((xs.drop 45).take 16).length q1, .int .u64 (Lib.beNat ((xs.drop 61).take 8) : Nat), .int .u64 (Lib.beNat ((xs.drop 69).take 8) : Nat), .slice Q2 ((xs.drop 77).take 16).length q2, .int .u16 (Lib.beNat ((xs.drop 93).take 2) : Nat), .slice Q3 ([] : List UInt8).length q3]) ((xs.drop 13).take 32) ((xs.drop 45).take 16) ((xs.drop 77).take 16) ([])) w) := by
  refine calls_hid fun R hR => ?_
  unfold Dfbs at hR
  have hln : xs.length = n := by rw [← bcs_length]; exact hs.1
  rw [hln] at hd
  obtain ⟨hg, _⟩ := hs.at_ (by omega)
  obtain ⟨A4, cut4, cs4, cf4⟩ := cut_from g o n c 95 95 rfl (by omega) hnc
  have hlt := hx.lt
  have b0 := (xs.getD 0 0).toNat_lt
  have x0 : w.cell? ⟨g, o, none⟩ = some (.int .u8 (xs.getD 0 0).toNat) := hs.byte (k := 0) (by omega)
  have HXB0 := Lib.hid x0
  have j0 : 0 < n := by omega
  have i0 : (0 : Int) < (n : Int) := by omega
  have c0 := hx.cell 0
  have c1 := hx.cell 1
  have c2 := hx.cell 2
  have c3 := hx.cell 3
  have c4 := hx.cell 4
  have c5 := hx.cell 5
  have c6 := hx.cell 6
  have c7 := hx.cell 7
  have c8 := hx.cell 8
  have c9 := hx.cell 9
  have c10 := hx.cell 10
  have c11 := hx.cell 11
  have c12 := hx.cell 12
  have c13 := hx.cell 13
  have c14 := hx.cell 14
  have c15 := hx.cell 15
  have c16 := hx.cell 16
  have c17 := hx.cell 17
  have c18 := hx.cell 18
  have c19 := hx.cell 19
  have c20 := hx.cell 20
  have c21 := hx.cell 21
  have c22 := hx.cell 22
  simp only [List.getElem?_cons_zero, List.getElem?_cons_succ] at c0 c1 c2 c3 c4 c5 c6 c7 c8 c9 c10 c11 c12 c13 c14 c15 c16 c17 c18 c19 c20 c21 c22
  have f0 := hx.frozen 0
  have f1 := hx.frozen 1
  have f2 := hx.frozen 2
  have f3 := hx.frozen 3
  have f4 := hx.frozen 4
  have f5 := hx.frozen 5
  have f6 := hx.frozen 6
  have f7 := hx.frozen 7
  have f8 := hx.frozen 8
  have f9 := hx.frozen 9
  have f10 := hx.frozen 10
  have f11 := hx.frozen 11
  have f12 := hx.frozen 12
  have f13 := hx.frozen 13
  have f14 := hx.frozen 14
  have f15 := hx.frozen 15
  have f16 := hx.frozen 16
  have f17 := hx.frozen 17
  have f18 := hx.frozen 18
  have f19 := hx.frozen 19
  have f20 := hx.frozen 20
  have f21 := hx.frozen 21
  have f22 := hx.frozen 22
  have HS := Lib.hid hs
  have HX := Lib.hid hx
  have HC4 := Lib.hid cs4
  clear hs hx cs4 cf4
  have jc : (95 : Int) ≤ (c : Int) := by omega
  have jn : (95 : Int) ≤ (n : Int) := by omega
  have tl : decide ((n : Int) < 95) = false := by simp; omega
  have hne : gx ≠ g := by omega
  have hne' : ¬ gx = g := hne
  have hne2 : ¬ g = gx := fun h => hne h.symm
  generalize (xs.getD 0 0).toNat = a0 at *
  have HLN := Lib.hid hln
  clear hln
  have hN1 : Lib.beNat ((xs.drop 1).take 2) < 65536 := beNat_take _ 2
  generalize hNN1 : Lib.beNat ((xs.drop 1).take 2) = N1 at *
  have HNN1 := Lib.hid hNN1
  clear hNN1
  have hN3 : Lib.beNat ((xs.drop 3).take 2) < 65536 := beNat_take _ 2
  generalize hNN3 : Lib.beNat ((xs.drop 3).take 2) = N3 at *
  have HNN3 := Lib.hid hNN3
  clear hNN3
  have hN5 : Lib.beNat ((xs.drop 5).take 8) < 18446744073709551616 := beNat_take _ 8
  generalize hNN5 : Lib.beNat ((xs.drop 5).take 8) = N5 at *
  have HNN5 := Lib.hid hNN5
  clear hNN5
  have hN61 : Lib.beNat ((xs.drop 61).take 8) < 18446744073709551616 := beNat_take _ 8
  generalize hNN61 : Lib.beNat ((xs.drop 61).take 8) = N61 at *
  have HNN61 := Lib.hid hNN61
  clear hNN61
  have hN69 : Lib.beNat ((xs.drop 69).take 8) < 18446744073709551616 := beNat_take _ 8
  generalize hNN69 : Lib.beNat ((xs.drop 69).take 8) = N69 at *
  have HNN69 := Lib.hid hNN69
  clear hNN69
  have hN93 : Lib.beNat ((xs.drop 93).take 2) < 65536 := beNat_take _ 2
  generalize hNN93 : Lib.beNat ((xs.drop 93).take 2) = N93 at *
  have HNN93 := Lib.hid hNN93
  clear hNN93
  have kz13 : ¬ (c : Int) = 13 := by omega
  have ky13 : ¬ c = 13 := by omega
  have kz45 : ¬ (c : Int) = 45 := by omega
  have ky45 : ¬ c = 45 := by omega
  have kz77 : ¬ (c : Int) = 77 := by omega
  have ky77 : ¬ c = 77 := by omega
  have kc45 : (45 : Int) ≤ (c : Int) := by omega
  have kc61 : (61 : Int) ≤ (c : Int) := by omega
  have kc93 : (93 : Int) ≤ (c : Int) := by omega
  have kc95 : (95 : Int) ≤ (c : Int) := by omega
  have g3 : bits .and .u16 (N1 : Int) 7 = ((N1 % 8 : Nat) : Int) := by
    have h := m16_mask 0 3 7 (by omega) (by decide) N1 (by omega)
    simp only [Nat.pow_zero, Nat.div_one, Nat.mul_one, Nat.reducePow] at h
    exact h
  have g1 : bits .and .u16 (N1 : Int) 8 = ((N1 / 8 % 2 * 8 : Nat) : Int) := m16_mask 3 1 8 (by omega) (by decide) N1 (by omega)
  have g2 : bits .and .u16 (N1 : Int) 48 = ((N1 / 16 % 4 * 16 : Nat) : Int) := m16_mask 4 2 48 (by omega) (by decide) N1 (by omega)
  have e1 : ((N1 / 8 % 2 * 8 : Nat) : Int) / 8 = ((N1 / 8 % 2 : Nat) : Int) := by omega
  have e2 : ((N1 / 16 % 4 * 16 : Nat) : Int) / 16 = ((N1 / 16 % 4 : Nat) : Int) := by omega
  have p3 : N1 % 8 < 8 := by omega
  have p1 : N1 / 8 % 2 < 2 := by omega
  have p2 : N1 / 16 % 4 < 4 := by omega
  have y64 : bits .and .u16 (N1 : Int) 64 = ((N1 / 64 % 2 * 64 : Nat) : Int) := m16_mask 6 1 64 (by omega) (by decide) N1 (by omega)
  have l64 : N1 / 64 % 2 < 2 := by omega
  have v64 : (((N1 / 64 % 2 * 64 : Nat) : Int) != 0) = bt (N1 / 64 % 2) := bt_ne _ 64 (by decide) _ l64 (by omega)
  have y128 : bits .and .u16 (N1 : Int) 128 = ((N1 / 128 % 2 * 128 : Nat) : Int) := m16_mask 7 1 128 (by omega) (by decide) N1 (by omega)
  have l128 : N1 / 128 % 2 < 2 := by omega
  have v128 : (((N1 / 128 % 2 * 128 : Nat) : Int) != 0) = bt (N1 / 128 % 2) := bt_ne _ 128 (by decide) _ l128 (by omega)
  have y256 : bits .and .u16 (N1 : Int) 256 = ((N1 / 256 % 2 * 256 : Nat) : Int) := m16_mask 8 1 256 (by omega) (by decide) N1 (by omega)
  have l256 : N1 / 256 % 2 < 2 := by omega
  have v256 : (((N1 / 256 % 2 * 256 : Nat) : Int) != 0) = bt (N1 / 256 % 2) := bt_ne _ 256 (by decide) _ l256 (by omega)
  have y512 : bits .and .u16 (N1 : Int) 512 = ((N1 / 512 % 2 * 512 : Nat) : Int) := m16_mask 9 1 512 (by omega) (by decide) N1 (by omega)
  have l512 : N1 / 512 % 2 < 2 := by omega
  have v512 : (((N1 / 512 % 2 * 512 : Nat) : Int) != 0) = bt (N1 / 512 % 2) := bt_ne _ 512 (by decide) _ l512 (by omega)
  have y1024 : bits .and .u16 (N1 : Int) 1024 = ((N1 / 1024 % 2 * 1024 : Nat) : Int) := m16_mask 10 1 1024 (by omega) (by decide) N1 (by omega)
  have l1024 : N1 / 1024 % 2 < 2 := by omega
  have v1024 : (((N1 / 1024 % 2 * 1024 : Nat) : Int) != 0) = bt (N1 / 1024 % 2) := bt_ne _ 1024 (by decide) _ l1024 (by omega)
  have y2048 : bits .and .u16 (N1 : Int) 2048 = ((N1 / 2048 % 2 * 2048 : Nat) : Int) := m16_mask 11 1 2048 (by omega) (by decide) N1 (by omega)
  have l2048 : N1 / 2048 % 2 < 2 := by omega
  have v2048 : (((N1 / 2048 % 2 * 2048 : Nat) : Int) != 0) = bt (N1 / 2048 % 2) := bt_ne _ 2048 (by decide) _ l2048 (by omega)
  have y4096 : bits .and .u16 (N1 : Int) 4096 = ((N1 / 4096 % 2 * 4096 : Nat) : Int) := m16_mask 12 1 4096 (by omega) (by decide) N1 (by omega)
  have l4096 : N1 / 4096 % 2 < 2 := by omega
  have v4096 : (((N1 / 4096 % 2 * 4096 : Nat) : Int) != 0) = bt (N1 / 4096 % 2) := bt_ne _ 4096 (by decide) _ l4096 (by omega)
  have y8192 : bits .and .u16 (N1 : Int) 8192 = ((N1 / 8192 % 2 * 8192 : Nat) : Int) := m16_mask 13 1 8192 (by omega) (by decide) N1 (by omega)
  have l8192 : N1 / 8192 % 2 < 2 := by omega
  have v8192 : (((N1 / 8192 % 2 * 8192 : Nat) : Int) != 0) = bt (N1 / 8192 % 2) := bt_ne _ 8192 (by decide) _ l8192 (by omega)
  have H12 := Lib.hid h12
  clear h12
  generalize N1 / 8 % 2 * 8 = t1 at *
  generalize N1 / 16 % 4 * 16 = t2 at *
  generalize N1 % 8 = m1 at *
  generalize N1 / 8 % 2 = m2 at *
  generalize N1 / 16 % 4 = m3 at *
  generalize N1 / 64 % 2 * 64 = t64 at *
  generalize N1 / 64 % 2 = r4 at *
  generalize N1 / 128 % 2 * 128 = t128 at *
  generalize N1 / 128 % 2 = r5 at *
  generalize N1 / 256 % 2 * 256 = t256 at *
  generalize N1 / 256 % 2 = r6 at *
  generalize N1 / 512 % 2 * 512 = t512 at *
  generalize N1 / 512 % 2 = r7 at *
  generalize N1 / 1024 % 2 * 1024 = t1024 at *
  generalize N1 / 1024 % 2 = r8 at *
  generalize N1 / 2048 % 2 * 2048 = t2048 at *
  generalize N1 / 2048 % 2 = r9 at *
  generalize N1 / 4096 % 2 * 4096 = t4096 at *
  generalize N1 / 4096 % 2 = r10 at *
  generalize N1 / 8192 % 2 * 8192 = t8192 at *
  generalize N1 / 8192 % 2 = r11 at *
  have wm1 : IntKind.u8.wrap (m1 : Int) = m1 := by rw [u8w]; omega
  have xm1 : (m1 : Int) % 256 = m1 := by omega
  have wm2 : IntKind.u8.wrap (m2 : Int) = m2 := by rw [u8w]; omega
  have xm2 : (m2 : Int) % 256 = m2 := by omega
  have wm3 : IntKind.u8.wrap (m3 : Int) = m3 := by rw [u8w]; omega
  have xm3 : (m3 : Int) % 256 = m3 := by omega
  have vN : IntKind.i64.wrap (N93 : Int) = N93 := IntWalk.i64_in _ (by omega)
  have v95 : IntKind.i64.wrap (95 + (N93 : Int)) = 95 + N93 := IntWalk.i64_in _ (by omega)
  have tn : decide ((n : Int) < 95 + (N93 : Int)) = false := by rw [decide_eq_false_iff_not]; omega
  have hdN := hd
  have HR10 : Hid (bt r10 = false) := Lib.hid (by rw [H12.out]; rfl)
  go_enter Tryz.func149, Tryz.ntmps149
  have HBE0 := Lib.hid (Below.refl gx w)
  have HBX0 := HX
  have HSW0 := HS
  go_wp2_with fail
  obtain ⟨W1, hW⟩ : ∃ W, W = (w.setCell ⟨gx, 2, none⟩ (.int .u8 a0)) := ⟨_, rfl⟩
  rw [← hW]
  have hbe : Below gx w W1 := by rw [hW]; exact ((Below.refl gx w).setCell (p := ⟨gx, 2, none⟩) (Nat.le_refl _) _)
  have hbx : Bk W1 gx 105 [.slice none 0 0, .slice none 0 0, .int .u8 a0, .int .u8 0, .int .u8 0, .int .u8 0, .bool false, .bool false, .bool false, .bool false, .bool false, .bool false, .bool false, .bool false, .int .u16 0, .int .u64 0, .slice none 0 0, .slice none 0 0, .int .u64 0, .int .u64 0, .slice none 0 0, .int .u16 0, .slice none 0 0] := by rw [hW]; exact (HBX0.out.set_ 2 _)
  have HBE1 := Lib.hid (HBE0.out.trans hbe)
  have HBX1 := Lib.hid hbx
  have HSW1 := Lib.hid (HS.out.below ((HBE0.out.trans hbe).mono hB))
  have hlw := hbx.lt
  clear hbe hW c0 f0 c1 f1 c2 f2 c3 f3 c4 f4 c5 f5 c6 f6 c7 f7 c8 f8 c9 f9 c10 f10 c11 f11 c12 f12 c13 f13 c14 f14 c15 f15 c16 f16 c17 f17 c18 f18 c19 f19 c20 f20 c21 f21 c22 f22
  clear hbx
  go_wp2_with fail
  have jl2 : (3 : Int) ≤ (c : Int) := by omega
  have jz2 : ¬ (c : Int) = 1 := by omega
  have jy2 : ¬ c = 1 := by omega
  go_region_held3 (fun w' => True) (trivial) ((go_at_call 100; (with_reducible refine (u16_at g o n 1 2 _ B (o + 1) xs _ (HSW1.out.below (Below.refl _ _).drew) (by omega) (by omega) rfl).mono ?_); rintro e v2 ⟨rfl, hb1⟩; have hbx1 := HBX1.out.drew.below hb1 (by simpa using hlw)))
  first | rw [HNN1.out] | rw [← List.drop_one, HNN1.out]
  obtain ⟨W2, hW⟩ : ∃ W, W = v2 := ⟨_, rfl⟩
  rw [← hW]
  have hbe : Below gx W1 W2 := by rw [hW]; exact below_undrew (hb1.mono (by simpa using Nat.le_of_lt hlw))
  have hbx : Bk W2 gx 105 [.slice none 0 0, .slice none 0 0, .int .u8 a0, .int .u8 0, .int .u8 0, .int .u8 0, .bool false, .bool false, .bool false, .bool false, .bool false, .bool false, .bool false, .bool false, .int .u16 0, .int .u64 0, .slice none 0 0, .slice none 0 0, .int .u64 0, .int .u64 0, .slice none 0 0, .int .u16 0, .slice none 0 0] := by rw [hW]; exact hbx1
  have HBE2 := Lib.hid (HBE1.out.trans hbe)
  have HBX2 := Lib.hid hbx
  have HSW2 := Lib.hid (HS.out.below ((HBE1.out.trans hbe).mono hB))
  have hlw := hbx.lt
  clear hbe hW hb1 hbx1
  have c3 := hbx.cell 3
  have f3 := hbx.frozen 3
  have c4 := hbx.cell 4
  have f4 := hbx.frozen 4
  have c5 := hbx.cell 5
  have f5 := hbx.frozen 5
  have c6 := hbx.cell 6
  have f6 := hbx.frozen 6
  have c7 := hbx.cell 7
  have f7 := hbx.frozen 7
  have c8 := hbx.cell 8
  have f8 := hbx.frozen 8
  have c9 := hbx.cell 9
  have f9 := hbx.frozen 9
  have c10 := hbx.cell 10
  have f10 := hbx.frozen 10
  have c11 := hbx.cell 11
  have f11 := hbx.frozen 11
  have c12 := hbx.cell 12
  have f12 := hbx.frozen 12
  have c13 := hbx.cell 13
  have f13 := hbx.frozen 13
  simp only [List.getElem?_cons_zero, List.getElem?_cons_succ] at c3 c4 c5 c6 c7 c8 c9 c10 c11 c12 c13
  have x0 := (World.cell?_of_block (a := ⟨g, o, none⟩) (HBE2.out.block g (by omega))).trans HXB0.out
  clear hbx
  go_wp2_with fail
  obtain ⟨W3, hW⟩ : ∃ W, W = (((((((((((W2.setCell ⟨gx, 3, none⟩ (.int .u8 m1)).setCell ⟨gx, 4, none⟩ (.int .u8 m2)).setCell ⟨gx, 5, none⟩ (.int .u8 m3)).setCell ⟨gx, 6, none⟩ (.bool (bt r4))).setCell ⟨gx, 7, none⟩ (.bool (bt r5))).setCell ⟨gx, 8, none⟩ (.bool (bt r6))).setCell ⟨gx, 9, none⟩ (.bool (bt r7))).setCell ⟨gx, 10, none⟩ (.bool (bt r8))).setCell ⟨gx, 11, none⟩ (.bool (bt r9))).setCell ⟨gx, 12, none⟩ (.bool (bt r10))).setCell ⟨gx, 13, none⟩ (.bool (bt r11))) := ⟨_, rfl⟩
  rw [← hW]
  have hbe : Below gx W2 W3 := by rw [hW]; exact ((((((((((((Below.refl gx W2).setCell (p := ⟨gx, 3, none⟩) (Nat.le_refl _) _).setCell (p := ⟨gx, 4, none⟩) (Nat.le_refl _) _).setCell (p := ⟨gx, 5, none⟩) (Nat.le_refl _) _).setCell (p := ⟨gx, 6, none⟩) (Nat.le_refl _) _).setCell (p := ⟨gx, 7, none⟩) (Nat.le_refl _) _).setCell (p := ⟨gx, 8, none⟩) (Nat.le_refl _) _).setCell (p := ⟨gx, 9, none⟩) (Nat.le_refl _) _).setCell (p := ⟨gx, 10, none⟩) (Nat.le_refl _) _).setCell (p := ⟨gx, 11, none⟩) (Nat.le_refl _) _).setCell (p := ⟨gx, 12, none⟩) (Nat.le_refl _) _).setCell (p := ⟨gx, 13, none⟩) (Nat.le_refl _) _)
  have hbx : Bk W3 gx 105 [.slice none 0 0, .slice none 0 0, .int .u8 a0, .int .u8 m1, .int .u8 m2, .int .u8 m3, .bool (bt r4), .bool (bt r5), .bool (bt r6), .bool (bt r7), .bool (bt r8), .bool (bt r9), .bool (bt r10), .bool (bt r11), .int .u16 0, .int .u64 0, .slice none 0 0, .slice none 0 0, .int .u64 0, .int .u64 0, .slice none 0 0, .int .u16 0, .slice none 0 0] := by rw [hW]; exact (((((((((((HBX2.out.set_ 3 _).set_ 4 _).set_ 5 _).set_ 6 _).set_ 7 _).set_ 8 _).set_ 9 _).set_ 10 _).set_ 11 _).set_ 12 _).set_ 13 _)
  have HBE3 := Lib.hid (HBE2.out.trans hbe)
  have HBX3 := Lib.hid hbx
  have HSW3 := Lib.hid (HS.out.below ((HBE2.out.trans hbe).mono hB))
  have hlw := hbx.lt
  clear hbe hW c3 f3 c4 f4 c5 f5 c6 f6 c7 f7 c8 f8 c9 f9 c10 f10 c11 f11 c12 f12 c13 f13
  clear hbx
  go_wp2_with fail
  have jl4 : (5 : Int) ≤ (c : Int) := by omega
  have jz4 : ¬ (c : Int) = 3 := by omega
  have jy4 : ¬ c = 3 := by omega
  go_region_held3 (fun w' => True) (trivial) ((go_at_call 100; refine (u16_at g o n 3 2 _ B (o + 3) xs _ (HSW3.out.below (Below.refl _ _).drew) (by omega) (by omega) rfl).mono ?_; rintro e v4 ⟨rfl, hb1⟩; have hbx1 := HBX3.out.drew.below hb1 (by simpa using hlw); have f14 := hbx1.frozen 14; have c14 := hbx1.cell 14; simp only [List.getElem?_cons_zero, List.getElem?_cons_succ] at c14))
  rw [HNN3.out]
  obtain ⟨W4, hW⟩ : ∃ W, W = v4.setCell ⟨gx, 14, none⟩ (.int .u16 N3) := ⟨_, rfl⟩
  rw [← hW]
  have hbe : Below gx W3 W4 := by rw [hW]; exact (below_undrew (hb1.mono (by simpa using Nat.le_of_lt hlw))).setCell (p := ⟨gx, 14, none⟩) (Nat.le_refl _) _
  have hbx : Bk W4 gx 105 [.slice none 0 0, .slice none 0 0, .int .u8 a0, .int .u8 m1, .int .u8 m2, .int .u8 m3, .bool (bt r4), .bool (bt r5), .bool (bt r6), .bool (bt r7), .bool (bt r8), .bool (bt r9), .bool (bt r10), .bool (bt r11), .int .u16 N3, .int .u64 0, .slice none 0 0, .slice none 0 0, .int .u64 0, .int .u64 0, .slice none 0 0, .int .u16 0, .slice none 0 0] := by rw [hW]; exact hbx1.set_ 14 _
  have HBE4 := Lib.hid (HBE3.out.trans hbe)
  have HBX4 := Lib.hid hbx
  have HSW4 := Lib.hid (HS.out.below ((HBE3.out.trans hbe).mono hB))
  have hlw := hbx.lt
  clear hbe hW hb1 hbx1 c14 f14
  clear hbx
  go_wp2_with fail
  have jl5 : (13 : Int) ≤ (c : Int) := by omega
  have jz5 : ¬ (c : Int) = 5 := by omega
  have jy5 : ¬ c = 5 := by omega
  go_region_held3 (fun w' => True) (trivial) ((go_at_call 111; refine (u64_at g o n 5 8 _ B (o + 5) xs _ (HSW4.out.below (Below.refl _ _).drew) (by omega) (by omega) rfl).mono ?_; rintro e v5 ⟨rfl, hb1⟩; have hbx1 := HBX4.out.drew.below hb1 (by simpa using hlw); have f15 := hbx1.frozen 15; have c15 := hbx1.cell 15; simp only [List.getElem?_cons_zero, List.getElem?_cons_succ] at c15))
  rw [HNN5.out]
  obtain ⟨W5, hW⟩ : ∃ W, W = v5.setCell ⟨gx, 15, none⟩ (.int .u64 N5) := ⟨_, rfl⟩
  rw [← hW]
  have hbe : Below gx W4 W5 := by rw [hW]; exact (below_undrew (hb1.mono (by simpa using Nat.le_of_lt hlw))).setCell (p := ⟨gx, 15, none⟩) (Nat.le_refl _) _
  have hbx : Bk W5 gx 105 [.slice none 0 0, .slice none 0 0, .int .u8 a0, .int .u8 m1, .int .u8 m2, .int .u8 m3, .bool (bt r4), .bool (bt r5), .bool (bt r6), .bool (bt r7), .bool (bt r8), .bool (bt r9), .bool (bt r10), .bool (bt r11), .int .u16 N3, .int .u64 N5, .slice none 0 0, .slice none 0 0, .int .u64 0, .int .u64 0, .slice none 0 0, .int .u16 0, .slice none 0 0] := by rw [hW]; exact hbx1.set_ 15 _
  have HBE5 := Lib.hid (HBE4.out.trans hbe)
  have HBX5 := Lib.hid hbx
  have HSW5 := Lib.hid (HS.out.below ((HBE4.out.trans hbe).mono hB))
  have hlw := hbx.lt
  clear hbe hW hb1 hbx1 c15 f15
  have c16 := hbx.cell 16
  have f16 := hbx.frozen 16
  have c17 := hbx.cell 17
  have f17 := hbx.frozen 17
  simp only [List.getElem?_cons_zero, List.getElem?_cons_succ] at c16 c17
  have x0 := (World.cell?_of_block (a := ⟨g, o, none⟩) (HBE5.out.block g (by omega))).trans HXB0.out
  clear hbx
  go_wp2_with fail
  obtain ⟨W6, hW⟩ : ∃ W, W = ((W5.setCell ⟨gx, 16, none⟩ (.slice (some ⟨g, o + 13, none⟩) 32 (c - 13))).setCell ⟨gx, 17, none⟩ (.slice (some ⟨g, o + 45, none⟩) 16 (c - 45))) := ⟨_, rfl⟩
  rw [← hW]
  have hbe : Below gx W5 W6 := by rw [hW]; exact (((Below.refl gx W5).setCell (p := ⟨gx, 16, none⟩) (Nat.le_refl _) _).setCell (p := ⟨gx, 17, none⟩) (Nat.le_refl _) _)
  have hbx : Bk W6 gx 105 [.slice none 0 0, .slice none 0 0, .int .u8 a0, .int .u8 m1, .int .u8 m2, .int .u8 m3, .bool (bt r4), .bool (bt r5), .bool (bt r6), .bool (bt r7), .bool (bt r8), .bool (bt r9), .bool (bt r10), .bool (bt r11), .int .u16 N3, .int .u64 N5, .slice (some ⟨g, o + 13, none⟩) 32 (c - 13), .slice (some ⟨g, o + 45, none⟩) 16 (c - 45), .int .u64 0, .int .u64 0, .slice none 0 0, .int .u16 0, .slice none 0 0] := by rw [hW]; exact ((HBX5.out.set_ 16 _).set_ 17 _)
  have HBE6 := Lib.hid (HBE5.out.trans hbe)
  have HBX6 := Lib.hid hbx
  have HSW6 := Lib.hid (HS.out.below ((HBE5.out.trans hbe).mono hB))
  have hlw := hbx.lt
  clear hbe hW c16 f16 c17 f17
  clear hbx
  go_wp2_with fail
  have jl7 : (69 : Int) ≤ (c : Int) := by omega
  have jz7 : ¬ (c : Int) = 61 := by omega
  have jy7 : ¬ c = 61 := by omega
  go_region_held3 (fun w' => True) (trivial) ((go_at_call 111; refine (u64_at g o n 61 8 _ B (o + 61) xs _ (HSW6.out.below (Below.refl _ _).drew) (by omega) (by omega) rfl).mono ?_; rintro e v7 ⟨rfl, hb1⟩; have hbx1 := HBX6.out.drew.below hb1 (by simpa using hlw); have f18 := hbx1.frozen 18; have c18 := hbx1.cell 18; simp only [List.getElem?_cons_zero, List.getElem?_cons_succ] at c18))
  rw [HNN61.out]
  obtain ⟨W7, hW⟩ : ∃ W, W = v7.setCell ⟨gx, 18, none⟩ (.int .u64 N61) := ⟨_, rfl⟩
  rw [← hW]
  have hbe : Below gx W6 W7 := by rw [hW]; exact (below_undrew (hb1.mono (by simpa using Nat.le_of_lt hlw))).setCell (p := ⟨gx, 18, none⟩) (Nat.le_refl _) _
  have hbx : Bk W7 gx 105 [.slice none 0 0, .slice none 0 0, .int .u8 a0, .int .u8 m1, .int .u8 m2, .int .u8 m3, .bool (bt r4), .bool (bt r5), .bool (bt r6), .bool (bt r7), .bool (bt r8), .bool (bt r9), .bool (bt r10), .bool (bt r11), .int .u16 N3, .int .u64 N5, .slice (some ⟨g, o + 13, none⟩) 32 (c - 13), .slice (some ⟨g, o + 45, none⟩) 16 (c - 45), .int .u64 N61, .int .u64 0, .slice none 0 0, .int .u16 0, .slice none 0 0] := by rw [hW]; exact hbx1.set_ 18 _
  have HBE7 := Lib.hid (HBE6.out.trans hbe)
  have HBX7 := Lib.hid hbx
  have HSW7 := Lib.hid (HS.out.below ((HBE6.out.trans hbe).mono hB))
  have hlw := hbx.lt
  clear hbe hW hb1 hbx1 c18 f18
  clear hbx
  go_wp2_with fail
  have jl8 : (77 : Int) ≤ (c : Int) := by omega
  have jz8 : ¬ (c : Int) = 69 := by omega
  have jy8 : ¬ c = 69 := by omega
  go_region_held3 (fun w' => True) (trivial) ((go_at_call 111; refine (u64_at g o n 69 8 _ B (o + 69) xs _ (HSW7.out.below (Below.refl _ _).drew) (by omega) (by omega) rfl).mono ?_; rintro e v8 ⟨rfl, hb1⟩; have hbx1 := HBX7.out.drew.below hb1 (by simpa using hlw); have f19 := hbx1.frozen 19; have c19 := hbx1.cell 19; simp only [List.getElem?_cons_zero, List.getElem?_cons_succ] at c19))
  rw [HNN69.out]
  obtain ⟨W8, hW⟩ : ∃ W, W = v8.setCell ⟨gx, 19, none⟩ (.int .u64 N69) := ⟨_, rfl⟩
  rw [← hW]
  have hbe : Below gx W7 W8 := by rw [hW]; exact (below_undrew (hb1.mono (by simpa using Nat.le_of_lt hlw))).setCell (p := ⟨gx, 19, none⟩) (Nat.le_refl _) _
  have hbx : Bk W8 gx 105 [.slice none 0 0, .slice none 0 0, .int .u8 a0, .int .u8 m1, .int .u8 m2, .int .u8 m3, .bool (bt r4), .bool (bt r5), .bool (bt r6), .bool (bt r7), .bool (bt r8), .bool (bt r9), .bool (bt r10), .bool (bt r11), .int .u16 N3, .int .u64 N5, .slice (some ⟨g, o + 13, none⟩) 32 (c - 13), .slice (some ⟨g, o + 45, none⟩) 16 (c - 45), .int .u64 N61, .int .u64 N69, .slice none 0 0, .int .u16 0, .slice none 0 0] := by rw [hW]; exact hbx1.set_ 19 _
  have HBE8 := Lib.hid (HBE7.out.trans hbe)
  have HBX8 := Lib.hid hbx
  have HSW8 := Lib.hid (HS.out.below ((HBE7.out.trans hbe).mono hB))
  have hlw := hbx.lt
  clear hbe hW hb1 hbx1 c19 f19
  have c20 := hbx.cell 20
  have f20 := hbx.frozen 20
  simp only [List.getElem?_cons_zero, List.getElem?_cons_succ] at c20
  have x0 := (World.cell?_of_block (a := ⟨g, o, none⟩) (HBE8.out.block g (by omega))).trans HXB0.out
  clear hbx
  go_wp2_with fail
  obtain ⟨W9, hW⟩ : ∃ W, W = (W8.setCell ⟨gx, 20, none⟩ (.slice (some ⟨g, o + 77, none⟩) 16 (c - 77))) := ⟨_, rfl⟩
  rw [← hW]
  have hbe : Below gx W8 W9 := by rw [hW]; exact ((Below.refl gx W8).setCell (p := ⟨gx, 20, none⟩) (Nat.le_refl _) _)
  have hbx : Bk W9 gx 105 [.slice none 0 0, .slice none 0 0, .int .u8 a0, .int .u8 m1, .int .u8 m2, .int .u8 m3, .bool (bt r4), .bool (bt r5), .bool (bt r6), .bool (bt r7), .bool (bt r8), .bool (bt r9), .bool (bt r10), .bool (bt r11), .int .u16 N3, .int .u64 N5, .slice (some ⟨g, o + 13, none⟩) 32 (c - 13), .slice (some ⟨g, o + 45, none⟩) 16 (c - 45), .int .u64 N61, .int .u64 N69, .slice (some ⟨g, o + 77, none⟩) 16 (c - 77), .int .u16 0, .slice none 0 0] := by rw [hW]; exact (HBX8.out.set_ 20 _)
  have HBE9 := Lib.hid (HBE8.out.trans hbe)
  have HBX9 := Lib.hid hbx
  have HSW9 := Lib.hid (HS.out.below ((HBE8.out.trans hbe).mono hB))
  have hlw := hbx.lt
  clear hbe hW c20 f20
  clear hbx
  go_wp2_with fail
  have jl10 : (95 : Int) ≤ (c : Int) := by omega
  have jz10 : ¬ (c : Int) = 93 := by omega
  have jy10 : ¬ c = 93 := by omega
  go_region_held3 (fun w' => True) (trivial) ((go_at_call 100; refine (u16_at g o n 93 2 _ B (o + 93) xs _ (HSW9.out.below (Below.refl _ _).drew) (by omega) (by omega) rfl).mono ?_; rintro e v10 ⟨rfl, hb1⟩; have hbx1 := HBX9.out.drew.below hb1 (by simpa using hlw); have f21 := hbx1.frozen 21; have c21 := hbx1.cell 21; simp only [List.getElem?_cons_zero, List.getElem?_cons_succ] at c21))
  rw [HNN93.out]
  obtain ⟨W10, hW⟩ : ∃ W, W = v10.setCell ⟨gx, 21, none⟩ (.int .u16 N93) := ⟨_, rfl⟩
  rw [← hW]
  have hbe : Below gx W9 W10 := by rw [hW]; exact (below_undrew (hb1.mono (by simpa using Nat.le_of_lt hlw))).setCell (p := ⟨gx, 21, none⟩) (Nat.le_refl _) _
  have hbx : Bk W10 gx 105 [.slice none 0 0, .slice none 0 0, .int .u8 a0, .int .u8 m1, .int .u8 m2, .int .u8 m3, .bool (bt r4), .bool (bt r5), .bool (bt r6), .bool (bt r7), .bool (bt r8), .bool (bt r9), .bool (bt r10), .bool (bt r11), .int .u16 N3, .int .u64 N5, .slice (some ⟨g, o + 13, none⟩) 32 (c - 13), .slice (some ⟨g, o + 45, none⟩) 16 (c - 45), .int .u64 N61, .int .u64 N69, .slice (some ⟨g, o + 77, none⟩) 16 (c - 77), .int .u16 N93, .slice none 0 0] := by rw [hW]; exact hbx1.set_ 21 _
  have HBE10 := Lib.hid (HBE9.out.trans hbe)
  have HBX10 := Lib.hid hbx
  have HSW10 := Lib.hid (HS.out.below ((HBE9.out.trans hbe).mono hB))
  have hlw := hbx.lt
  clear hbe hW hb1 hbx1 c21 f21
  clear hbx
  have hr10 := HR10.out
  have c0 := HBX10.out.cell 0
  have f0 := HBX10.out.frozen 0
  have c1 := HBX10.out.cell 1
  have f1 := HBX10.out.frozen 1
  have c12 := HBX10.out.cell 12
  have f12 := HBX10.out.frozen 12
  have c21 := HBX10.out.cell 21
  have f21 := HBX10.out.frozen 21
  have c22 := HBX10.out.cell 22
  have f22 := HBX10.out.frozen 22
  simp only [List.getElem?_cons_zero, List.getElem?_cons_succ] at c0 c1 c12 c21 c22
  go_wp2_with fail
  go_region_held3 (fun w' => True) (trivial) (fail)
  go_wp2_with fail
  obtain ⟨WF, hWF⟩ : ∃ WF, WF = ((W10.setCell ⟨gx, 0, none⟩ (.slice (some ⟨g, o, none⟩) 95 c)).setCell ⟨gx, 1, none⟩ (.slice A4 (n - 95) (c - 95))).drew := ⟨_, rfl⟩
  have hbf : Below gx W10 WF := by rw [hWF]; exact (((Below.refl gx W10).setCell (p := ⟨gx, 0, none⟩) (Nat.le_refl _) _).setCell (p := ⟨gx, 1, none⟩) (Nat.le_refl _) _).drew
  have hbg := HBE10.out.trans hbf
  have hbz := ((HBX10.out.set_ 0 (.slice (some ⟨g, o, none⟩) 95 c)).set_ 1 (.slice A4 (n - 95) (c - 95))).drew
  have q0 : Sl WF B (some ⟨g, o + 13, none⟩) 32 (bcs ((xs.drop 13).take 32)) := ((HS.out.drop_ (k := 13) (by omega)).take_ (k := 32) (by omega)).below (hbg.mono hB)
  have q1 : Sl WF B (some ⟨g, o + 45, none⟩) 16 (bcs ((xs.drop 45).take 16)) := ((HS.out.drop_ (k := 45) (by omega)).take_ (k := 16) (by omega)).below (hbg.mono hB)
  have q2 : Sl WF B (some ⟨g, o + 77, none⟩) 16 (bcs ((xs.drop 77).take 16)) := ((HS.out.drop_ (k := 77) (by omega)).take_ (k := 16) (by omega)).below (hbg.mono hB)
  have z0 : ((xs.drop 13).take 32).length = 32 := by rw [List.length_take, List.length_drop, HLN.out]; omega
  have z1 : ((xs.drop 45).take 16).length = 16 := by rw [List.length_take, List.length_drop, HLN.out]; omega
  have z2 : ((xs.drop 77).take 16).length = 16 := by rw [List.length_take, List.length_drop, HLN.out]; omega
  have zp : (xs.drop 95).length = n - 95 := by rw [List.length_drop, HLN.out]
  have qp : Sl WF B A4 (n - 95) (bcs (xs.drop 95)) := (HC4.out w B xs HS.out).below (hbg.mono hB)
  rw [← hWF] at hbz
  refine hR.out _ _ ⟨.slice (some ⟨g, o, none⟩) 95 c, A4, c - 95, _, rfl, by rw [← hWF]; exact hbg, by rw [← hWF, zp]; exact hbz, by rw [← hWF, zp]; exact qp, ?_⟩
  rw [← hWF]
  exact ⟨_, c - 13, _, c - 45, _, c - 77, none, 0, by rw [z0, z1, z2]; rfl, by rw [z0]; exact q0, by rw [z1]; exact q1, by rw [z2]; exact q2, Sl.none_ _ _ _⟩
set_option maxRecDepth 1000000 in
set_option maxHeartbeats 10000000 in
theorem dec_key_pln (xs : List UInt8) (h12 : Lib.beNat ((xs.drop 1).take 2) / 4096 % 2 = 0) (hd : Lib.beNat ((xs.drop 93).take 2) ≤ xs.length - 95)  (h4 : 95 ≤ xs.length) (hn : xs.length ≤ 1000) : Decs 85 100 105 xs (xs.drop 95) (Fld.dat4 (fun Q0 q0 Q1 q1 Q2 q2 Q3 q3 => [.int .u8 (xs.getD 0 0).toNat, .int .u8 (Lib.beNat ((xs.drop 1).take 2) % 8 : Nat), .int .u8 (Lib.beNat ((xs.drop 1).take 2) / 8 % 2 : Nat), .int .u8 (Lib.beNat ((xs.drop 1).take 2) / 16 % 4 : Nat), .bool (bt (Lib.beNat ((xs.drop 1).take 2) / 64 % 2)), .bool (bt (Lib.beNat ((xs.drop 1).take 2) / 128 % 2)), .bool (bt (Lib.beNat ((xs.drop 1).take 2) / 256 % 2)), .bool (bt (Lib.beNat ((xs.drop 1).take 2) / 512 % 2)), .bool (bt (Lib.beNat ((xs.drop 1).take 2) / 1024 % 2)), .bool (bt (Lib.beNat ((xs.drop 1).take 2) / 2048 % 2)), .bool (bt (Lib.beNat ((xs.drop 1).take 2) / 4096 % 2)), .bool (bt (Lib.beNat ((xs.drop 1).take 2) / 8192 % 2)), .int .u16 (Lib.beNat ((xs.drop 3).take 2) : Nat), .int .u64 (Lib.beNat ((xs.drop 5).take 8) : Nat), .slice Q0 ((xs.drop 13).take 32).length q0, .slice Q1 ((xs.drop 45).take 16).length q1, .int .u64 (Lib.beNat ((xs.drop 61).take 8) : Nat), .int .u64 (Lib.beNat ((xs.drop 69).take 8) : Nat), .slice Q2 ((xs.drop 77).take 16).length q2, .int .u16 (Lib.beNat ((xs.drop 93).take 2) : Nat), .slice Q3 ([] : List UInt8).length q3]) ((xs.drop 13).take 32) ((xs.drop 45).take 16) ((xs.drop 77).take 16) ([])) := by
  intro gk u A n c w hk hs hnc
  refine calls_hid fun R hR => ?_
  have hl : xs.length = n := by rw [← bcs_length]; exact hs.1
  rw [hl] at h4 hn
  obtain ⟨g, o, rfl, hg, _⟩ := hs.2 (by omega)
  have hlt := hk.lt
  have HS := Lib.hid hs
  have HK := Lib.hid hk
  clear hs hk
  go_enter Tryz.func85, Tryz.ntmps85
  go_wp2_with fail
  obtain ⟨W, hW⟩ : ∃ W, W = w.alloc (.cells #[.slice none 0 0, .slice none 0 0, .int .u8 0, .int .u8 0, .int .u8 0, .int .u8 0, .bool false, .bool false, .bool false, .bool false, .bool false, .bool false, .bool false, .bool false, .int .u16 0, .int .u64 0, .slice none 0 0, .slice none 0 0, .int .u64 0, .int .u64 0, .slice none 0 0, .int .u16 0, .slice none 0 0] 105) := ⟨_, rfl⟩
  rw [← hW]
  have hx : Bk W w.heap.size 105 [.slice none 0 0, .slice none 0 0, .int .u8 0, .int .u8 0, .int .u8 0, .int .u8 0, .bool false, .bool false, .bool false, .bool false, .bool false, .bool false, .bool false, .bool false, .int .u16 0, .int .u64 0, .slice none 0 0, .slice none 0 0, .int .u64 0, .int .u64 0, .slice none 0 0, .int .u16 0, .slice none 0 0] := by rw [hW]; exact Bk.new _ _ _
  have hbe : Below w.heap.size w W := by rw [hW]; exact (Below.refl _ _).alloc (Nat.le_refl _) _
  have HBE := Lib.hid hbe
  clear hW
  refine (dld_decs 100 105 149 w.heap.size gk u _ (xs.drop 95) _ (dnil_key _) (dmeth_key _) dent_key w W (HK.out.below hbe hlt) hlt rfl HBE.out (dfb_key_pln xs h12 hd g o n c gk w.heap.size _ W ((HS.out.below (hbe.mono (Nat.le_of_lt hlt)))) (Nat.le_of_lt hlt) h4 hnc hn hx)).mono ?_
  rintro e w' ⟨gx, Cv, Ap, cp, fs, rfl, h1, h2, h3, h4', h5, h6⟩
  go_wp2_with fail
  exact hR.out _ _ ⟨gx, Cv, Ap, cp, fs, rfl, h1, h2, h3, h4', h5, h6⟩
end Go.Proofs.YtphmklgbbpiafaaGreat
