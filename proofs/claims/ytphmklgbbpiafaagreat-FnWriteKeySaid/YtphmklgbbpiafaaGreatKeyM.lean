/-
  EAPOL's key: bytes that its decoder refuses. No condition.
-/
import Derived.Deep.RegionHeld3
import Derived.Test.YtphmklgbbpiafaaGreatKeyD
import Derived.Test.YtphmklgbbpiafaaGreatKeyF
import Derived.Test.YtphmklgbbpiafaaGreatMskB
import Derived.Test.YtphmklgbbpiafaaGreatCutE
import Derived.Test.YtphmklgbbpiafaaGreatSrdB
namespace Go.Proofs.YtphmklgbbpiafaaGreat
open Go Go.RowKit
set_option linter.unusedVariables false
set_option linter.unusedSimpArgs false
attribute [local go_sem] sd_drewN ad_drewN
set_option maxRecDepth 100000 in
set_option maxHeartbeats 4000000 in
theorem dld_no (Tp : TypeId) (f : FuncId) (gx gk : Nat) (sl : Value)
    (hnil : ∀ W, (nilAhead 390 Tp (.pointer (some ⟨gx, 0, none⟩)) "DecodeFromBytes").run Tryz.prog W = .ok (some false) W)
    (hmeth : ∀ W, (method 390 Tp (.pointer (some ⟨gx, 0, none⟩)) "DecodeFromBytes").run Tryz.prog W = .ok (f, .pointer (some ⟨gx, 0, none⟩)) W)
    (hent : ∀ args W, (callFunc f args).run Tryz.prog W = .ok (.enter f args) W)
    (w : World) (hD : Calls Tryz.prog f #[.pointer (some ⟨gx, 0, none⟩), sl, .iface 234 (.pointer (some ⟨gk, 0, none⟩))] w fun e w' => ∃ v, e = .returned (.iface 239 v) ∧ Below gx w w') :
    Calls Tryz.prog 105 #[.iface Tp (.pointer (some ⟨gx, 0, none⟩)), sl, .iface 234 (.pointer (some ⟨gk, 0, none⟩))] w fun e w' => ∃ v, e = .returned (.iface 239 v) ∧ Below gx w w' := by
  refine calls_hid fun R hR => ?_
  have HD := Lib.hid hD
  clear hD
  go_enter Tryz.func105, Tryz.ntmps105
  go_wp2_with fail
  refine HD.out.mono ?_
  rintro e w1 ⟨v, rfl, hb⟩
  have HB := Lib.hid hb
  clear hb
  go_wp2_with fail
  exact hR.out _ _ ⟨v, rfl, HB.out⟩
set_option maxRecDepth 1000000 in
set_option maxHeartbeats 40000000 in
/-- What DecodeFromBytes does to the layer in block gx. -/
theorem dfb_key_no (xs : List UInt8) (hd : xs.length - 95 < Lib.beNat ((xs.drop 93).take 2))  (g o n c B gx : Nat) (gk : Nat) (w : World) (hs : Sl w B (some ⟨g, o, none⟩) n (bcs xs)) (hB : B ≤ gx) (h4 : 95 ≤ n) (hnc : n ≤ c) (hn : n ≤ 1000)
    (hx : Bk w gx 105 [.slice none 0 0, .slice none 0 0, .int .u8 0, .int .u8 0, .int .u8 0, .int .u8 0, .bool false, .bool false, .bool false, .bool false, .bool false, .bool false, .bool false, .bool false, .int .u16 0, .int .u64 0, .slice none 0 0, .slice none 0 0, .int .u64 0, .int .u64 0, .slice none 0 0, .int .u16 0, .slice none 0 0]) :
    Calls Tryz.prog 149 #[.pointer (some ⟨gx, 0, none⟩), .slice (some ⟨g, o, none⟩) n c, .iface 234 (.pointer (some ⟨gk, 0, none⟩))] w fun e w' => ∃ v, e = .returned (.iface 239 v) ∧ Below gx w w' := by
  refine calls_hid fun R hR => ?_
  have hln : xs.length = n := by rw [← bcs_length]; exact hs.1
  rw [hln] at hd
  obtain ⟨hg, _⟩ := hs.at_ (by omega)
  obtain ⟨A4, cut4, cs4, cf4⟩ := cut_from g o n c 95 95 rfl (by omega) hnc
  have hlt := hx.lt
  have b0 := (xs.getD 0 0).toNat_lt
  have x0 : w.cell? ⟨g, o, none⟩ = some (.int .u8 (xs.getD 0 0).toNat) := hs.byte (k := 0) (by omega)
  have HXB0 := Lib.hid x0
  have j0 : 0 < n := by omega
  have i0 : (0 : Int) < (n : Int) := by omega
  have c0 := hx.cell 0
  have c1 := hx.cell 1
  have c2 := hx.cell 2
  have c3 := hx.cell 3
  have c4 := hx.cell 4
  have c5 := hx.cell 5
  have c6 := hx.cell 6
  have c7 := hx.cell 7
  have c8 := hx.cell 8
  have c9 := hx.cell 9
  have c10 := hx.cell 10
  have c11 := hx.cell 11
  have c12 := hx.cell 12
  have c13 := hx.cell 13
  have c14 := hx.cell 14
  have c15 := hx.cell 15
  have c16 := hx.cell 16
  have c17 := hx.cell 17
  have c18 := hx.cell 18
  have c19 := hx.cell 19
  have c20 := hx.cell 20
  have c21 := hx.cell 21
  have c22 := hx.cell 22
  simp only [List.getElem?_cons_zero, List.getElem?_cons_succ] at c0 c1 c2 c3 c4 c5 c6 c7 c8 c9 c10 c11 c12 c13 c14 c15 c16 c17 c18 c19 c20 c21 c22
  have f0 := hx.frozen 0
  have f1 := hx.frozen 1
  have f2 := hx.frozen 2
  have f3 := hx.frozen 3
  have f4 := hx.frozen 4
  have f5 := hx.frozen 5
  have f6 := hx.frozen 6
  have f7 := hx.frozen 7
  have f8 := hx.frozen 8
  have f9 := hx.frozen 9
  have f10 := hx.frozen 10
  have f11 := hx.frozen 11
  have f12 := hx.frozen 12
  have f13 := hx.frozen 13
  have f14 := hx.frozen 14
  have f15 := hx.frozen 15
  have f16 := hx.frozen 16
  have f17 := hx.frozen 17
  have f18 := hx.frozen 18
  have f19 := hx.frozen 19
  have f20 := hx.frozen 20
  have f21 := hx.frozen 21
  have f22 := hx.frozen 22
  have HS := Lib.hid hs
  have HX := Lib.hid hx
  have HC4 := Lib.hid cs4
  clear hs hx cs4 cf4
  have jc : (95 : Int) ≤ (c : Int) := by omega
  have jn : (95 : Int) ≤ (n : Int) := by omega
  have tl : decide ((n : Int) < 95) = false := by simp; omega
  have hne : gx ≠ g := by omega
  have hne' : ¬ gx = g := hne
  have hne2 : ¬ g = gx := fun h => hne h.symm
  generalize (xs.getD 0 0).toNat = a0 at *
  have HLN := Lib.hid hln
  clear hln
  have hN1 : Lib.beNat ((xs.drop 1).take 2) < 65536 := beNat_take _ 2
  generalize hNN1 : Lib.beNat ((xs.drop 1).take 2) = N1 at *
  have HNN1 := Lib.hid hNN1
  clear hNN1
  have hN3 : Lib.beNat ((xs.drop 3).take 2) < 65536 := beNat_take _ 2
  generalize hNN3 : Lib.beNat ((xs.drop 3).take 2) = N3 at *
  have HNN3 := Lib.hid hNN3
  clear hNN3
  have hN5 : Lib.beNat ((xs.drop 5).take 8) < 18446744073709551616 := beNat_take _ 8
  generalize hNN5 : Lib.beNat ((xs.drop 5).take 8) = N5 at *
  have HNN5 := Lib.hid hNN5
  clear hNN5
  have hN61 : Lib.beNat ((xs.drop 61).take 8) < 18446744073709551616 := beNat_take _ 8
  generalize hNN61 : Lib.beNat ((xs.drop 61).take 8) = N61 at *
  have HNN61 := Lib.hid hNN61
  clear hNN61
  have hN69 : Lib.beNat ((xs.drop 69).take 8) < 18446744073709551616 := beNat_take _ 8
  generalize hNN69 : Lib.beNat ((xs.drop 69).take 8) = N69 at *
  have HNN69 := Lib.hid hNN69
  clear hNN69
  have hN93 : Lib.beNat ((xs.drop 93).take 2) < 65536 := beNat_take _ 2
  generalize hNN93 : Lib.beNat ((xs.drop 93).take 2) = N93 at *
  have HNN93 := Lib.hid hNN93
  clear hNN93
  have kz13 : ¬ (c : Int) = 13 := by omega
  have ky13 : ¬ c = 13 := by omega
  have kz45 : ¬ (c : Int) = 45 := by omega
  have ky45 : ¬ c = 45 := by omega
  have kz77 : ¬ (c : Int) = 77 := by omega
  have ky77 : ¬ c = 77 := by omega
  have kc45 : (45 : Int) ≤ (c : Int) := by omega
  have kc61 : (61 : Int) ≤ (c : Int) := by omega
  have kc93 : (93 : Int) ≤ (c : Int) := by omega
  have kc95 : (95 : Int) ≤ (c : Int) := by omega
  have g3 : bits .and .u16 (N1 : Int) 7 = ((N1 % 8 : Nat) : Int) := by
    have h := m16_mask 0 3 7 (by omega) (by decide) N1 (by omega)
    simp only [Nat.pow_zero, Nat.div_one, Nat.mul_one, Nat.reducePow] at h
    exact h
  have g1 : bits .and .u16 (N1 : Int) 8 = ((N1 / 8 % 2 * 8 : Nat) : Int) := m16_mask 3 1 8 (by omega) (by decide) N1 (by omega)
  have g2 : bits .and .u16 (N1 : Int) 48 = ((N1 / 16 % 4 * 16 : Nat) : Int) := m16_mask 4 2 48 (by omega) (by decide) N1 (by omega)
  have e1 : ((N1 / 8 % 2 * 8 : Nat) : Int) / 8 = ((N1 / 8 % 2 : Nat) : Int) := by omega
  have e2 : ((N1 / 16 % 4 * 16 : Nat) : Int) / 16 = ((N1 / 16 % 4 : Nat) : Int) := by omega
  have p3 : N1 % 8 < 8 := by omega
  have p1 : N1 / 8 % 2 < 2 := by omega
  have p2 : N1 / 16 % 4 < 4 := by omega
  have y64 : bits .and .u16 (N1 : Int) 64 = ((N1 / 64 % 2 * 64 : Nat) : Int) := m16_mask 6 1 64 (by omega) (by decide) N1 (by omega)
  have l64 : N1 / 64 % 2 < 2 := by omega
  have v64 : (((N1 / 64 % 2 * 64 : Nat) : Int) != 0) = bt (N1 / 64 % 2) := bt_ne _ 64 (by decide) _ l64 (by omega)
  have y128 : bits .and .u16 (N1 : Int) 128 = ((N1 / 128 % 2 * 128 : Nat) : Int) := m16_mask 7 1 128 (by omega) (by decide) N1 (by omega)
  have l128 : N1 / 128 % 2 < 2 := by omega
  have v128 : (((N1 / 128 % 2 * 128 : Nat) : Int) != 0) = bt (N1 / 128 % 2) := bt_ne _ 128 (by decide) _ l128 (by omega)
  have y256 : bits .and .u16 (N1 : Int) 256 = ((N1 / 256 % 2 * 256 : Nat) : Int) := m16_mask 8 1 256 (by omega) (by decide) N1 (by omega)
  have l256 : N1 / 256 % 2 < 2 := by omega
  have v256 : (((N1 / 256 % 2 * 256 : Nat) : Int) != 0) = bt (N1 / 256 % 2) := bt_ne _ 256 (by decide) _ l256 (by omega)
  have y512 : bits .and .u16 (N1 : Int) 512 = ((N1 / 512 % 2 * 512 : Nat) : Int) := m16_mask 9 1 512 (by omega) (by decide) N1 (by omega)
  have l512 : N1 / 512 % 2 < 2 := by omega
  have v512 : (((N1 / 512 % 2 * 512 : Nat) : Int) != 0) = bt (N1 / 512 % 2) := bt_ne _ 512 (by decide) _ l512 (by omega)
  have y1024 : bits .and .u16 (N1 : Int) 1024 = ((N1 / 1024 % 2 * 1024 : Nat) : Int) := m16_mask 10 1 1024 (by omega) (by decide) N1 (by omega)
  have l1024 : N1 / 1024 % 2 < 2 := by omega
  have v1024 : (((N1 / 1024 % 2 * 1024 : Nat) : Int) != 0) = bt (N1 / 1024 % 2) := bt_ne _ 1024 (by decide) _ l1024 (by omega)
  have y2048 : bits .and .u16 (N1 : Int) 2048 = ((N1 / 2048 % 2 * 2048 : Nat) : Int) := m16_mask 11 1 2048 (by omega) (by decide) N1 (by omega)
  have l2048 : N1 / 2048 % 2 < 2 := by omega
  have v2048 : (((N1 / 2048 % 2 * 2048 : Nat) : Int) != 0) = bt (N1 / 2048 % 2) := bt_ne _ 2048 (by decide) _ l2048 (by omega)
  have y4096 : bits .and .u16 (N1 : Int) 4096 = ((N1 / 4096 % 2 * 4096 : Nat) : Int) := m16_mask 12 1 4096 (by omega) (by decide) N1 (by omega)
  have l4096 : N1 / 4096 % 2 < 2 := by omega
  have v4096 : (((N1 / 4096 % 2 * 4096 : Nat) : Int) != 0) = bt (N1 / 4096 % 2) := bt_ne _ 4096 (by decide) _ l4096 (by omega)
  have y8192 : bits .and .u16 (N1 : Int) 8192 = ((N1 / 8192 % 2 * 8192 : Nat) : Int) := m16_mask 13 1 8192 (by omega) (by decide) N1 (by omega)
  have l8192 : N1 / 8192 % 2 < 2 := by omega
  have v8192 : (((N1 / 8192 % 2 * 8192 : Nat) : Int) != 0) = bt (N1 / 8192 % 2) := bt_ne _ 8192 (by decide) _ l8192 (by omega)
  generalize N1 / 8 % 2 * 8 = t1 at *
  generalize N1 / 16 % 4 * 16 = t2 at *
  generalize N1 % 8 = m1 at *
  generalize N1 / 8 % 2 = m2 at *
  generalize N1 / 16 % 4 = m3 at *
  generalize N1 / 64 % 2 * 64 = t64 at *
  generalize N1 / 64 % 2 = r4 at *
  generalize N1 / 128 % 2 * 128 = t128 at *
  generalize N1 / 128 % 2 = r5 at *
  generalize N1 / 256 % 2 * 256 = t256 at *
  generalize N1 / 256 % 2 = r6 at *
  generalize N1 / 512 % 2 * 512 = t512 at *
  generalize N1 / 512 % 2 = r7 at *
  generalize N1 / 1024 % 2 * 1024 = t1024 at *
  generalize N1 / 1024 % 2 = r8 at *
  generalize N1 / 2048 % 2 * 2048 = t2048 at *
  generalize N1 / 2048 % 2 = r9 at *
  generalize N1 / 4096 % 2 * 4096 = t4096 at *
  generalize N1 / 4096 % 2 = r10 at *
  generalize N1 / 8192 % 2 * 8192 = t8192 at *
  generalize N1 / 8192 % 2 = r11 at *
  have wm1 : IntKind.u8.wrap (m1 : Int) = m1 := by rw [u8w]; omega
  have xm1 : (m1 : Int) % 256 = m1 := by omega
  have wm2 : IntKind.u8.wrap (m2 : Int) = m2 := by rw [u8w]; omega
  have xm2 : (m2 : Int) % 256 = m2 := by omega
  have wm3 : IntKind.u8.wrap (m3 : Int) = m3 := by rw [u8w]; omega
  have xm3 : (m3 : Int) % 256 = m3 := by omega
  have vN : IntKind.i64.wrap (N93 : Int) = N93 := IntWalk.i64_in _ (by omega)
  have v95 : IntKind.i64.wrap (95 + (N93 : Int)) = 95 + N93 := IntWalk.i64_in _ (by omega)
  have tn : decide ((n : Int) < 95 + (N93 : Int)) = true := by rw [decide_eq_true_eq]; omega
  have hdN := hd
  have snil := trunc_nil gk
  have smeth := trunc_meth gk
  have sent := trunc_ent
  go_enter Tryz.func149, Tryz.ntmps149
  have HBE0 := Lib.hid (Below.refl gx w)
  have HBX0 := HX
  have HSW0 := HS
  go_wp2_with fail
  obtain ⟨W1, hW⟩ : ∃ W, W = (w.setCell ⟨gx, 2, none⟩ (.int .u8 a0)) := ⟨_, rfl⟩
  rw [← hW]
  have hbe : Below gx w W1 := by rw [hW]; exact ((Below.refl gx w).setCell (p := ⟨gx, 2, none⟩) (Nat.le_refl _) _)
  have hbx : Bk W1 gx 105 [.slice none 0 0, .slice none 0 0, .int .u8 a0, .int .u8 0, .int .u8 0, .int .u8 0, .bool false, .bool false, .bool false, .bool false, .bool false, .bool false, .bool false, .bool false, .int .u16 0, .int .u64 0, .slice none 0 0, .slice none 0 0, .int .u64 0, .int .u64 0, .slice none 0 0, .int .u16 0, .slice none 0 0] := by rw [hW]; exact (HBX0.out.set_ 2 _)
  have HBE1 := Lib.hid (HBE0.out.trans hbe)
  have HBX1 := Lib.hid hbx
  have HSW1 := Lib.hid (HS.out.below ((HBE0.out.trans hbe).mono hB))
  have hlw := hbx.lt
  clear hbe hW c0 f0 c1 f1 c2 f2 c3 f3 c4 f4 c5 f5 c6 f6 c7 f7 c8 f8 c9 f9 c10 f10 c11 f11 c12 f12 c13 f13 c14 f14 c15 f15 c16 f16 c17 f17 c18 f18 c19 f19 c20 f20 c21 f21 c22 f22
  clear hbx
  go_wp2_with fail
  have jl2 : (3 : Int) ≤ (c : Int) := by omega
  have jz2 : ¬ (c : Int) = 1 := by omega
  have jy2 : ¬ c = 1 := by omega
  go_region_held3 (fun w' => True) (trivial) ((go_at_call 100; (with_reducible refine (u16_at g o n 1 2 _ B (o + 1) xs _ (HSW1.out.below (Below.refl _ _).drew) (by omega) (by omega) rfl).mono ?_); rintro e v2 ⟨rfl, hb1⟩; have hbx1 := HBX1.out.drew.below hb1 (by simpa using hlw)))
  first | rw [HNN1.out] | rw [← List.drop_one, HNN1.out]
  obtain ⟨W2, hW⟩ : ∃ W, W = v2 := ⟨_, rfl⟩
  rw [← hW]
  have hbe : Below gx W1 W2 := by rw [hW]; exact below_undrew (hb1.mono (by simpa using Nat.le_of_lt hlw))
  have hbx : Bk W2 gx 105 [.slice none 0 0, .slice none 0 0, .int .u8 a0, .int .u8 0, .int .u8 0, .int .u8 0, .bool false, .bool false, .bool false, .bool false, .bool false, .bool false, .bool false, .bool false, .int .u16 0, .int .u64 0, .slice none 0 0, .slice none 0 0, .int .u64 0, .int .u64 0, .slice none 0 0, .int .u16 0, .slice none 0 0] := by rw [hW]; exact hbx1
  have HBE2 := Lib.hid (HBE1.out.trans hbe)
  have HBX2 := Lib.hid hbx
  have HSW2 := Lib.hid (HS.out.below ((HBE1.out.trans hbe).mono hB))
  have hlw := hbx.lt
  clear hbe hW hb1 hbx1
  have c3 := hbx.cell 3
  have f3 := hbx.frozen 3
  have c4 := hbx.cell 4
  have f4 := hbx.frozen 4
  have c5 := hbx.cell 5
  have f5 := hbx.frozen 5
  have c6 := hbx.cell 6
  have f6 := hbx.frozen 6
  have c7 := hbx.cell 7
  have f7 := hbx.frozen 7
  have c8 := hbx.cell 8
  have f8 := hbx.frozen 8
  have c9 := hbx.cell 9
  have f9 := hbx.frozen 9
  have c10 := hbx.cell 10
  have f10 := hbx.frozen 10
  have c11 := hbx.cell 11
  have f11 := hbx.frozen 11
  have c12 := hbx.cell 12
  have f12 := hbx.frozen 12
  have c13 := hbx.cell 13
  have f13 := hbx.frozen 13
  simp only [List.getElem?_cons_zero, List.getElem?_cons_succ] at c3 c4 c5 c6 c7 c8 c9 c10 c11 c12 c13
  have x0 := (World.cell?_of_block (a := ⟨g, o, none⟩) (HBE2.out.block g (by omega))).trans HXB0.out
  clear hbx
  go_wp2_with fail
  obtain ⟨W3, hW⟩ : ∃ W, W = (((((((((((W2.setCell ⟨gx, 3, none⟩ (.int .u8 m1)).setCell ⟨gx, 4, none⟩ (.int .u8 m2)).setCell ⟨gx, 5, none⟩ (.int .u8 m3)).setCell ⟨gx, 6, none⟩ (.bool (bt r4))).setCell ⟨gx, 7, none⟩ (.bool (bt r5))).setCell ⟨gx, 8, none⟩ (.bool (bt r6))).setCell ⟨gx, 9, none⟩ (.bool (bt r7))).setCell ⟨gx, 10, none⟩ (.bool (bt r8))).setCell ⟨gx, 11, none⟩ (.bool (bt r9))).setCell ⟨gx, 12, none⟩ (.bool (bt r10))).setCell ⟨gx, 13, none⟩ (.bool (bt r11))) := ⟨_, rfl⟩
  rw [← hW]
  have hbe : Below gx W2 W3 := by rw [hW]; exact ((((((((((((Below.refl gx W2).setCell (p := ⟨gx, 3, none⟩) (Nat.le_refl _) _).setCell (p := ⟨gx, 4, none⟩) (Nat.le_refl _) _).setCell (p := ⟨gx, 5, none⟩) (Nat.le_refl _) _).setCell (p := ⟨gx, 6, none⟩) (Nat.le_refl _) _).setCell (p := ⟨gx, 7, none⟩) (Nat.le_refl _) _).setCell (p := ⟨gx, 8, none⟩) (Nat.le_refl _) _).setCell (p := ⟨gx, 9, none⟩) (Nat.le_refl _) _).setCell (p := ⟨gx, 10, none⟩) (Nat.le_refl _) _).setCell (p := ⟨gx, 11, none⟩) (Nat.le_refl _) _).setCell (p := ⟨gx, 12, none⟩) (Nat.le_refl _) _).setCell (p := ⟨gx, 13, none⟩) (Nat.le_refl _) _)
  have hbx : Bk W3 gx 105 [.slice none 0 0, .slice none 0 0, .int .u8 a0, .int .u8 m1, .int .u8 m2, .int .u8 m3, .bool (bt r4), .bool (bt r5), .bool (bt r6), .bool (bt r7), .bool (bt r8), .bool (bt r9), .bool (bt r10), .bool (bt r11), .int .u16 0, .int .u64 0, .slice none 0 0, .slice none 0 0, .int .u64 0, .int .u64 0, .slice none 0 0, .int .u16 0, .slice none 0 0] := by rw [hW]; exact (((((((((((HBX2.out.set_ 3 _).set_ 4 _).set_ 5 _).set_ 6 _).set_ 7 _).set_ 8 _).set_ 9 _).set_ 10 _).set_ 11 _).set_ 12 _).set_ 13 _)
  have HBE3 := Lib.hid (HBE2.out.trans hbe)
  have HBX3 := Lib.hid hbx
  have HSW3 := Lib.hid (HS.out.below ((HBE2.out.trans hbe).mono hB))
  have hlw := hbx.lt
  clear hbe hW c3 f3 c4 f4 c5 f5 c6 f6 c7 f7 c8 f8 c9 f9 c10 f10 c11 f11 c12 f12 c13 f13
  clear hbx
  go_wp2_with fail
  have jl4 : (5 : Int) ≤ (c : Int) := by omega
  have jz4 : ¬ (c : Int) = 3 := by omega
  have jy4 : ¬ c = 3 := by omega
  go_region_held3 (fun w' => True) (trivial) ((go_at_call 100; refine (u16_at g o n 3 2 _ B (o + 3) xs _ (HSW3.out.below (Below.refl _ _).drew) (by omega) (by omega) rfl).mono ?_; rintro e v4 ⟨rfl, hb1⟩; have hbx1 := HBX3.out.drew.below hb1 (by simpa using hlw); have f14 := hbx1.frozen 14; have c14 := hbx1.cell 14; simp only [List.getElem?_cons_zero, List.getElem?_cons_succ] at c14))
  rw [HNN3.out]
  obtain ⟨W4, hW⟩ : ∃ W, W = v4.setCell ⟨gx, 14, none⟩ (.int .u16 N3) := ⟨_, rfl⟩
  rw [← hW]
  have hbe : Below gx W3 W4 := by rw [hW]; exact (below_undrew (hb1.mono (by simpa using Nat.le_of_lt hlw))).setCell (p := ⟨gx, 14, none⟩) (Nat.le_refl _) _
  have hbx : Bk W4 gx 105 [.slice none 0 0, .slice none 0 0, .int .u8 a0, .int .u8 m1, .int .u8 m2, .int .u8 m3, .bool (bt r4), .bool (bt r5), .bool (bt r6), .bool (bt r7), .bool (bt r8), .bool (bt r9), .bool (bt r10), .bool (bt r11), .int .u16 N3, .int .u64 0, .slice none 0 0, .slice none 0 0, .int .u64 0, .int .u64 0, .slice none 0 0, .int .u16 0, .slice none 0 0] := by rw [hW]; exact hbx1.set_ 14 _
  have HBE4 := Lib.hid (HBE3.out.trans hbe)
  have HBX4 := Lib.hid hbx
  have HSW4 := Lib.hid (HS.out.below ((HBE3.out.trans hbe).mono hB))
  have hlw := hbx.lt
  clear hbe hW hb1 hbx1 c14 f14
  clear hbx
  go_wp2_with fail
  have jl5 : (13 : Int) ≤ (c : Int) := by omega
  have jz5 : ¬ (c : Int) = 5 := by omega
  have jy5 : ¬ c = 5 := by omega
  go_region_held3 (fun w' => True) (trivial) ((go_at_call 111; refine (u64_at g o n 5 8 _ B (o + 5) xs _ (HSW4.out.below (Below.refl _ _).drew) (by omega) (by omega) rfl).mono ?_; rintro e v5 ⟨rfl, hb1⟩; have hbx1 := HBX4.out.drew.below hb1 (by simpa using hlw); have f15 := hbx1.frozen 15; have c15 := hbx1.cell 15; simp only [List.getElem?_cons_zero, List.getElem?_cons_succ] at c15))
  rw [HNN5.out]
  obtain ⟨W5, hW⟩ : ∃ W, W = v5.setCell ⟨gx, 15, none⟩ (.int .u64 N5) := ⟨_, rfl⟩
  rw [← hW]
  have hbe : Below gx W4 W5 := by rw [hW]; exact (below_undrew (hb1.mono (by simpa using Nat.le_of_lt hlw))).setCell (p := ⟨gx, 15, none⟩) (Nat.le_refl _) _
  have hbx : Bk W5 gx 105 [.slice none 0 0, .slice none 0 0, .int .u8 a0, .int .u8 m1, .int .u8 m2, .int .u8 m3, .bool (bt r4), .bool (bt r5), .bool (bt r6), .bool (bt r7), .bool (bt r8), .bool (bt r9), .bool (bt r10), .bool (bt r11), .int .u16 N3, .int .u64 N5, .slice none 0 0, .slice none 0 0, .int .u64 0, .int .u64 0, .slice none 0 0, .int .u16 0, .slice none 0 0] := by rw [hW]; exact hbx1.set_ 15 _
  have HBE5 := Lib.hid (HBE4.out.trans hbe)
  have HBX5 := Lib.hid hbx
  have HSW5 := Lib.hid (HS.out.below ((HBE4.out.trans hbe).mono hB))
  have hlw := hbx.lt
  clear hbe hW hb1 hbx1 c15 f15
  have c16 := hbx.cell 16
  have f16 := hbx.frozen 16
  have c17 := hbx.cell 17
  have f17 := hbx.frozen 17
  simp only [List.getElem?_cons_zero, List.getElem?_cons_succ] at c16 c17
  have x0 := (World.cell?_of_block (a := ⟨g, o, none⟩) (HBE5.out.block g (by omega))).trans HXB0.out
  clear hbx
  go_wp2_with fail
  obtain ⟨W6, hW⟩ : ∃ W, W = ((W5.setCell ⟨gx, 16, none⟩ (.slice (some ⟨g, o + 13, none⟩) 32 (c - 13))).setCell ⟨gx, 17, none⟩ (.slice (some ⟨g, o + 45, none⟩) 16 (c - 45))) := ⟨_, rfl⟩
  rw [← hW]
  have hbe : Below gx W5 W6 := by rw [hW]; exact (((Below.refl gx W5).setCell (p := ⟨gx, 16, none⟩) (Nat.le_refl _) _).setCell (p := ⟨gx, 17, none⟩) (Nat.le_refl _) _)
  have hbx : Bk W6 gx 105 [.slice none 0 0, .slice none 0 0, .int .u8 a0, .int .u8 m1, .int .u8 m2, .int .u8 m3, .bool (bt r4), .bool (bt r5), .bool (bt r6), .bool (bt r7), .bool (bt r8), .bool (bt r9), .bool (bt r10), .bool (bt r11), .int .u16 N3, .int .u64 N5, .slice (some ⟨g, o + 13, none⟩) 32 (c - 13), .slice (some ⟨g, o + 45, none⟩) 16 (c - 45), .int .u64 0, .int .u64 0, .slice none 0 0, .int .u16 0, .slice none 0 0] := by rw [hW]; exact ((HBX5.out.set_ 16 _).set_ 17 _)
  have HBE6 := Lib.hid (HBE5.out.trans hbe)
  have HBX6 := Lib.hid hbx
  have HSW6 := Lib.hid (HS.out.below ((HBE5.out.trans hbe).mono hB))
  have hlw := hbx.lt
  clear hbe hW c16 f16 c17 f17
  clear hbx
  go_wp2_with fail
  have jl7 : (69 : Int) ≤ (c : Int) := by omega
  have jz7 : ¬ (c : Int) = 61 := by omega
  have jy7 : ¬ c = 61 := by omega
  go_region_held3 (fun w' => True) (trivial) ((go_at_call 111; refine (u64_at g o n 61 8 _ B (o + 61) xs _ (HSW6.out.below (Below.refl _ _).drew) (by omega) (by omega) rfl).mono ?_; rintro e v7 ⟨rfl, hb1⟩; have hbx1 := HBX6.out.drew.below hb1 (by simpa using hlw); have f18 := hbx1.frozen 18; have c18 := hbx1.cell 18; simp only [List.getElem?_cons_zero, List.getElem?_cons_succ] at c18))
  rw [HNN61.out]
  obtain ⟨W7, hW⟩ : ∃ W, W = v7.setCell ⟨gx, 18, none⟩ (.int .u64 N61) := ⟨_, rfl⟩
  rw [← hW]
  have hbe : Below gx W6 W7 := by rw [hW]; exact (below_undrew (hb1.mono (by simpa using Nat.le_of_lt hlw))).setCell (p := ⟨gx, 18, none⟩) (Nat.le_refl _) _
  have hbx : Bk W7 gx 105 [.slice none 0 0, .slice none 0 0, .int .u8 a0, .int .u8 m1, .int .u8 m2, .int .u8 m3, .bool (bt r4), .bool (bt r5), .bool (bt r6), .bool (bt r7), .bool (bt r8), .bool (bt r9), .bool (bt r10), .bool (bt r11), .int .u16 N3, .int .u64 N5, .slice (some ⟨g, o + 13, none⟩) 32 (c - 13), .slice (some ⟨g, o + 45, none⟩) 16 (c - 45), .int .u64 N61, .int .u64 0, .slice none 0 0, .int .u16 0, .slice none 0 0] := by rw [hW]; exact hbx1.set_ 18 _
  have HBE7 := Lib.hid (HBE6.out.trans hbe)
  have HBX7 := Lib.hid hbx
  have HSW7 := Lib.hid (HS.out.below ((HBE6.out.trans hbe).mono hB))
  have hlw := hbx.lt
  clear hbe hW hb1 hbx1 c18 f18
  clear hbx
  go_wp2_with fail
  have jl8 : (77 : Int) ≤ (c : Int) := by omega
  have jz8 : ¬ (c : Int) = 69 := by omega
  have jy8 : ¬ c = 69 := by omega
  go_region_held3 (fun w' => True) (trivial) ((go_at_call 111; refine (u64_at g o n 69 8 _ B (o + 69) xs _ (HSW7.out.below (Below.refl _ _).drew) (by omega) (by omega) rfl).mono ?_; rintro e v8 ⟨rfl, hb1⟩; have hbx1 := HBX7.out.drew.below hb1 (by simpa using hlw); have f19 := hbx1.frozen 19; have c19 := hbx1.cell 19; simp only [List.getElem?_cons_zero, List.getElem?_cons_succ] at c19))
  rw [HNN69.out]
  obtain ⟨W8, hW⟩ : ∃ W, W = v8.setCell ⟨gx, 19, none⟩ (.int .u64 N69) := ⟨_, rfl⟩
  rw [← hW]
  have hbe : Below gx W7 W8 := by rw [hW]; exact (below_undrew (hb1.mono (by simpa using Nat.le_of_lt hlw))).setCell (p := ⟨gx, 19, none⟩) (Nat.le_refl _) _
  have hbx : Bk W8 gx 105 [.slice none 0 0, .slice none 0 0, .int .u8 a0, .int .u8 m1, .int .u8 m2, .int .u8 m3, .bool (bt r4), .bool (bt r5), .bool (bt r6), .bool (bt r7), .bool (bt r8), .bool (bt r9), .bool (bt r10), .bool (bt r11), .int .u16 N3, .int .u64 N5, .slice (some ⟨g, o + 13, none⟩) 32 (c - 13), .slice (some ⟨g, o + 45, none⟩) 16 (c - 45), .int .u64 N61, .int .u64 N69, .slice none 0 0, .int .u16 0, .slice none 0 0] := by rw [hW]; exact hbx1.set_ 19 _
  have HBE8 := Lib.hid (HBE7.out.trans hbe)
  have HBX8 := Lib.hid hbx
  have HSW8 := Lib.hid (HS.out.below ((HBE7.out.trans hbe).mono hB))
  have hlw := hbx.lt
  clear hbe hW hb1 hbx1 c19 f19
  have c20 := hbx.cell 20
  have f20 := hbx.frozen 20
  simp only [List.getElem?_cons_zero, List.getElem?_cons_succ] at c20
  have x0 := (World.cell?_of_block (a := ⟨g, o, none⟩) (HBE8.out.block g (by omega))).trans HXB0.out
  clear hbx
  go_wp2_with fail
  obtain ⟨W9, hW⟩ : ∃ W, W = (W8.setCell ⟨gx, 20, none⟩ (.slice (some ⟨g, o + 77, none⟩) 16 (c - 77))) := ⟨_, rfl⟩
  rw [← hW]
  have hbe : Below gx W8 W9 := by rw [hW]; exact ((Below.refl gx W8).setCell (p := ⟨gx, 20, none⟩) (Nat.le_refl _) _)
  have hbx : Bk W9 gx 105 [.slice none 0 0, .slice none 0 0, .int .u8 a0, .int .u8 m1, .int .u8 m2, .int .u8 m3, .bool (bt r4), .bool (bt r5), .bool (bt r6), .bool (bt r7), .bool (bt r8), .bool (bt r9), .bool (bt r10), .bool (bt r11), .int .u16 N3, .int .u64 N5, .slice (some ⟨g, o + 13, none⟩) 32 (c - 13), .slice (some ⟨g, o + 45, none⟩) 16 (c - 45), .int .u64 N61, .int .u64 N69, .slice (some ⟨g, o + 77, none⟩) 16 (c - 77), .int .u16 0, .slice none 0 0] := by rw [hW]; exact (HBX8.out.set_ 20 _)
  have HBE9 := Lib.hid (HBE8.out.trans hbe)
  have HBX9 := Lib.hid hbx
  have HSW9 := Lib.hid (HS.out.below ((HBE8.out.trans hbe).mono hB))
  have hlw := hbx.lt
  clear hbe hW c20 f20
  clear hbx
  go_wp2_with fail
  have jl10 : (95 : Int) ≤ (c : Int) := by omega
  have jz10 : ¬ (c : Int) = 93 := by omega
  have jy10 : ¬ c = 93 := by omega
  go_region_held3 (fun w' => True) (trivial) ((go_at_call 100; refine (u16_at g o n 93 2 _ B (o + 93) xs _ (HSW9.out.below (Below.refl _ _).drew) (by omega) (by omega) rfl).mono ?_; rintro e v10 ⟨rfl, hb1⟩; have hbx1 := HBX9.out.drew.below hb1 (by simpa using hlw); have f21 := hbx1.frozen 21; have c21 := hbx1.cell 21; simp only [List.getElem?_cons_zero, List.getElem?_cons_succ] at c21))
  rw [HNN93.out]
  obtain ⟨W10, hW⟩ : ∃ W, W = v10.setCell ⟨gx, 21, none⟩ (.int .u16 N93) := ⟨_, rfl⟩
  rw [← hW]
  have hbe : Below gx W9 W10 := by rw [hW]; exact (below_undrew (hb1.mono (by simpa using Nat.le_of_lt hlw))).setCell (p := ⟨gx, 21, none⟩) (Nat.le_refl _) _
  have hbx : Bk W10 gx 105 [.slice none 0 0, .slice none 0 0, .int .u8 a0, .int .u8 m1, .int .u8 m2, .int .u8 m3, .bool (bt r4), .bool (bt r5), .bool (bt r6), .bool (bt r7), .bool (bt r8), .bool (bt r9), .bool (bt r10), .bool (bt r11), .int .u16 N3, .int .u64 N5, .slice (some ⟨g, o + 13, none⟩) 32 (c - 13), .slice (some ⟨g, o + 45, none⟩) 16 (c - 45), .int .u64 N61, .int .u64 N69, .slice (some ⟨g, o + 77, none⟩) 16 (c - 77), .int .u16 N93, .slice none 0 0] := by rw [hW]; exact hbx1.set_ 21 _
  have HBE10 := Lib.hid (HBE9.out.trans hbe)
  have HBX10 := Lib.hid hbx
  have HSW10 := Lib.hid (HS.out.below ((HBE9.out.trans hbe).mono hB))
  have hlw := hbx.lt
  clear hbe hW hb1 hbx1 c21 f21
  clear hbx
  have c21 := HBX10.out.cell 21
  have f21 := HBX10.out.frozen 21
  simp only [List.getElem?_cons_zero, List.getElem?_cons_succ] at c21
  go_wp2_with fail
  refine (trunc_any gk _).mono ?_
  rintro e w9 ⟨⟨v9, rfl⟩, rfl⟩
  go_wp2_with fail
  refine (errnew _ _).mono ?_
  rintro e v ⟨rfl, rfl⟩
  go_wp2_with fail
  exact hR.out _ _ ⟨_, rfl, HBE10.out.alloc (Nat.le_of_lt hlw) _⟩
set_option maxRecDepth 1000000 in
set_option maxHeartbeats 10000000 in
theorem dec_key_no (xs : List UInt8) (hd : xs.length - 95 < Lib.beNat ((xs.drop 93).take 2)) (h4 : 95 ≤ xs.length) (hn : xs.length ≤ 1000) (gk : Nat) (u : Value) (A : Option Addr) (n c : Nat) (w : World) (hk : Bk w gk 236 [u]) (hs : Sl w gk A n (bcs xs)) (hnc : n ≤ c) :
    Calls Tryz.prog 85 #[.slice A n c, .iface 234 (.pointer (some ⟨gk, 0, none⟩))] w fun e w' => ∃ v, e = .returned (.iface 239 v) ∧ Below w.heap.size w w' := by
  refine calls_hid fun R hR => ?_
  have hl : xs.length = n := by rw [← bcs_length]; exact hs.1
  rw [hl] at h4 hn
  obtain ⟨g, o, rfl, hg, _⟩ := hs.2 (by omega)
  have hlt := hk.lt
  have HS := Lib.hid hs
  clear hs hk
  obtain ⟨W, hW⟩ : ∃ W, W = w.alloc (.cells #[.slice none 0 0, .slice none 0 0, .int .u8 0, .int .u8 0, .int .u8 0, .int .u8 0, .bool false, .bool false, .bool false, .bool false, .bool false, .bool false, .bool false, .bool false, .int .u16 0, .int .u64 0, .slice none 0 0, .slice none 0 0, .int .u64 0, .int .u64 0, .slice none 0 0, .int .u16 0, .slice none 0 0] 105) := ⟨_, rfl⟩
  have hx : Bk W w.heap.size 105 [.slice none 0 0, .slice none 0 0, .int .u8 0, .int .u8 0, .int .u8 0, .int .u8 0, .bool false, .bool false, .bool false, .bool false, .bool false, .bool false, .bool false, .bool false, .int .u16 0, .int .u64 0, .slice none 0 0, .slice none 0 0, .int .u64 0, .int .u64 0, .slice none 0 0, .int .u16 0, .slice none 0 0] := by rw [hW]; exact Bk.new _ _ _
  have hbe0 : Below w.heap.size w W := by rw [hW]; exact (Below.refl _ _).alloc (Nat.le_refl _) _
  have HBE := Lib.hid hbe0
  have hD := dfb_key_no xs hd g o n c gk w.heap.size gk W ((HS.out.below (hbe0.mono (Nat.le_of_lt hlt)))) (Nat.le_of_lt hlt) h4 hnc hn hx
  have HD := Lib.hid hD
  have HW := Lib.hid hW
  clear hD hW hx hbe0
  go_enter Tryz.func85, Tryz.ntmps85
  go_wp2_with fail
  rw [← HW.out]
  refine (dld_no 100 149 w.heap.size gk _ (dnil_key _) (dmeth_key _) dent_key W HD.out).mono ?_
  rintro e w1 ⟨v, rfl, hb1⟩
  have HB1 := Lib.hid (HBE.out.trans hb1)
  clear hb1
  go_wp2_with fail
  exact hR.out _ _ ⟨v, rfl, HB1.out⟩
set_option maxRecDepth 1000000 in
set_option maxHeartbeats 10000000 in
theorem zz_key_no (xs : List UInt8) (hd : xs.length - 95 < Lib.beNat ((xs.drop 93).take 2)) (h4 : 95 ≤ xs.length) (hn : xs.length ≤ 1000) (A : Option Addr) (n c : Nat) (w : World) (hs : Sl w w.heap.size A n (bcs xs)) (hnc : n ≤ c) :
    Calls Tryz.prog 69 #[.string k_eapolkey, .slice A n c] w fun e w' => ∃ v, e = .returned (.tuple #[.nilIface, .iface 239 v]) ∧ Below w.heap.size w w' := by
  refine calls_hid fun R hR => ?_
  have hk : Bk ((w.alloc (.cells #[.nilIface] 236)).alloc (.cells #[.string ⟨#[110, 111, 32, 107, 105, 110, 100]⟩] 241)) w.heap.size 236 [.nilIface] := (Bk.new w 236 [.nilIface]).alloc _
  have hs1 := hs.below (((Below.refl _ w).alloc (Nat.le_refl _) (.cells #[.nilIface] 236)).alloc (by simp) (.cells #[.string ⟨#[110, 111, 32, 107, 105, 110, 100]⟩] 241))
  have HD := Lib.hid (dec_key_no xs hd h4 hn w.heap.size .nilIface A n c _ hk hs1 hnc)
  clear hs hk hs1
  go_enter Tryz.func69, Tryz.ntmps69
  go_wp2_with fail
  refine (errnew _ _).mono ?_
  rintro e w1 ⟨rfl, rfl⟩
  go_wp2_with fail
  refine HD.out.mono ?_
  rintro e w2 ⟨v, rfl, hb2⟩
  have HB2 := Lib.hid hb2
  clear hb2
  go_wp2_with fail
  exact hR.out _ _ ⟨v, rfl, (((Below.refl _ w).alloc (Nat.le_refl _) _).alloc (by simp) _).trans (HB2.out.mono (by simp; omega))⟩
set_option maxRecDepth 1000000 in
set_option maxHeartbeats 10000000 in
theorem decd_key_no (xs : List UInt8) (hd : xs.length - 95 < Lib.beNat ((xs.drop 93).take 2)) (h4 : 95 ≤ xs.length) (hn : xs.length ≤ 1000) (A : Option Addr) (n c : Nat) (w : World) (hs : Sl w w.heap.size A n (bcs xs)) (hnc : n ≤ c) (hA : A = none → n = 0)
    (hC : Calls Tryz.prog 68 #[.string k_eapolkey, .slice A n c] w fun e w' => e = .returned (.bool true) ∧ Below w.heap.size w w') :
    Calls Tryz.prog 58 #[.string k_eapolkey, .slice A n c] w fun e w' => e = .returned (.tuple #[.nilIface, .bool false]) ∧ Below w.heap.size w w' := by
  refine calls_hid fun R hR => ?_
  have hl : xs.length = n := by rw [← bcs_length]; exact hs.1
  have HS := Lib.hid hs
  have HC := Lib.hid hC
  have t2 : decide ((2000 : Int) < (n : Int)) = false := by rw [decide_eq_false_iff_not]; omega
  have hn1 : n ≤ 1000 := by omega
  clear hs hC hl
  go_enter Tryz.func58, Tryz.ntmps58
  go_wp2_with fail
  refine HC.out.mono ?_
  rintro e w1 ⟨rfl, hb1⟩
  have HB1 := Lib.hid hb1
  clear hb1
  go_wp2_with fail
  refine (bclone_any A n c xs w1 ((HS.out.below HB1.out).more HB1.out.size) hA (by omega)).mono ?_
  rintro e w2 ⟨A2, c2, rfl, hc2, hn2, hb2, hs2⟩
  have HB2 := Lib.hid hb2
  have HS2 := Lib.hid hs2
  clear hb2 hs2
  go_wp2_with fail
  refine (zz_key_no xs hd h4 hn A2 n c2 w2 HS2.out hc2).mono ?_
  rintro e w3 ⟨v, rfl, hb3⟩
  have HB3 := Lib.hid hb3
  clear hb3
  go_wp2_with fail
  exact hR.out _ _ ⟨rfl, HB1.out.trans ((HB2.out.mono HB1.out.size).trans (HB3.out.mono (by have := HB1.out.size; have := HB2.out.size; omega)))⟩
end Go.Proofs.YtphmklgbbpiafaaGreat
