/-
  Ntp: what its decoder hands on. No condition.
-/
import Derived.Deep.RegionHeld3
import Derived.Test.YtphmklgbbpiafaaGreatDldA
import Derived.Test.YtphmklgbbpiafaaGreatMskA
import Derived.Test.YtphmklgbbpiafaaGreatFldA
namespace Go.Proofs.YtphmklgbbpiafaaGreat
open Go Go.RowKit
set_option linter.unusedVariables false
attribute [local go_sem] sd_drewN ad_drewN
set_option maxRecDepth 1000000 in
set_option maxHeartbeats 10000000 in
/-- What DecodeFromBytes does to the layer in block gx. -/
theorem dfb_ntp (xs : List UInt8) (g o n c B gx : Nat) (df : Value) (w : World) (hs : Sl w B (some ⟨g, o, none⟩) n (bcs xs)) (hB : B ≤ gx) (h4 : 48 ≤ n) (hnc : n ≤ c) (hn : n ≤ 1000)
    (hx : Bk w gx 152 [.slice none 0 0, .slice none 0 0, .int .u8 0, .int .u8 0, .int .u8 0, .int .u8 0, .int .i8 0, .int .i8 0, .int .u32 0, .int .u32 0, .int .u32 0, .int .u64 0, .int .u64 0, .int .u64 0, .int .u64 0, .slice none 0 0]) :
    Calls Tryz.prog 109 #[.pointer (some ⟨gx, 0, none⟩), .slice (some ⟨g, o, none⟩) n c, df] w (Dfbs B gx 152 [] (Fld.dat (fun Q cQ => [.int .u8 ((xs.getD 0 0).toNat / 64 : Nat), .int .u8 ((xs.getD 0 0).toNat / 8 % 8 : Nat), .int .u8 ((xs.getD 0 0).toNat % 8 : Nat), .int .u8 (xs.getD 1 0).toNat, .int .i8 (IntKind.i8.wrap ((xs.getD 2 0).toNat : Int)), .int .i8 (IntKind.i8.wrap ((xs.getD 3 0).toNat : Int)), .int .u32 (Lib.beNat ((xs.drop 4).take 4) : Nat), .int .u32 (Lib.beNat ((xs.drop 8).take 4) : Nat), .int .u32 (Lib.beNat ((xs.drop 12).take 4) : Nat), .int .u64 (Lib.beNat ((xs.drop 16).take 8) : Nat), .int .u64 (Lib.beNat ((xs.drop 24).take 8) : Nat), .int .u64 (Lib.beNat ((xs.drop 32).take 8) : Nat), .int .u64 (Lib.beNat ((xs.drop 40).take 8) : Nat), .slice Q (xs.drop 48).length cQ]) (xs.drop 48)) w) := by
  refine calls_hid fun R hR => ?_
  unfold Dfbs at hR
  have hln : xs.length = n := by rw [← bcs_length]; exact hs.1
  obtain ⟨hg, _⟩ := hs.at_ (by omega)
  obtain ⟨A4, cut4, cs4, cf4⟩ := cut_from g o n c 48 48 rfl (by omega) hnc
  have hlt := hx.lt
  have b0 := (xs.getD 0 0).toNat_lt
  have x0 : w.cell? ⟨g, o, none⟩ = some (.int .u8 (xs.getD 0 0).toNat) := hs.byte (k := 0) (by omega)
  have HXB0 := Lib.hid x0
  have j0 : 0 < n := by omega
  have i0 : (0 : Int) < (n : Int) := by omega
  have b1 := (xs.getD 1 0).toNat_lt
  have x1 : w.cell? ⟨g, o + 1, none⟩ = some (.int .u8 (xs.getD 1 0).toNat) := hs.byte (k := 1) (by omega)
  have HXB1 := Lib.hid x1
  have j1 : 1 < n := by omega
  have i1 : (1 : Int) < (n : Int) := by omega
  have b2 := (xs.getD 2 0).toNat_lt
  have x2 : w.cell? ⟨g, o + 2, none⟩ = some (.int .u8 (xs.getD 2 0).toNat) := hs.byte (k := 2) (by omega)
  have HXB2 := Lib.hid x2
  have j2 : 2 < n := by omega
  have i2 : (2 : Int) < (n : Int) := by omega
  have b3 := (xs.getD 3 0).toNat_lt
  have x3 : w.cell? ⟨g, o + 3, none⟩ = some (.int .u8 (xs.getD 3 0).toNat) := hs.byte (k := 3) (by omega)
  have HXB3 := Lib.hid x3
  have j3 : 3 < n := by omega
  have i3 : (3 : Int) < (n : Int) := by omega
  have c0 := hx.cell 0
  have c1 := hx.cell 1
  have c2 := hx.cell 2
  have c3 := hx.cell 3
  have c4 := hx.cell 4
  have c5 := hx.cell 5
  have c6 := hx.cell 6
  have c7 := hx.cell 7
  have c8 := hx.cell 8
  have c9 := hx.cell 9
  have c10 := hx.cell 10
  have c11 := hx.cell 11
  have c12 := hx.cell 12
  have c13 := hx.cell 13
  have c14 := hx.cell 14
  have c15 := hx.cell 15
  simp only [List.getElem?_cons_zero, List.getElem?_cons_succ] at c0 c1 c2 c3 c4 c5 c6 c7 c8 c9 c10 c11 c12 c13 c14 c15
  have f0 := hx.frozen 0
  have f1 := hx.frozen 1
  have f2 := hx.frozen 2
  have f3 := hx.frozen 3
  have f4 := hx.frozen 4
  have f5 := hx.frozen 5
  have f6 := hx.frozen 6
  have f7 := hx.frozen 7
  have f8 := hx.frozen 8
  have f9 := hx.frozen 9
  have f10 := hx.frozen 10
  have f11 := hx.frozen 11
  have f12 := hx.frozen 12
  have f13 := hx.frozen 13
  have f14 := hx.frozen 14
  have f15 := hx.frozen 15
  have HS := Lib.hid hs
  have HX := Lib.hid hx
  have HC4 := Lib.hid cs4
  clear hs hx cs4 cf4
  have jc : (48 : Int) ≤ (c : Int) := by omega
  have jn : (48 : Int) ≤ (n : Int) := by omega
  have tl : decide ((n : Int) < 48) = false := by simp; omega
  have hne : gx ≠ g := by omega
  have hne' : ¬ gx = g := hne
  have hne2 : ¬ g = gx := fun h => hne h.symm
  generalize (xs.getD 0 0).toNat = a0 at *
  generalize (xs.getD 1 0).toNat = a1 at *
  generalize (xs.getD 2 0).toNat = a2 at *
  generalize (xs.getD 3 0).toNat = a3 at *
  have HLN := Lib.hid hln
  clear hln
  have jnc : (n : Int) ≤ (c : Int) := by omega
  have d1 : ((a0 / 64 * 64 : Nat) : Int) / 64 = ((a0 / 64 : Nat) : Int) := by omega
  have d2 : ((a0 / 8 % 8 * 8 : Nat) : Int) / 8 = ((a0 / 8 % 8 : Nat) : Int) := by omega
  have q192 := m8_192 a0 (by omega)
  have q56 := m8_56 a0 (by omega)
  have q7 := m8_7 a0 (by omega)
  generalize a0 / 64 * 64 = t0 at *
  generalize a0 / 64 = m0 at *
  generalize a0 / 8 % 8 * 8 = t1 at *
  generalize a0 / 8 % 8 = m1 at *
  generalize a0 % 8 = m2 at *
  have hN4 : Lib.beNat ((xs.drop 4).take 4) < 4294967296 := beNat_take _ 4
  generalize hNN4 : Lib.beNat ((xs.drop 4).take 4) = N4 at *
  have HNN4 := Lib.hid hNN4
  clear hNN4
  have hN8 : Lib.beNat ((xs.drop 8).take 4) < 4294967296 := beNat_take _ 4
  generalize hNN8 : Lib.beNat ((xs.drop 8).take 4) = N8 at *
  have HNN8 := Lib.hid hNN8
  clear hNN8
  have hN12 : Lib.beNat ((xs.drop 12).take 4) < 4294967296 := beNat_take _ 4
  generalize hNN12 : Lib.beNat ((xs.drop 12).take 4) = N12 at *
  have HNN12 := Lib.hid hNN12
  clear hNN12
  have hN16 : Lib.beNat ((xs.drop 16).take 8) < 18446744073709551616 := beNat_take _ 8
  generalize hNN16 : Lib.beNat ((xs.drop 16).take 8) = N16 at *
  have HNN16 := Lib.hid hNN16
  clear hNN16
  have hN24 : Lib.beNat ((xs.drop 24).take 8) < 18446744073709551616 := beNat_take _ 8
  generalize hNN24 : Lib.beNat ((xs.drop 24).take 8) = N24 at *
  have HNN24 := Lib.hid hNN24
  clear hNN24
  have hN32 : Lib.beNat ((xs.drop 32).take 8) < 18446744073709551616 := beNat_take _ 8
  generalize hNN32 : Lib.beNat ((xs.drop 32).take 8) = N32 at *
  have HNN32 := Lib.hid hNN32
  clear hNN32
  have hN40 : Lib.beNat ((xs.drop 40).take 8) < 18446744073709551616 := beNat_take _ 8
  generalize hNN40 : Lib.beNat ((xs.drop 40).take 8) = N40 at *
  have HNN40 := Lib.hid hNN40
  clear hNN40
  go_enter Tryz.func109, Tryz.ntmps109
  have HBE0 := Lib.hid (Below.refl gx w)
  have HBX0 := HX
  have HSW0 := HS
  go_wp2_with fail
  obtain ⟨W1, hW⟩ : ∃ W, W = ((((((((w.setCell ⟨gx, 0, none⟩ (.slice (some ⟨g, o, none⟩) n c)).setCell ⟨gx, 1, none⟩ (.slice none 0 0)).setCell ⟨gx, 2, none⟩ (.int .u8 m0)).setCell ⟨gx, 3, none⟩ (.int .u8 m1)).setCell ⟨gx, 4, none⟩ (.int .u8 m2)).setCell ⟨gx, 5, none⟩ (.int .u8 a1)).setCell ⟨gx, 6, none⟩ (.int .i8 (IntKind.i8.wrap (a2 : Int)))).setCell ⟨gx, 7, none⟩ (.int .i8 (IntKind.i8.wrap (a3 : Int)))) := ⟨_, rfl⟩
  rw [← hW]
  have hbe : Below gx w W1 := by rw [hW]; exact (((((((((Below.refl gx w).setCell (p := ⟨gx, 0, none⟩) (Nat.le_refl _) _).setCell (p := ⟨gx, 1, none⟩) (Nat.le_refl _) _).setCell (p := ⟨gx, 2, none⟩) (Nat.le_refl _) _).setCell (p := ⟨gx, 3, none⟩) (Nat.le_refl _) _).setCell (p := ⟨gx, 4, none⟩) (Nat.le_refl _) _).setCell (p := ⟨gx, 5, none⟩) (Nat.le_refl _) _).setCell (p := ⟨gx, 6, none⟩) (Nat.le_refl _) _).setCell (p := ⟨gx, 7, none⟩) (Nat.le_refl _) _)
  have hbx : Bk W1 gx 152 [.slice (some ⟨g, o, none⟩) n c, .slice none 0 0, .int .u8 m0, .int .u8 m1, .int .u8 m2, .int .u8 a1, .int .i8 (IntKind.i8.wrap (a2 : Int)), .int .i8 (IntKind.i8.wrap (a3 : Int)), .int .u32 0, .int .u32 0, .int .u32 0, .int .u64 0, .int .u64 0, .int .u64 0, .int .u64 0, .slice none 0 0] := by rw [hW]; exact ((((((((HBX0.out.set_ 0 _).set_ 1 _).set_ 2 _).set_ 3 _).set_ 4 _).set_ 5 _).set_ 6 _).set_ 7 _)
  have HBE1 := Lib.hid (HBE0.out.trans hbe)
  have HBX1 := Lib.hid hbx
  have HSW1 := Lib.hid (HS.out.below ((HBE0.out.trans hbe).mono hB))
  have hlw := hbx.lt
  clear hbe hW c0 f0 c1 f1 c2 f2 c3 f3 c4 f4 c5 f5 c6 f6 c7 f7 c8 f8 c9 f9 c10 f10 c11 f11 c12 f12 c13 f13 c14 f14 c15 f15
  clear hbx
  go_wp2_with fail
  have jl2 : (8 : Int) ≤ (c : Int) := by omega
  have jz2 : ¬ (c : Int) = 4 := by omega
  have jy2 : ¬ c = 4 := by omega
  go_region_held3 (fun w' => True) (trivial) ((go_at_call 106; refine (u32_at g o n 4 4 _ B (o + 4) xs _ (HSW1.out.below (Below.refl _ _).drew) (by omega) (by omega) rfl).mono ?_; rintro e v2 ⟨rfl, hb1⟩; have hbx1 := HBX1.out.drew.below hb1 (by simpa using hlw); have f8 := hbx1.frozen 8; have c8 := hbx1.cell 8; simp only [List.getElem?_cons_zero, List.getElem?_cons_succ] at c8))
  rw [HNN4.out]
  obtain ⟨W2, hW⟩ : ∃ W, W = v2.setCell ⟨gx, 8, none⟩ (.int .u32 N4) := ⟨_, rfl⟩
  rw [← hW]
  have hbe : Below gx W1 W2 := by rw [hW]; exact (below_undrew (hb1.mono (by simpa using Nat.le_of_lt hlw))).setCell (p := ⟨gx, 8, none⟩) (Nat.le_refl _) _
  have hbx : Bk W2 gx 152 [.slice (some ⟨g, o, none⟩) n c, .slice none 0 0, .int .u8 m0, .int .u8 m1, .int .u8 m2, .int .u8 a1, .int .i8 (IntKind.i8.wrap (a2 : Int)), .int .i8 (IntKind.i8.wrap (a3 : Int)), .int .u32 N4, .int .u32 0, .int .u32 0, .int .u64 0, .int .u64 0, .int .u64 0, .int .u64 0, .slice none 0 0] := by rw [hW]; exact hbx1.set_ 8 _
  have HBE2 := Lib.hid (HBE1.out.trans hbe)
  have HBX2 := Lib.hid hbx
  have HSW2 := Lib.hid (HS.out.below ((HBE1.out.trans hbe).mono hB))
  have hlw := hbx.lt
  clear hbe hW hb1 hbx1 c8 f8
  clear hbx
  go_wp2_with fail
  have jl3 : (12 : Int) ≤ (c : Int) := by omega
  have jz3 : ¬ (c : Int) = 8 := by omega
  have jy3 : ¬ c = 8 := by omega
  go_region_held3 (fun w' => True) (trivial) ((go_at_call 106; refine (u32_at g o n 8 4 _ B (o + 8) xs _ (HSW2.out.below (Below.refl _ _).drew) (by omega) (by omega) rfl).mono ?_; rintro e v3 ⟨rfl, hb1⟩; have hbx1 := HBX2.out.drew.below hb1 (by simpa using hlw); have f9 := hbx1.frozen 9; have c9 := hbx1.cell 9; simp only [List.getElem?_cons_zero, List.getElem?_cons_succ] at c9))
  rw [HNN8.out]
  obtain ⟨W3, hW⟩ : ∃ W, W = v3.setCell ⟨gx, 9, none⟩ (.int .u32 N8) := ⟨_, rfl⟩
  rw [← hW]
  have hbe : Below gx W2 W3 := by rw [hW]; exact (below_undrew (hb1.mono (by simpa using Nat.le_of_lt hlw))).setCell (p := ⟨gx, 9, none⟩) (Nat.le_refl _) _
  have hbx : Bk W3 gx 152 [.slice (some ⟨g, o, none⟩) n c, .slice none 0 0, .int .u8 m0, .int .u8 m1, .int .u8 m2, .int .u8 a1, .int .i8 (IntKind.i8.wrap (a2 : Int)), .int .i8 (IntKind.i8.wrap (a3 : Int)), .int .u32 N4, .int .u32 N8, .int .u32 0, .int .u64 0, .int .u64 0, .int .u64 0, .int .u64 0, .slice none 0 0] := by rw [hW]; exact hbx1.set_ 9 _
  have HBE3 := Lib.hid (HBE2.out.trans hbe)
  have HBX3 := Lib.hid hbx
  have HSW3 := Lib.hid (HS.out.below ((HBE2.out.trans hbe).mono hB))
  have hlw := hbx.lt
  clear hbe hW hb1 hbx1 c9 f9
  clear hbx
  go_wp2_with fail
  have jl4 : (16 : Int) ≤ (c : Int) := by omega
  have jz4 : ¬ (c : Int) = 12 := by omega
  have jy4 : ¬ c = 12 := by omega
  go_region_held3 (fun w' => True) (trivial) ((go_at_call 106; refine (u32_at g o n 12 4 _ B (o + 12) xs _ (HSW3.out.below (Below.refl _ _).drew) (by omega) (by omega) rfl).mono ?_; rintro e v4 ⟨rfl, hb1⟩; have hbx1 := HBX3.out.drew.below hb1 (by simpa using hlw); have f10 := hbx1.frozen 10; have c10 := hbx1.cell 10; simp only [List.getElem?_cons_zero, List.getElem?_cons_succ] at c10))
  rw [HNN12.out]
  obtain ⟨W4, hW⟩ : ∃ W, W = v4.setCell ⟨gx, 10, none⟩ (.int .u32 N12) := ⟨_, rfl⟩
  rw [← hW]
  have hbe : Below gx W3 W4 := by rw [hW]; exact (below_undrew (hb1.mono (by simpa using Nat.le_of_lt hlw))).setCell (p := ⟨gx, 10, none⟩) (Nat.le_refl _) _
  have hbx : Bk W4 gx 152 [.slice (some ⟨g, o, none⟩) n c, .slice none 0 0, .int .u8 m0, .int .u8 m1, .int .u8 m2, .int .u8 a1, .int .i8 (IntKind.i8.wrap (a2 : Int)), .int .i8 (IntKind.i8.wrap (a3 : Int)), .int .u32 N4, .int .u32 N8, .int .u32 N12, .int .u64 0, .int .u64 0, .int .u64 0, .int .u64 0, .slice none 0 0] := by rw [hW]; exact hbx1.set_ 10 _
  have HBE4 := Lib.hid (HBE3.out.trans hbe)
  have HBX4 := Lib.hid hbx
  have HSW4 := Lib.hid (HS.out.below ((HBE3.out.trans hbe).mono hB))
  have hlw := hbx.lt
  clear hbe hW hb1 hbx1 c10 f10
  clear hbx
  go_wp2_with fail
  have jl5 : (24 : Int) ≤ (c : Int) := by omega
  have jz5 : ¬ (c : Int) = 16 := by omega
  have jy5 : ¬ c = 16 := by omega
  go_region_held3 (fun w' => True) (trivial) ((go_at_call 111; refine (u64_at g o n 16 8 _ B (o + 16) xs _ (HSW4.out.below (Below.refl _ _).drew) (by omega) (by omega) rfl).mono ?_; rintro e v5 ⟨rfl, hb1⟩; have hbx1 := HBX4.out.drew.below hb1 (by simpa using hlw); have f11 := hbx1.frozen 11; have c11 := hbx1.cell 11; simp only [List.getElem?_cons_zero, List.getElem?_cons_succ] at c11))
  rw [HNN16.out]
  obtain ⟨W5, hW⟩ : ∃ W, W = v5.setCell ⟨gx, 11, none⟩ (.int .u64 N16) := ⟨_, rfl⟩
  rw [← hW]
  have hbe : Below gx W4 W5 := by rw [hW]; exact (below_undrew (hb1.mono (by simpa using Nat.le_of_lt hlw))).setCell (p := ⟨gx, 11, none⟩) (Nat.le_refl _) _
  have hbx : Bk W5 gx 152 [.slice (some ⟨g, o, none⟩) n c, .slice none 0 0, .int .u8 m0, .int .u8 m1, .int .u8 m2, .int .u8 a1, .int .i8 (IntKind.i8.wrap (a2 : Int)), .int .i8 (IntKind.i8.wrap (a3 : Int)), .int .u32 N4, .int .u32 N8, .int .u32 N12, .int .u64 N16, .int .u64 0, .int .u64 0, .int .u64 0, .slice none 0 0] := by rw [hW]; exact hbx1.set_ 11 _
  have HBE5 := Lib.hid (HBE4.out.trans hbe)
  have HBX5 := Lib.hid hbx
  have HSW5 := Lib.hid (HS.out.below ((HBE4.out.trans hbe).mono hB))
  have hlw := hbx.lt
  clear hbe hW hb1 hbx1 c11 f11
  clear hbx
  go_wp2_with fail
  have jl6 : (32 : Int) ≤ (c : Int) := by omega
  have jz6 : ¬ (c : Int) = 24 := by omega
  have jy6 : ¬ c = 24 := by omega
  go_region_held3 (fun w' => True) (trivial) ((go_at_call 111; refine (u64_at g o n 24 8 _ B (o + 24) xs _ (HSW5.out.below (Below.refl _ _).drew) (by omega) (by omega) rfl).mono ?_; rintro e v6 ⟨rfl, hb1⟩; have hbx1 := HBX5.out.drew.below hb1 (by simpa using hlw); have f12 := hbx1.frozen 12; have c12 := hbx1.cell 12; simp only [List.getElem?_cons_zero, List.getElem?_cons_succ] at c12))
  rw [HNN24.out]
  obtain ⟨W6, hW⟩ : ∃ W, W = v6.setCell ⟨gx, 12, none⟩ (.int .u64 N24) := ⟨_, rfl⟩
  rw [← hW]
  have hbe : Below gx W5 W6 := by rw [hW]; exact (below_undrew (hb1.mono (by simpa using Nat.le_of_lt hlw))).setCell (p := ⟨gx, 12, none⟩) (Nat.le_refl _) _
  have hbx : Bk W6 gx 152 [.slice (some ⟨g, o, none⟩) n c, .slice none 0 0, .int .u8 m0, .int .u8 m1, .int .u8 m2, .int .u8 a1, .int .i8 (IntKind.i8.wrap (a2 : Int)), .int .i8 (IntKind.i8.wrap (a3 : Int)), .int .u32 N4, .int .u32 N8, .int .u32 N12, .int .u64 N16, .int .u64 N24, .int .u64 0, .int .u64 0, .slice none 0 0] := by rw [hW]; exact hbx1.set_ 12 _
  have HBE6 := Lib.hid (HBE5.out.trans hbe)
  have HBX6 := Lib.hid hbx
  have HSW6 := Lib.hid (HS.out.below ((HBE5.out.trans hbe).mono hB))
  have hlw := hbx.lt
  clear hbe hW hb1 hbx1 c12 f12
  clear hbx
  go_wp2_with fail
  have jl7 : (40 : Int) ≤ (c : Int) := by omega
  have jz7 : ¬ (c : Int) = 32 := by omega
  have jy7 : ¬ c = 32 := by omega
  go_region_held3 (fun w' => True) (trivial) ((go_at_call 111; refine (u64_at g o n 32 8 _ B (o + 32) xs _ (HSW6.out.below (Below.refl _ _).drew) (by omega) (by omega) rfl).mono ?_; rintro e v7 ⟨rfl, hb1⟩; have hbx1 := HBX6.out.drew.below hb1 (by simpa using hlw); have f13 := hbx1.frozen 13; have c13 := hbx1.cell 13; simp only [List.getElem?_cons_zero, List.getElem?_cons_succ] at c13))
  rw [HNN32.out]
  obtain ⟨W7, hW⟩ : ∃ W, W = v7.setCell ⟨gx, 13, none⟩ (.int .u64 N32) := ⟨_, rfl⟩
  rw [← hW]
  have hbe : Below gx W6 W7 := by rw [hW]; exact (below_undrew (hb1.mono (by simpa using Nat.le_of_lt hlw))).setCell (p := ⟨gx, 13, none⟩) (Nat.le_refl _) _
  have hbx : Bk W7 gx 152 [.slice (some ⟨g, o, none⟩) n c, .slice none 0 0, .int .u8 m0, .int .u8 m1, .int .u8 m2, .int .u8 a1, .int .i8 (IntKind.i8.wrap (a2 : Int)), .int .i8 (IntKind.i8.wrap (a3 : Int)), .int .u32 N4, .int .u32 N8, .int .u32 N12, .int .u64 N16, .int .u64 N24, .int .u64 N32, .int .u64 0, .slice none 0 0] := by rw [hW]; exact hbx1.set_ 13 _
  have HBE7 := Lib.hid (HBE6.out.trans hbe)
  have HBX7 := Lib.hid hbx
  have HSW7 := Lib.hid (HS.out.below ((HBE6.out.trans hbe).mono hB))
  have hlw := hbx.lt
  clear hbe hW hb1 hbx1 c13 f13
  clear hbx
  go_wp2_with fail
  have jl8 : (48 : Int) ≤ (c : Int) := by omega
  have jz8 : ¬ (c : Int) = 40 := by omega
  have jy8 : ¬ c = 40 := by omega
  go_region_held3 (fun w' => True) (trivial) ((go_at_call 111; refine (u64_at g o n 40 8 _ B (o + 40) xs _ (HSW7.out.below (Below.refl _ _).drew) (by omega) (by omega) rfl).mono ?_; rintro e v8 ⟨rfl, hb1⟩; have hbx1 := HBX7.out.drew.below hb1 (by simpa using hlw); have f14 := hbx1.frozen 14; have c14 := hbx1.cell 14; simp only [List.getElem?_cons_zero, List.getElem?_cons_succ] at c14))
  rw [HNN40.out]
  obtain ⟨W8, hW⟩ : ∃ W, W = v8.setCell ⟨gx, 14, none⟩ (.int .u64 N40) := ⟨_, rfl⟩
  rw [← hW]
  have hbe : Below gx W7 W8 := by rw [hW]; exact (below_undrew (hb1.mono (by simpa using Nat.le_of_lt hlw))).setCell (p := ⟨gx, 14, none⟩) (Nat.le_refl _) _
  have hbx : Bk W8 gx 152 [.slice (some ⟨g, o, none⟩) n c, .slice none 0 0, .int .u8 m0, .int .u8 m1, .int .u8 m2, .int .u8 a1, .int .i8 (IntKind.i8.wrap (a2 : Int)), .int .i8 (IntKind.i8.wrap (a3 : Int)), .int .u32 N4, .int .u32 N8, .int .u32 N12, .int .u64 N16, .int .u64 N24, .int .u64 N32, .int .u64 N40, .slice none 0 0] := by rw [hW]; exact hbx1.set_ 14 _
  have HBE8 := Lib.hid (HBE7.out.trans hbe)
  have HBX8 := Lib.hid hbx
  have HSW8 := Lib.hid (HS.out.below ((HBE7.out.trans hbe).mono hB))
  have hlw := hbx.lt
  clear hbe hW hb1 hbx1 c14 f14
  clear hbx
  have c15 := HBX8.out.cell 15
  have f15 := HBX8.out.frozen 15
  simp only [List.getElem?_cons_zero, List.getElem?_cons_succ] at c15
  go_wp2_with fail
  have hbf : Below gx W8 (W8.setCell ⟨gx, 15, none⟩ (.slice A4 (n - 48) (c - 48))) := (Below.refl gx W8).setCell (p := ⟨gx, 15, none⟩) (Nat.le_refl _) _
  have hbg := HBE8.out.trans hbf
  exact hR.out _ _ ⟨_, _, _, _, rfl, hbg, HBX8.out.set_ 15 _, Sl.none_ _ _ _, A4, c - 48, (by rw [List.length_drop, HLN.out]; rfl), by rw [List.length_drop, HLN.out]; exact (HC4.out w _ xs HS.out).below (hbg.mono hB)⟩
set_option maxRecDepth 1000000 in
set_option maxHeartbeats 10000000 in
theorem dec_ntp (xs : List UInt8) (h4 : 48 ≤ xs.length) (hn : xs.length ≤ 1000) : Decs 94 141 152 xs [] (Fld.dat (fun Q cQ => [.int .u8 ((xs.getD 0 0).toNat / 64 : Nat), .int .u8 ((xs.getD 0 0).toNat / 8 % 8 : Nat), .int .u8 ((xs.getD 0 0).toNat % 8 : Nat), .int .u8 (xs.getD 1 0).toNat, .int .i8 (IntKind.i8.wrap ((xs.getD 2 0).toNat : Int)), .int .i8 (IntKind.i8.wrap ((xs.getD 3 0).toNat : Int)), .int .u32 (Lib.beNat ((xs.drop 4).take 4) : Nat), .int .u32 (Lib.beNat ((xs.drop 8).take 4) : Nat), .int .u32 (Lib.beNat ((xs.drop 12).take 4) : Nat), .int .u64 (Lib.beNat ((xs.drop 16).take 8) : Nat), .int .u64 (Lib.beNat ((xs.drop 24).take 8) : Nat), .int .u64 (Lib.beNat ((xs.drop 32).take 8) : Nat), .int .u64 (Lib.beNat ((xs.drop 40).take 8) : Nat), .slice Q (xs.drop 48).length cQ]) (xs.drop 48)) := by
  intro gk u A n c w hk hs hnc
  refine calls_hid fun R hR => ?_
  have hl : xs.length = n := by rw [← bcs_length]; exact hs.1
  rw [hl] at h4 hn
  obtain ⟨g, o, rfl, hg, _⟩ := hs.2 (by omega)
  have hlt := hk.lt
  have HS := Lib.hid hs
  have HK := Lib.hid hk
  clear hs hk
  obtain ⟨W, hW⟩ : ∃ W, W = w.alloc (.cells #[.slice none 0 0, .slice none 0 0, .int .u8 0, .int .u8 0, .int .u8 0, .int .u8 0, .int .i8 0, .int .i8 0, .int .u32 0, .int .u32 0, .int .u32 0, .int .u64 0, .int .u64 0, .int .u64 0, .int .u64 0, .slice none 0 0] 152) := ⟨_, rfl⟩
  have hx : Bk W w.heap.size 152 [.slice none 0 0, .slice none 0 0, .int .u8 0, .int .u8 0, .int .u8 0, .int .u8 0, .int .i8 0, .int .i8 0, .int .u32 0, .int .u32 0, .int .u32 0, .int .u64 0, .int .u64 0, .int .u64 0, .int .u64 0, .slice none 0 0] := by rw [hW]; exact Bk.new _ _ _
  have hbe0 : Below w.heap.size w W := by rw [hW]; exact (Below.refl _ _).alloc (Nat.le_refl _) _
  have HBE := Lib.hid hbe0
  have hD := dfb_ntp xs g o n c gk w.heap.size (.iface 234 (.pointer (some ⟨gk, 0, none⟩))) W ((HS.out.below (hbe0.mono (Nat.le_of_lt hlt)))) (Nat.le_of_lt hlt) h4 hnc hn hx
  have HD := Lib.hid hD
  have HW := Lib.hid hW
  have HKW := Lib.hid (HK.out.below hbe0 hlt)
  clear hD hW hx hbe0
  go_enter Tryz.func94, Tryz.ntmps94
  go_wp2_with fail
  rw [← HW.out]
  refine HD.out.mono ?_
  rintro e w1 ⟨Cv, Ap, cp, fs, rfl, hb1, h3, h4', h5⟩
  have hk1 := HKW.out.below hb1 hlt
  have HK1 := Lib.hid hk1
  have HB1 := Lib.hid (HBE.out.trans hb1)
  have H3 := Lib.hid h3
  have H4 := Lib.hid h4'
  have H5 := Lib.hid h5
  clear hk1 hb1 h3 h4' h5
  go_wp2_with fail
  refine (addlayer gk u _ 141 w1 HK1.out).mono ?_
  rintro e w2 ⟨rfl, rfl⟩
  go_wp2_with fail
  have hset : Below gk w1 (w1.setCell ⟨gk, 0, none⟩ (.iface 141 (.pointer (some ⟨w.heap.size, 0, none⟩)))) := (Below.refl _ _).setCell (p := ⟨gk, 0, none⟩) (Nat.le_refl _) _
  refine hR.out _ _ ⟨w.heap.size, Cv, Ap, cp, fs, rfl, Nat.le_refl _, HK1.out.set_ 0 _, H3.out.far (p := ⟨gk, 0, none⟩) (by simp; omega) _, H4.out.below hset, Fld.keep _ _ _ _ _ H5.out hset, ?_⟩
  refine only_set ?_ (.inl rfl) _
  exact grown_of_below HB1.out _
end Go.Proofs.YtphmklgbbpiafaaGreat
