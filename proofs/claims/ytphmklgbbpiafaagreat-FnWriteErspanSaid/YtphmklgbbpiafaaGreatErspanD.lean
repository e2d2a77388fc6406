/-
  Erspan: what its decoder hands on. No condition.
-/
import Derived.Deep.RegionHeld3
import Derived.Test.YtphmklgbbpiafaaGreatDldA
import Derived.Test.YtphmklgbbpiafaaGreatMskA
namespace Go.Proofs.YtphmklgbbpiafaaGreat
open Go Go.RowKit
set_option linter.unusedVariables false
attribute [local go_sem] sd_drewN ad_drewN
set_option maxRecDepth 1000000 in
set_option maxHeartbeats 10000000 in
/-- What DecodeFromBytes does to the layer in block gx. -/
theorem dfb_erspan (xs : List UInt8) (g o n c B gx : Nat) (df : Value) (w : World) (hs : Sl w B (some ⟨g, o, none⟩) n (bcs xs)) (hB : B ≤ gx) (h4 : 8 ≤ n) (hnc : n ≤ c) (hn : n ≤ 1000)
    (hx : Bk w gx 124 [.slice none 0 0, .slice none 0 0, .bool false, .int .u8 0, .int .u8 0, .int .u8 0, .int .u16 0, .int .u16 0, .int .u16 0, .int .u32 0]) :
    Calls Tryz.prog 161 #[.pointer (some ⟨gx, 0, none⟩), .slice (some ⟨g, o, none⟩) n c, df] w (Dfbs B gx 124 (xs.drop 8) (Fld.just [.bool (bt ((xs.getD 2 0).toNat / 4 % 2)), .int .u8 ((xs.getD 0 0).toNat / 16 : Nat), .int .u8 ((xs.getD 2 0).toNat / 32 : Nat), .int .u8 ((xs.getD 2 0).toNat / 8 % 4 : Nat), .int .u16 (Lib.beNat (xs.take 2) % 4096 : Nat), .int .u16 (Lib.beNat ((xs.drop 2).take 2) % 1024 : Nat), .int .u16 (Lib.beNat ((xs.drop 4).take 2) / 16 : Nat), .int .u32 (Lib.beNat ((xs.drop 4).take 4) % 1048576 : Nat)]) w) := by
  refine calls_hid fun R hR => ?_
  unfold Dfbs at hR
  simp only [Fld.just] at hR
  have e4 : (xs.drop 8).length = n - 8 := by rw [List.length_drop, show xs.length = n by rw [← bcs_length]; exact hs.1]
  rw [e4] at hR
  clear e4
  obtain ⟨hg, _⟩ := hs.at_ (by omega)
  obtain ⟨A4, cut4, cs4, cf4⟩ := cut_from g o n c 8 8 rfl (by omega) hnc
  have hlt := hx.lt
  have b0 := (xs.getD 0 0).toNat_lt
  have x0 : w.cell? ⟨g, o, none⟩ = some (.int .u8 (xs.getD 0 0).toNat) := hs.byte (k := 0) (by omega)
  have HXB0 := Lib.hid x0
  have j0 : 0 < n := by omega
  have i0 : (0 : Int) < (n : Int) := by omega
  have b2 := (xs.getD 2 0).toNat_lt
  have x2 : w.cell? ⟨g, o + 2, none⟩ = some (.int .u8 (xs.getD 2 0).toNat) := hs.byte (k := 2) (by omega)
  have HXB2 := Lib.hid x2
  have j2 : 2 < n := by omega
  have i2 : (2 : Int) < (n : Int) := by omega
  have c0 := hx.cell 0
  have c1 := hx.cell 1
  have c2 := hx.cell 2
  have c3 := hx.cell 3
  have c4 := hx.cell 4
  have c5 := hx.cell 5
  have c6 := hx.cell 6
  have c7 := hx.cell 7
  have c8 := hx.cell 8
  have c9 := hx.cell 9
  simp only [List.getElem?_cons_zero, List.getElem?_cons_succ] at c0 c1 c2 c3 c4 c5 c6 c7 c8 c9
  have f0 := hx.frozen 0
  have f1 := hx.frozen 1
  have f2 := hx.frozen 2
  have f3 := hx.frozen 3
  have f4 := hx.frozen 4
  have f5 := hx.frozen 5
  have f6 := hx.frozen 6
  have f7 := hx.frozen 7
  have f8 := hx.frozen 8
  have f9 := hx.frozen 9
  have HS := Lib.hid hs
  have HX := Lib.hid hx
  have HC4 := Lib.hid cs4
  clear hs hx cs4 cf4
  have jc : (8 : Int) ≤ (c : Int) := by omega
  have jn : (8 : Int) ≤ (n : Int) := by omega
  have tl : decide ((n : Int) < 8) = false := by simp; omega
  have hne : gx ≠ g := by omega
  have hne' : ¬ gx = g := hne
  have hne2 : ¬ g = gx := fun h => hne h.symm
  generalize (xs.getD 0 0).toNat = a0 at *
  generalize (xs.getD 2 0).toNat = a2 at *
  have q0 := m8_240 a0 (by omega)
  have q1 := m8_224 a2 (by omega)
  have q2 := m8_24 a2 (by omega)
  have q3 := m8_4 a2 (by omega)
  have d0 : ((a0 / 16 * 16 : Nat) : Int) / 16 = ((a0 / 16 : Nat) : Int) := by omega
  have d1 : ((a2 / 32 * 32 : Nat) : Int) / 32 = ((a2 / 32 : Nat) : Int) := by omega
  have d2 : ((a2 / 8 % 4 * 8 : Nat) : Int) / 8 = ((a2 / 8 % 4 : Nat) : Int) := by omega
  have d3 : ((a2 / 4 % 2 * 4 : Nat) : Int) / 4 = ((a2 / 4 % 2 : Nat) : Int) := by omega
  have d4 : ((a2 : Int) / 4 % 2 != 0) = bt (a2 / 4 % 2) := bt_ne _ 1 (by decide) _ (by omega) (by omega)
  go_enter Tryz.func161, Tryz.ntmps161
  have HBE0 := Lib.hid (Below.refl gx w)
  have HBX0 := HX
  have HSW0 := HS
  go_wp2_with fail
  obtain ⟨W1, hW⟩ : ∃ W, W = (w.setCell ⟨gx, 3, none⟩ (.int .u8 ((a0 : Int) / 16))) := ⟨_, rfl⟩
  rw [← hW]
  have hbe : Below gx w W1 := by rw [hW]; exact ((Below.refl gx w).setCell (p := ⟨gx, 3, none⟩) (Nat.le_refl _) _)
  have hbx : Bk W1 gx 124 [.slice none 0 0, .slice none 0 0, .bool false, .int .u8 ((a0 : Int) / 16), .int .u8 0, .int .u8 0, .int .u16 0, .int .u16 0, .int .u16 0, .int .u32 0] := by rw [hW]; exact (HBX0.out.set_ 3 _)
  have HBE1 := Lib.hid (HBE0.out.trans hbe)
  have HBX1 := Lib.hid hbx
  have HSW1 := Lib.hid (HS.out.below ((HBE0.out.trans hbe).mono hB))
  have hlw := hbx.lt
  clear hbe hW c0 f0 c1 f1 c2 f2 c3 f3 c4 f4 c5 f5 c6 f6 c7 f7 c8 f8 c9 f9
  clear hbx
  go_wp2_with fail
  have jl2 : (2 : Int) ≤ (c : Int) := by omega
  go_region_held3 (fun w' => True) (trivial) ((go_at_call 100; refine (u16_at g o n 0 2 _ B o xs _ (HSW1.out.below (Below.refl _ _).drew) (by omega) (by omega) rfl).mono ?_; rintro e v2 ⟨rfl, hb1⟩; have hbx1 := HBX1.out.drew.below hb1 (by simpa using hlw); have f6 := hbx1.frozen 6; have c6 := hbx1.cell 6; simp only [List.getElem?_cons_zero, List.getElem?_cons_succ] at c6))
  have hN02 : Lib.beNat (xs.take 2) < 65536 := beNat_take _ 2
  generalize Lib.beNat (xs.take 2) = N02 at *
  simp (disch := omega) only [and16_4095]
  obtain ⟨W2, hW⟩ : ∃ W, W = v2.setCell ⟨gx, 6, none⟩ (.int .u16 ((N02 : Int) % 4096)) := ⟨_, rfl⟩
  rw [← hW]
  have hbe : Below gx W1 W2 := by rw [hW]; exact (below_undrew (hb1.mono (by simpa using Nat.le_of_lt hlw))).setCell (p := ⟨gx, 6, none⟩) (Nat.le_refl _) _
  have hbx : Bk W2 gx 124 [.slice none 0 0, .slice none 0 0, .bool false, .int .u8 ((a0 : Int) / 16), .int .u8 0, .int .u8 0, .int .u16 ((N02 : Int) % 4096), .int .u16 0, .int .u16 0, .int .u32 0] := by rw [hW]; exact hbx1.set_ 6 _
  have HBE2 := Lib.hid (HBE1.out.trans hbe)
  have HBX2 := Lib.hid hbx
  have HSW2 := Lib.hid (HS.out.below ((HBE1.out.trans hbe).mono hB))
  have hlw := hbx.lt
  clear hbe hW hb1 hbx1 c6 f6
  have c2 := hbx.cell 2
  have f2 := hbx.frozen 2
  have c4 := hbx.cell 4
  have f4 := hbx.frozen 4
  have c5 := hbx.cell 5
  have f5 := hbx.frozen 5
  simp only [List.getElem?_cons_zero, List.getElem?_cons_succ] at c2 c4 c5
  have x0 := (World.cell?_of_block (a := ⟨g, o, none⟩) (HBE2.out.block g (by omega))).trans HXB0.out
  have x2 := (World.cell?_of_block (a := ⟨g, o + 2, none⟩) (HBE2.out.block g (by omega))).trans HXB2.out
  clear hbx
  go_wp2_with fail
  obtain ⟨W3, hW⟩ : ∃ W, W = (((W2.setCell ⟨gx, 4, none⟩ (.int .u8 ((a2 : Int) / 32))).setCell ⟨gx, 5, none⟩ (.int .u8 ((a2 : Int) / 8 % 4))).setCell ⟨gx, 2, none⟩ (.bool (bt (a2 / 4 % 2)))) := ⟨_, rfl⟩
  rw [← hW]
  have hbe : Below gx W2 W3 := by rw [hW]; exact ((((Below.refl gx W2).setCell (p := ⟨gx, 4, none⟩) (Nat.le_refl _) _).setCell (p := ⟨gx, 5, none⟩) (Nat.le_refl _) _).setCell (p := ⟨gx, 2, none⟩) (Nat.le_refl _) _)
  have hbx : Bk W3 gx 124 [.slice none 0 0, .slice none 0 0, .bool (bt (a2 / 4 % 2)), .int .u8 ((a0 : Int) / 16), .int .u8 ((a2 : Int) / 32), .int .u8 ((a2 : Int) / 8 % 4), .int .u16 ((N02 : Int) % 4096), .int .u16 0, .int .u16 0, .int .u32 0] := by rw [hW]; exact (((HBX2.out.set_ 4 _).set_ 5 _).set_ 2 _)
  have HBE3 := Lib.hid (HBE2.out.trans hbe)
  have HBX3 := Lib.hid hbx
  have HSW3 := Lib.hid (HS.out.below ((HBE2.out.trans hbe).mono hB))
  have hlw := hbx.lt
  clear hbe hW c2 f2 c4 f4 c5 f5
  clear hbx
  go_wp2_with fail
  have jl4 : (4 : Int) ≤ (c : Int) := by omega
  have jz4 : ¬ (c : Int) = 2 := by omega
  have jy4 : ¬ c = 2 := by omega
  go_region_held3 (fun w' => True) (trivial) ((go_at_call 100; refine (u16_at g o n 2 2 _ B (o + 2) xs _ (HSW3.out.below (Below.refl _ _).drew) (by omega) (by omega) rfl).mono ?_; rintro e v4 ⟨rfl, hb1⟩; have hbx1 := HBX3.out.drew.below hb1 (by simpa using hlw); have f7 := hbx1.frozen 7; have c7 := hbx1.cell 7; simp only [List.getElem?_cons_zero, List.getElem?_cons_succ] at c7))
  have hN22 : Lib.beNat ((xs.drop 2).take 2) < 65536 := beNat_take _ 2
  generalize Lib.beNat ((xs.drop 2).take 2) = N22 at *
  simp (disch := omega) only [and16_1023]
  obtain ⟨W4, hW⟩ : ∃ W, W = v4.setCell ⟨gx, 7, none⟩ (.int .u16 ((N22 : Int) % 1024)) := ⟨_, rfl⟩
  rw [← hW]
  have hbe : Below gx W3 W4 := by rw [hW]; exact (below_undrew (hb1.mono (by simpa using Nat.le_of_lt hlw))).setCell (p := ⟨gx, 7, none⟩) (Nat.le_refl _) _
  have hbx : Bk W4 gx 124 [.slice none 0 0, .slice none 0 0, .bool (bt (a2 / 4 % 2)), .int .u8 ((a0 : Int) / 16), .int .u8 ((a2 : Int) / 32), .int .u8 ((a2 : Int) / 8 % 4), .int .u16 ((N02 : Int) % 4096), .int .u16 ((N22 : Int) % 1024), .int .u16 0, .int .u32 0] := by rw [hW]; exact hbx1.set_ 7 _
  have HBE4 := Lib.hid (HBE3.out.trans hbe)
  have HBX4 := Lib.hid hbx
  have HSW4 := Lib.hid (HS.out.below ((HBE3.out.trans hbe).mono hB))
  have hlw := hbx.lt
  clear hbe hW hb1 hbx1 c7 f7
  clear hbx
  go_wp2_with fail
  have jl5 : (6 : Int) ≤ (c : Int) := by omega
  have jz5 : ¬ (c : Int) = 4 := by omega
  have jy5 : ¬ c = 4 := by omega
  go_region_held3 (fun w' => True) (trivial) ((go_at_call 100; refine (u16_at g o n 4 2 _ B (o + 4) xs _ (HSW4.out.below (Below.refl _ _).drew) (by omega) (by omega) rfl).mono ?_; rintro e v5 ⟨rfl, hb1⟩; have hbx1 := HBX4.out.drew.below hb1 (by simpa using hlw); have f8 := hbx1.frozen 8; have c8 := hbx1.cell 8; simp only [List.getElem?_cons_zero, List.getElem?_cons_succ] at c8))
  have hN42 : Lib.beNat ((xs.drop 4).take 2) < 65536 := beNat_take _ 2
  generalize Lib.beNat ((xs.drop 4).take 2) = N42 at *
  simp (disch := omega) only [m16_65520]
  have d5 : ((N42 / 16 * 16 : Nat) : Int) / 16 = (N42 : Int) / 16 := by omega
  simp only [d5]
  obtain ⟨W5, hW⟩ : ∃ W, W = v5.setCell ⟨gx, 8, none⟩ (.int .u16 ((N42 : Int) / 16)) := ⟨_, rfl⟩
  rw [← hW]
  have hbe : Below gx W4 W5 := by rw [hW]; exact (below_undrew (hb1.mono (by simpa using Nat.le_of_lt hlw))).setCell (p := ⟨gx, 8, none⟩) (Nat.le_refl _) _
  have hbx : Bk W5 gx 124 [.slice none 0 0, .slice none 0 0, .bool (bt (a2 / 4 % 2)), .int .u8 ((a0 : Int) / 16), .int .u8 ((a2 : Int) / 32), .int .u8 ((a2 : Int) / 8 % 4), .int .u16 ((N02 : Int) % 4096), .int .u16 ((N22 : Int) % 1024), .int .u16 ((N42 : Int) / 16), .int .u32 0] := by rw [hW]; exact hbx1.set_ 8 _
  have HBE5 := Lib.hid (HBE4.out.trans hbe)
  have HBX5 := Lib.hid hbx
  have HSW5 := Lib.hid (HS.out.below ((HBE4.out.trans hbe).mono hB))
  have hlw := hbx.lt
  clear hbe hW hb1 hbx1 c8 f8
  clear hbx
  go_wp2_with fail
  have jl6 : (8 : Int) ≤ (c : Int) := by omega
  have jz6 : ¬ (c : Int) = 4 := by omega
  have jy6 : ¬ c = 4 := by omega
  go_region_held3 (fun w' => True) (trivial) ((go_at_call 106; refine (u32_at g o n 4 4 _ B (o + 4) xs _ (HSW5.out.below (Below.refl _ _).drew) (by omega) (by omega) rfl).mono ?_; rintro e v6 ⟨rfl, hb1⟩; have hbx1 := HBX5.out.drew.below hb1 (by simpa using hlw); have f9 := hbx1.frozen 9; have c9 := hbx1.cell 9; simp only [List.getElem?_cons_zero, List.getElem?_cons_succ] at c9))
  have hN44 : Lib.beNat ((xs.drop 4).take 4) < 4294967296 := beNat_take _ 4
  generalize Lib.beNat ((xs.drop 4).take 4) = N44 at *
  simp (disch := omega) only [and32_1048575]
  obtain ⟨W6, hW⟩ : ∃ W, W = v6.setCell ⟨gx, 9, none⟩ (.int .u32 ((N44 : Int) % 1048576)) := ⟨_, rfl⟩
  rw [← hW]
  have hbe : Below gx W5 W6 := by rw [hW]; exact (below_undrew (hb1.mono (by simpa using Nat.le_of_lt hlw))).setCell (p := ⟨gx, 9, none⟩) (Nat.le_refl _) _
  have hbx : Bk W6 gx 124 [.slice none 0 0, .slice none 0 0, .bool (bt (a2 / 4 % 2)), .int .u8 ((a0 : Int) / 16), .int .u8 ((a2 : Int) / 32), .int .u8 ((a2 : Int) / 8 % 4), .int .u16 ((N02 : Int) % 4096), .int .u16 ((N22 : Int) % 1024), .int .u16 ((N42 : Int) / 16), .int .u32 ((N44 : Int) % 1048576)] := by rw [hW]; exact hbx1.set_ 9 _
  have HBE6 := Lib.hid (HBE5.out.trans hbe)
  have HBX6 := Lib.hid hbx
  have HSW6 := Lib.hid (HS.out.below ((HBE5.out.trans hbe).mono hB))
  have hlw := hbx.lt
  clear hbe hW hb1 hbx1 c9 f9
  have c0 := hbx.cell 0
  have f0 := hbx.frozen 0
  have c1 := hbx.cell 1
  have f1 := hbx.frozen 1
  simp only [List.getElem?_cons_zero, List.getElem?_cons_succ] at c0 c1
  clear hbx
  go_wp2_with fail
  have hbf : Below gx W6 ((W6.setCell ⟨gx, 0, none⟩ (.slice (some ⟨g, o, none⟩) 8 c)).setCell ⟨gx, 1, none⟩ (.slice A4 (n - 8) (c - 8))) :=
    (((Below.refl gx _).setCell (p := ⟨gx, 0, none⟩) (Nat.le_refl _) _).setCell (p := ⟨gx, 1, none⟩) (Nat.le_refl _) _)
  have hbg := HBE6.out.trans hbf
  exact hR.out _ _ ⟨_, A4, _, _, rfl, hbg, ((HBX6.out.set_ 0 _).set_ 1 _), (HC4.out w _ xs HS.out).below (hbg.mono hB), by simp⟩
theorem dnil_erspan (gx : Nat) (W : World) : (nilAhead 390 122 (.pointer (some ⟨gx, 0, none⟩)) "DecodeFromBytes").run Tryz.prog W = .ok (some false) W := by kernel_rfl
theorem dmeth_erspan (gx : Nat) (W : World) : (method 390 122 (.pointer (some ⟨gx, 0, none⟩)) "DecodeFromBytes").run Tryz.prog W = .ok (161, .pointer (some ⟨gx, 0, none⟩)) W := by kernel_rfl
theorem dent_erspan (args : Array Value) (W : World) : (callFunc 161 args).run Tryz.prog W = .ok (.enter 161 args) W := by kernel_rfl
set_option maxRecDepth 1000000 in
set_option maxHeartbeats 10000000 in
theorem dec_erspan (xs : List UInt8) (h4 : 8 ≤ xs.length) (hn : xs.length ≤ 1000) : Decs 91 122 124 xs (xs.drop 8) (Fld.just [.bool (bt ((xs.getD 2 0).toNat / 4 % 2)), .int .u8 ((xs.getD 0 0).toNat / 16 : Nat), .int .u8 ((xs.getD 2 0).toNat / 32 : Nat), .int .u8 ((xs.getD 2 0).toNat / 8 % 4 : Nat), .int .u16 (Lib.beNat (xs.take 2) % 4096 : Nat), .int .u16 (Lib.beNat ((xs.drop 2).take 2) % 1024 : Nat), .int .u16 (Lib.beNat ((xs.drop 4).take 2) / 16 : Nat), .int .u32 (Lib.beNat ((xs.drop 4).take 4) % 1048576 : Nat)]) := by
  intro gk u A n c w hk hs hnc
  refine calls_hid fun R hR => ?_
  have hl : xs.length = n := by rw [← bcs_length]; exact hs.1
  have e4 : (xs.drop 8).length = n - 8 := by rw [List.length_drop, hl]
  rw [e4] at hR
  rw [hl] at h4 hn
  obtain ⟨g, o, rfl, hg, _⟩ := hs.2 (by omega)
  have hlt := hk.lt
  have HS := Lib.hid hs
  have HK := Lib.hid hk
  clear hs hk
  go_enter Tryz.func91, Tryz.ntmps91
  go_wp2_with fail
  obtain ⟨W, hW⟩ : ∃ W, W = w.alloc (.cells #[.slice none 0 0, .slice none 0 0, .bool false, .int .u8 0, .int .u8 0, .int .u8 0, .int .u16 0, .int .u16 0, .int .u16 0, .int .u32 0] 124) := ⟨_, rfl⟩
  rw [← hW]
  have hx : Bk W w.heap.size 124 [.slice none 0 0, .slice none 0 0, .bool false, .int .u8 0, .int .u8 0, .int .u8 0, .int .u16 0, .int .u16 0, .int .u16 0, .int .u32 0] := by rw [hW]; exact Bk.new _ _ _
  have hbe : Below w.heap.size w W := by rw [hW]; exact (Below.refl _ _).alloc (Nat.le_refl _) _
  have HBE := Lib.hid hbe
  clear hW
  refine (dld_decs 122 124 161 w.heap.size gk u _ (xs.drop 8) _ (dnil_erspan _) (dmeth_erspan _) dent_erspan w W (HK.out.below hbe hlt) hlt rfl HBE.out (dfb_erspan xs g o n c gk w.heap.size _ W ((HS.out.below (hbe.mono (Nat.le_of_lt hlt)))) (Nat.le_of_lt hlt) h4 hnc hn hx)).mono ?_
  rintro e w' ⟨gx, Cv, Ap, cp, fs, rfl, h1, h2, h3, h4', h5, h6⟩
  rw [e4] at h3 h4'
  go_wp2_with fail
  exact hR.out _ _ ⟨gx, Cv, Ap, cp, fs, rfl, h1, h2, h3, h4', h5, h6⟩
end Go.Proofs.YtphmklgbbpiafaaGreat
