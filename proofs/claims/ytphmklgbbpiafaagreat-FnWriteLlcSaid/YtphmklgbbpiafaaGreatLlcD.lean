/-
  Llc: what its decoder hands on. No condition.
-/
import Derived.Deep.RegionHeld3
import Derived.Test.YtphmklgbbpiafaaGreatDldA
import Derived.Test.YtphmklgbbpiafaaGreatMskA
namespace Go.Proofs.YtphmklgbbpiafaaGreat
open Go Go.RowKit
set_option linter.unusedVariables false
attribute [local go_sem] sd_drewN ad_drewN
set_option maxRecDepth 1000000 in
set_option maxHeartbeats 10000000 in
/-- What DecodeFromBytes does to the layer in block gx. -/
theorem dfb_llc_s (xs : List UInt8) (hm : (xs.getD 2 0).toNat % 4 = 3) (g o n c B gx : Nat) (df : Value) (w : World) (hs : Sl w B (some ⟨g, o, none⟩) n (bcs xs)) (hB : B ≤ gx) (h4 : 3 ≤ n) (hnc : n ≤ c) (hn : n ≤ 1000)
    (hx : Bk w gx 87 [.slice none 0 0, .slice none 0 0, .int .u8 0, .bool false, .int .u8 0, .bool false, .int .u16 0]) :
    Calls Tryz.prog 101 #[.pointer (some ⟨gx, 0, none⟩), .slice (some ⟨g, o, none⟩) n c, df] w (Dfbs B gx 87 (xs.drop 3) (Fld.just [.int .u8 ((xs.getD 0 0).toNat / 2 * 2 : Nat), .bool (bt ((xs.getD 0 0).toNat % 2)), .int .u8 ((xs.getD 1 0).toNat / 2 * 2 : Nat), .bool (bt ((xs.getD 1 0).toNat % 2)), .int .u16 ((xs.getD 2 0).toNat : Nat)]) w) := by
  refine calls_hid fun R hR => ?_
  unfold Dfbs at hR
  simp only [Fld.just] at hR
  have e4 : (xs.drop 3).length = n - 3 := by rw [List.length_drop, show xs.length = n by rw [← bcs_length]; exact hs.1]
  rw [e4] at hR
  clear e4
  obtain ⟨hg, _⟩ := hs.at_ (by omega)
  obtain ⟨A4, cut4, cs4, cf4⟩ := cut_from g o n c 3 3 rfl (by omega) hnc
  have hlt := hx.lt
  have b0 := (xs.getD 0 0).toNat_lt
  have x0 : w.cell? ⟨g, o, none⟩ = some (.int .u8 (xs.getD 0 0).toNat) := hs.byte (k := 0) (by omega)
  have HXB0 := Lib.hid x0
  have j0 : 0 < n := by omega
  have i0 : (0 : Int) < (n : Int) := by omega
  have b1 := (xs.getD 1 0).toNat_lt
  have x1 : w.cell? ⟨g, o + 1, none⟩ = some (.int .u8 (xs.getD 1 0).toNat) := hs.byte (k := 1) (by omega)
  have HXB1 := Lib.hid x1
  have j1 : 1 < n := by omega
  have i1 : (1 : Int) < (n : Int) := by omega
  have b2 := (xs.getD 2 0).toNat_lt
  have x2 : w.cell? ⟨g, o + 2, none⟩ = some (.int .u8 (xs.getD 2 0).toNat) := hs.byte (k := 2) (by omega)
  have HXB2 := Lib.hid x2
  have j2 : 2 < n := by omega
  have i2 : (2 : Int) < (n : Int) := by omega
  have c0 := hx.cell 0
  have c1 := hx.cell 1
  have c2 := hx.cell 2
  have c3 := hx.cell 3
  have c4 := hx.cell 4
  have c5 := hx.cell 5
  have c6 := hx.cell 6
  simp only [List.getElem?_cons_zero, List.getElem?_cons_succ] at c0 c1 c2 c3 c4 c5 c6
  have f0 := hx.frozen 0
  have f1 := hx.frozen 1
  have f2 := hx.frozen 2
  have f3 := hx.frozen 3
  have f4 := hx.frozen 4
  have f5 := hx.frozen 5
  have f6 := hx.frozen 6
  have HS := Lib.hid hs
  have HX := Lib.hid hx
  have HC4 := Lib.hid cs4
  clear hs hx cs4 cf4
  have jc : (3 : Int) ≤ (c : Int) := by omega
  have jn : (3 : Int) ≤ (n : Int) := by omega
  have tl : decide ((n : Int) < 3) = false := by simp; omega
  have hne : gx ≠ g := by omega
  have hne' : ¬ gx = g := hne
  have hne2 : ¬ g = gx := fun h => hne h.symm
  generalize (xs.getD 0 0).toNat = a0 at *
  generalize (xs.getD 1 0).toNat = a1 at *
  generalize (xs.getD 2 0).toNat = a2 at *
  have q0 := m8_254 a0 (by omega)
  have r0 := m8_1 a0 (by omega)
  have p0 : a0 / 2 * 2 < 256 := by omega
  have s0 : a0 % 2 < 2 := by omega
  generalize a0 / 2 * 2 = m0 at *
  generalize a0 % 2 = l0 at *
  have v0 : ((l0 : Int) != 0) = bt l0 := bt_ne _ 1 (by decide) _ s0 (by omega)
  have q1 := m8_254 a1 (by omega)
  have r1 := m8_1 a1 (by omega)
  have p1 : a1 / 2 * 2 < 256 := by omega
  have s1 : a1 % 2 < 2 := by omega
  generalize a1 / 2 * 2 = m1 at *
  generalize a1 % 2 = l1 at *
  have v1 : ((l1 : Int) != 0) = bt l1 := bt_ne _ 1 (by decide) _ s1 (by omega)
  have w16 : IntKind.u16.wrap (a2 : Int) = a2 := by simp [IntKind.wrap, IntKind.bits, IntKind.signed]; omega
  have g1 := andA .u16 16 (by decide) wraps_u16 1 (a2 : Int) 1 (by omega) (by omega) rfl (by decide)
  have g3 := andA .u16 16 (by decide) wraps_u16 2 (a2 : Int) 3 (by omega) (by omega) rfl (by decide)
  have g1' : bits .and .u16 (a2 : Int) 1 = 1 := by rw [g1]; omega
  have g3' : bits .and .u16 (a2 : Int) 3 = 3 := by rw [g3]; omega
  clear g1 g3 hm
  go_enter Tryz.func101, Tryz.ntmps101
  go_wp2_with fail
  have hbg : Below gx w ((((((((w.setCell ⟨gx, 2, none⟩ (.int .u8 m0)).setCell ⟨gx, 3, none⟩ (.bool (bt l0))).setCell ⟨gx, 4, none⟩ (.int .u8 m1)).setCell ⟨gx, 5, none⟩ (.bool (bt l1))).setCell ⟨gx, 6, none⟩ (.int .u16 a2))).setCell ⟨gx, 0, none⟩ (.slice (some ⟨g, o, none⟩) 3 c)).setCell ⟨gx, 1, none⟩ (.slice A4 (n - 3) (c - 3))) :=
    (((((((Below.refl gx w).setCell (p := ⟨gx, 2, none⟩) (Nat.le_refl _) _).setCell (p := ⟨gx, 3, none⟩) (Nat.le_refl _) _).setCell (p := ⟨gx, 4, none⟩) (Nat.le_refl _) _).setCell (p := ⟨gx, 5, none⟩) (Nat.le_refl _) _).setCell (p := ⟨gx, 6, none⟩) (Nat.le_refl _) _).setCell (p := ⟨gx, 0, none⟩) (Nat.le_refl _) _).setCell (p := ⟨gx, 1, none⟩) (Nat.le_refl _) _
  exact hR.out _ _ ⟨_, A4, _, _, rfl, hbg, (((((((HX.out.set_ 2 _).set_ 3 _).set_ 4 _).set_ 5 _).set_ 6 _).set_ 0 _).set_ 1 _), (HC4.out w _ xs HS.out).below (hbg.mono hB), rfl⟩
set_option maxRecDepth 1000000 in
set_option maxHeartbeats 10000000 in
theorem dec_llc_s (xs : List UInt8) (hm : (xs.getD 2 0).toNat % 4 = 3) (h4 : 3 ≤ xs.length) (hn : xs.length ≤ 1000) : Decs 79 85 87 xs (xs.drop 3) (Fld.just [.int .u8 ((xs.getD 0 0).toNat / 2 * 2 : Nat), .bool (bt ((xs.getD 0 0).toNat % 2)), .int .u8 ((xs.getD 1 0).toNat / 2 * 2 : Nat), .bool (bt ((xs.getD 1 0).toNat % 2)), .int .u16 ((xs.getD 2 0).toNat : Nat)]) := by
  intro gk u A n c w hk hs hnc
  refine calls_hid fun R hR => ?_
  have hl : xs.length = n := by rw [← bcs_length]; exact hs.1
  rw [hl] at h4 hn
  obtain ⟨g, o, rfl, hg, _⟩ := hs.2 (by omega)
  have hlt := hk.lt
  have HS := Lib.hid hs
  have HK := Lib.hid hk
  clear hs hk
  obtain ⟨W, hW⟩ : ∃ W, W = w.alloc (.cells #[.slice none 0 0, .slice none 0 0, .int .u8 0, .bool false, .int .u8 0, .bool false, .int .u16 0] 87) := ⟨_, rfl⟩
  have hx : Bk W w.heap.size 87 [.slice none 0 0, .slice none 0 0, .int .u8 0, .bool false, .int .u8 0, .bool false, .int .u16 0] := by rw [hW]; exact Bk.new _ _ _
  have hbe0 : Below w.heap.size w W := by rw [hW]; exact (Below.refl _ _).alloc (Nat.le_refl _) _
  have HBE := Lib.hid hbe0
  have hD := dfb_llc_s xs hm g o n c gk w.heap.size (.iface 234 (.pointer (some ⟨gk, 0, none⟩))) W ((HS.out.below (hbe0.mono (Nat.le_of_lt hlt)))) (Nat.le_of_lt hlt) h4 hnc hn hx
  have HD := Lib.hid hD
  have HW := Lib.hid hW
  have HKW := Lib.hid (HK.out.below hbe0 hlt)
  clear hD hW hx hbe0
  go_enter Tryz.func79, Tryz.ntmps79
  go_wp2_with fail
  rw [← HW.out]
  refine HD.out.mono ?_
  rintro e w1 ⟨Cv, Ap, cp, fs, rfl, hb1, h3, h4', h5⟩
  have hk1 := HKW.out.below hb1 hlt
  have HK1 := Lib.hid hk1
  have HB1 := Lib.hid (HBE.out.trans hb1)
  have H3 := Lib.hid h3
  have H4 := Lib.hid h4'
  have H5 := Lib.hid h5
  clear hk1 hb1 h3 h4' h5
  go_wp2_with fail
  refine (addlayer gk u _ 85 w1 HK1.out).mono ?_
  rintro e w2 ⟨rfl, rfl⟩
  go_wp2_with fail
  have hset : Below gk w1 (w1.setCell ⟨gk, 0, none⟩ (.iface 85 (.pointer (some ⟨w.heap.size, 0, none⟩)))) := (Below.refl _ _).setCell (p := ⟨gk, 0, none⟩) (Nat.le_refl _) _
  refine hR.out _ _ ⟨w.heap.size, Cv, Ap, cp, fs, rfl, Nat.le_refl _, HK1.out.set_ 0 _, H3.out.far (p := ⟨gk, 0, none⟩) (by simp; omega) _, H4.out.below hset, Fld.keep _ _ _ _ _ H5.out hset, ?_⟩
  refine only_set ?_ (.inl rfl) _
  exact grown_of_below HB1.out _
set_option maxRecDepth 1000000 in
set_option maxHeartbeats 10000000 in
/-- What DecodeFromBytes does to the layer in block gx. -/
theorem dfb_llc_l (xs : List UInt8) (hm : (xs.getD 2 0).toNat % 4 ≠ 3) (g o n c B gx : Nat) (df : Value) (w : World) (hs : Sl w B (some ⟨g, o, none⟩) n (bcs xs)) (hB : B ≤ gx) (h4 : 4 ≤ n) (hnc : n ≤ c) (hn : n ≤ 1000)
    (hx : Bk w gx 87 [.slice none 0 0, .slice none 0 0, .int .u8 0, .bool false, .int .u8 0, .bool false, .int .u16 0]) :
    Calls Tryz.prog 101 #[.pointer (some ⟨gx, 0, none⟩), .slice (some ⟨g, o, none⟩) n c, df] w (Dfbs B gx 87 (xs.drop 4) (Fld.just [.int .u8 ((xs.getD 0 0).toNat / 2 * 2 : Nat), .bool (bt ((xs.getD 0 0).toNat % 2)), .int .u8 ((xs.getD 1 0).toNat / 2 * 2 : Nat), .bool (bt ((xs.getD 1 0).toNat % 2)), .int .u16 (((xs.getD 2 0).toNat * 256 + (xs.getD 3 0).toNat) : Nat)]) w) := by
  refine calls_hid fun R hR => ?_
  unfold Dfbs at hR
  simp only [Fld.just] at hR
  have e4 : (xs.drop 4).length = n - 4 := by rw [List.length_drop, show xs.length = n by rw [← bcs_length]; exact hs.1]
  rw [e4] at hR
  clear e4
  obtain ⟨hg, _⟩ := hs.at_ (by omega)
  obtain ⟨A4, cut4, cs4, cf4⟩ := cut_from g o n c 4 4 rfl (by omega) hnc
  have hlt := hx.lt
  have b0 := (xs.getD 0 0).toNat_lt
  have x0 : w.cell? ⟨g, o, none⟩ = some (.int .u8 (xs.getD 0 0).toNat) := hs.byte (k := 0) (by omega)
  have HXB0 := Lib.hid x0
  have j0 : 0 < n := by omega
  have i0 : (0 : Int) < (n : Int) := by omega
  have b1 := (xs.getD 1 0).toNat_lt
  have x1 : w.cell? ⟨g, o + 1, none⟩ = some (.int .u8 (xs.getD 1 0).toNat) := hs.byte (k := 1) (by omega)
  have HXB1 := Lib.hid x1
  have j1 : 1 < n := by omega
  have i1 : (1 : Int) < (n : Int) := by omega
  have b2 := (xs.getD 2 0).toNat_lt
  have x2 : w.cell? ⟨g, o + 2, none⟩ = some (.int .u8 (xs.getD 2 0).toNat) := hs.byte (k := 2) (by omega)
  have HXB2 := Lib.hid x2
  have j2 : 2 < n := by omega
  have i2 : (2 : Int) < (n : Int) := by omega
  have b3 := (xs.getD 3 0).toNat_lt
  have x3 : w.cell? ⟨g, o + 3, none⟩ = some (.int .u8 (xs.getD 3 0).toNat) := hs.byte (k := 3) (by omega)
  have HXB3 := Lib.hid x3
  have j3 : 3 < n := by omega
  have i3 : (3 : Int) < (n : Int) := by omega
  have c0 := hx.cell 0
  have c1 := hx.cell 1
  have c2 := hx.cell 2
  have c3 := hx.cell 3
  have c4 := hx.cell 4
  have c5 := hx.cell 5
  have c6 := hx.cell 6
  simp only [List.getElem?_cons_zero, List.getElem?_cons_succ] at c0 c1 c2 c3 c4 c5 c6
  have f0 := hx.frozen 0
  have f1 := hx.frozen 1
  have f2 := hx.frozen 2
  have f3 := hx.frozen 3
  have f4 := hx.frozen 4
  have f5 := hx.frozen 5
  have f6 := hx.frozen 6
  have HS := Lib.hid hs
  have HX := Lib.hid hx
  have HC4 := Lib.hid cs4
  clear hs hx cs4 cf4
  have jc : (4 : Int) ≤ (c : Int) := by omega
  have jn : (4 : Int) ≤ (n : Int) := by omega
  have tl : decide ((n : Int) < 4) = false := by simp; omega
  have hne : gx ≠ g := by omega
  have hne' : ¬ gx = g := hne
  have hne2 : ¬ g = gx := fun h => hne h.symm
  generalize (xs.getD 0 0).toNat = a0 at *
  generalize (xs.getD 1 0).toNat = a1 at *
  generalize (xs.getD 2 0).toNat = a2 at *
  generalize (xs.getD 3 0).toNat = a3 at *
  have q0 := m8_254 a0 (by omega)
  have r0 := m8_1 a0 (by omega)
  have p0 : a0 / 2 * 2 < 256 := by omega
  have s0 : a0 % 2 < 2 := by omega
  generalize a0 / 2 * 2 = m0 at *
  generalize a0 % 2 = l0 at *
  have v0 : ((l0 : Int) != 0) = bt l0 := bt_ne _ 1 (by decide) _ s0 (by omega)
  have q1 := m8_254 a1 (by omega)
  have r1 := m8_1 a1 (by omega)
  have p1 : a1 / 2 * 2 < 256 := by omega
  have s1 : a1 % 2 < 2 := by omega
  generalize a1 / 2 * 2 = m1 at *
  generalize a1 % 2 = l1 at *
  have v1 : ((l1 : Int) != 0) = bt l1 := bt_ne _ 1 (by decide) _ s1 (by omega)
  have w16 : IntKind.u16.wrap (a2 : Int) = a2 := by simp [IntKind.wrap, IntKind.bits, IntKind.signed]; omega
  have g1 := andA .u16 16 (by decide) wraps_u16 1 (a2 : Int) 1 (by omega) (by omega) rfl (by decide)
  have g3 := andA .u16 16 (by decide) wraps_u16 2 (a2 : Int) 3 (by omega) (by omega) rfl (by decide)
  have t4 : decide ((n : Int) < 4) = false := by simp; omega
  have t3 : decide ((n : Int) < 3) = false := by simp; omega
  have w17 : IntKind.u16.wrap (a3 : Int) = a3 := by simp [IntKind.wrap, IntKind.bits, IntKind.signed]; omega
  rcases (show a2 % 2 = 0 ∨ a2 % 4 = 1 by omega) with hz | hz
  · have g1' : bits .and .u16 (a2 : Int) 1 = 0 := by rw [g1]; omega
    clear g1 g3 hm hz
    go_enter Tryz.func101, Tryz.ntmps101
    go_wp2_with fail
    obtain ⟨W1, hW⟩ : ∃ W, W = (((((w.setCell ⟨gx, 2, none⟩ (.int .u8 m0)).setCell ⟨gx, 3, none⟩ (.bool (bt l0))).setCell ⟨gx, 4, none⟩ (.int .u8 m1)).setCell ⟨gx, 5, none⟩ (.bool (bt l1))).setCell ⟨gx, 6, none⟩ (.int .u16 a2)) := ⟨_, rfl⟩
    rw [← hW]
    have hbe : Below gx w W1 := by rw [hW]; exact ((((((Below.refl gx w).setCell (p := ⟨gx, 2, none⟩) (Nat.le_refl _) _).setCell (p := ⟨gx, 3, none⟩) (Nat.le_refl _) _).setCell (p := ⟨gx, 4, none⟩) (Nat.le_refl _) _).setCell (p := ⟨gx, 5, none⟩) (Nat.le_refl _) _).setCell (p := ⟨gx, 6, none⟩) (Nat.le_refl _) _)
    have hbx : Bk W1 gx 87 [.slice none 0 0, .slice none 0 0, .int .u8 m0, .bool (bt l0), .int .u8 m1, .bool (bt l1), .int .u16 a2] := by rw [hW]; exact (((((HX.out.set_ 2 _).set_ 3 _).set_ 4 _).set_ 5 _).set_ 6 _)
    have HBE := Lib.hid hbe
    have HBX := Lib.hid hbx
    have x3 := (World.cell?_of_block (a := ⟨g, o + 3, none⟩) (hbe.block g (by omega))).trans HXB3.out
    clear hW hbe c0 f0 c1 f1 c2 f2 c3 f3 c4 f4 c5 f5 c6 f6
    have c0 := hbx.cell 0
    have f0 := hbx.frozen 0
    have c1 := hbx.cell 1
    have f1 := hbx.frozen 1
    have c6 := hbx.cell 6
    have f6 := hbx.frozen 6
    simp only [List.getElem?_cons_zero, List.getElem?_cons_succ] at c0 c1 c6
    clear hbx
    refine wp_region_tail 13 (by kernel_rfl) (by kernel_rfl) ?_
    simp only [List.take_succ_cons, List.take_zero, List.drop_succ_cons, List.drop_zero]
    repeat still_step
    refine wpStill_nil ?_
    go_wp2_with fail
    have ho : bits .or .u16 ((a2 : Int) * 256) (a3 : Int) = ((a2 * 256 + a3 : Nat) : Int) := by rw [orm16 0 8 _ _ (by omega) (by omega) (by omega) (by omega) (by omega) (by omega) (by omega)]; omega
    simp only [ho]
    have hbf : Below gx W1 (((W1.drew.setCell ⟨gx, 6, none⟩ (.int .u16 (a2 * 256 + a3 : Nat))).setCell ⟨gx, 0, none⟩ (.slice (some ⟨g, o, none⟩) 4 c)).setCell ⟨gx, 1, none⟩ (.slice A4 (n - 4) (c - 4))) :=
      ((((Below.refl gx W1).drew).setCell (p := ⟨gx, 6, none⟩) (Nat.le_refl _) _).setCell (p := ⟨gx, 0, none⟩) (Nat.le_refl _) _).setCell (p := ⟨gx, 1, none⟩) (Nat.le_refl _) _
    have hbg := HBE.out.trans hbf
    exact hR.out _ _ ⟨_, A4, _, _, rfl, hbg, ((HBX.out.drew.set_ 6 _).set_ 0 _).set_ 1 _, (HC4.out w _ xs HS.out).below (hbg.mono hB), rfl⟩
  · have g1' : bits .and .u16 (a2 : Int) 1 = 1 := by rw [g1]; omega
    have g3' : bits .and .u16 (a2 : Int) 3 = 1 := by rw [g3]; omega
    clear g1 g3 hm hz
    go_enter Tryz.func101, Tryz.ntmps101
    go_wp2_with fail
    obtain ⟨W1, hW⟩ : ∃ W, W = (((((w.setCell ⟨gx, 2, none⟩ (.int .u8 m0)).setCell ⟨gx, 3, none⟩ (.bool (bt l0))).setCell ⟨gx, 4, none⟩ (.int .u8 m1)).setCell ⟨gx, 5, none⟩ (.bool (bt l1))).setCell ⟨gx, 6, none⟩ (.int .u16 a2)) := ⟨_, rfl⟩
    rw [← hW]
    have hbe : Below gx w W1 := by rw [hW]; exact ((((((Below.refl gx w).setCell (p := ⟨gx, 2, none⟩) (Nat.le_refl _) _).setCell (p := ⟨gx, 3, none⟩) (Nat.le_refl _) _).setCell (p := ⟨gx, 4, none⟩) (Nat.le_refl _) _).setCell (p := ⟨gx, 5, none⟩) (Nat.le_refl _) _).setCell (p := ⟨gx, 6, none⟩) (Nat.le_refl _) _)
    have hbx : Bk W1 gx 87 [.slice none 0 0, .slice none 0 0, .int .u8 m0, .bool (bt l0), .int .u8 m1, .bool (bt l1), .int .u16 a2] := by rw [hW]; exact (((((HX.out.set_ 2 _).set_ 3 _).set_ 4 _).set_ 5 _).set_ 6 _)
    have HBE := Lib.hid hbe
    have HBX := Lib.hid hbx
    have x3 := (World.cell?_of_block (a := ⟨g, o + 3, none⟩) (hbe.block g (by omega))).trans HXB3.out
    clear hW hbe c0 f0 c1 f1 c2 f2 c3 f3 c4 f4 c5 f5 c6 f6
    have c0 := hbx.cell 0
    have f0 := hbx.frozen 0
    have c1 := hbx.cell 1
    have f1 := hbx.frozen 1
    have c6 := hbx.cell 6
    have f6 := hbx.frozen 6
    simp only [List.getElem?_cons_zero, List.getElem?_cons_succ] at c0 c1 c6
    clear hbx
    refine wp_region_tail 13 (by kernel_rfl) (by kernel_rfl) ?_
    simp only [List.take_succ_cons, List.take_zero, List.drop_succ_cons, List.drop_zero]
    repeat still_step
    refine wpStill_nil ?_
    go_wp2_with fail
    have ho : bits .or .u16 ((a2 : Int) * 256) (a3 : Int) = ((a2 * 256 + a3 : Nat) : Int) := by rw [orm16 0 8 _ _ (by omega) (by omega) (by omega) (by omega) (by omega) (by omega) (by omega)]; omega
    simp only [ho]
    have hbf : Below gx W1 (((W1.drew.setCell ⟨gx, 6, none⟩ (.int .u16 (a2 * 256 + a3 : Nat))).setCell ⟨gx, 0, none⟩ (.slice (some ⟨g, o, none⟩) 4 c)).setCell ⟨gx, 1, none⟩ (.slice A4 (n - 4) (c - 4))) :=
      ((((Below.refl gx W1).drew).setCell (p := ⟨gx, 6, none⟩) (Nat.le_refl _) _).setCell (p := ⟨gx, 0, none⟩) (Nat.le_refl _) _).setCell (p := ⟨gx, 1, none⟩) (Nat.le_refl _) _
    have hbg := HBE.out.trans hbf
    exact hR.out _ _ ⟨_, A4, _, _, rfl, hbg, ((HBX.out.drew.set_ 6 _).set_ 0 _).set_ 1 _, (HC4.out w _ xs HS.out).below (hbg.mono hB), rfl⟩
set_option maxRecDepth 1000000 in
set_option maxHeartbeats 10000000 in
theorem dec_llc_l (xs : List UInt8) (hm : (xs.getD 2 0).toNat % 4 ≠ 3) (h4 : 4 ≤ xs.length) (hn : xs.length ≤ 1000) : Decs 79 85 87 xs (xs.drop 4) (Fld.just [.int .u8 ((xs.getD 0 0).toNat / 2 * 2 : Nat), .bool (bt ((xs.getD 0 0).toNat % 2)), .int .u8 ((xs.getD 1 0).toNat / 2 * 2 : Nat), .bool (bt ((xs.getD 1 0).toNat % 2)), .int .u16 (((xs.getD 2 0).toNat * 256 + (xs.getD 3 0).toNat) : Nat)]) := by
  intro gk u A n c w hk hs hnc
  refine calls_hid fun R hR => ?_
  have hl : xs.length = n := by rw [← bcs_length]; exact hs.1
  rw [hl] at h4 hn
  obtain ⟨g, o, rfl, hg, _⟩ := hs.2 (by omega)
  have hlt := hk.lt
  have HS := Lib.hid hs
  have HK := Lib.hid hk
  clear hs hk
  obtain ⟨W, hW⟩ : ∃ W, W = w.alloc (.cells #[.slice none 0 0, .slice none 0 0, .int .u8 0, .bool false, .int .u8 0, .bool false, .int .u16 0] 87) := ⟨_, rfl⟩
  have hx : Bk W w.heap.size 87 [.slice none 0 0, .slice none 0 0, .int .u8 0, .bool false, .int .u8 0, .bool false, .int .u16 0] := by rw [hW]; exact Bk.new _ _ _
  have hbe0 : Below w.heap.size w W := by rw [hW]; exact (Below.refl _ _).alloc (Nat.le_refl _) _
  have HBE := Lib.hid hbe0
  have hD := dfb_llc_l xs hm g o n c gk w.heap.size (.iface 234 (.pointer (some ⟨gk, 0, none⟩))) W ((HS.out.below (hbe0.mono (Nat.le_of_lt hlt)))) (Nat.le_of_lt hlt) h4 hnc hn hx
  have HD := Lib.hid hD
  have HW := Lib.hid hW
  have HKW := Lib.hid (HK.out.below hbe0 hlt)
  clear hD hW hx hbe0
  go_enter Tryz.func79, Tryz.ntmps79
  go_wp2_with fail
  rw [← HW.out]
  refine HD.out.mono ?_
  rintro e w1 ⟨Cv, Ap, cp, fs, rfl, hb1, h3, h4', h5⟩
  have hk1 := HKW.out.below hb1 hlt
  have HK1 := Lib.hid hk1
  have HB1 := Lib.hid (HBE.out.trans hb1)
  have H3 := Lib.hid h3
  have H4 := Lib.hid h4'
  have H5 := Lib.hid h5
  clear hk1 hb1 h3 h4' h5
  go_wp2_with fail
  refine (addlayer gk u _ 85 w1 HK1.out).mono ?_
  rintro e w2 ⟨rfl, rfl⟩
  go_wp2_with fail
  have hset : Below gk w1 (w1.setCell ⟨gk, 0, none⟩ (.iface 85 (.pointer (some ⟨w.heap.size, 0, none⟩)))) := (Below.refl _ _).setCell (p := ⟨gk, 0, none⟩) (Nat.le_refl _) _
  refine hR.out _ _ ⟨w.heap.size, Cv, Ap, cp, fs, rfl, Nat.le_refl _, HK1.out.set_ 0 _, H3.out.far (p := ⟨gk, 0, none⟩) (by simp; omega) _, H4.out.below hset, Fld.keep _ _ _ _ _ H5.out hset, ?_⟩
  refine only_set ?_ (.inl rfl) _
  exact grown_of_below HB1.out _
end Go.Proofs.YtphmklgbbpiafaaGreat
