/-
  GTP: bytes that its decoder refuses. No condition.
-/
import Derived.Test.YtphmklgbbpiafaaGreatGtpD
import Derived.Test.YtphmklgbbpiafaaGreatGtpF
namespace Go.Proofs.YtphmklgbbpiafaaGreat
open Go Go.RowKit
set_option linter.unusedVariables false
set_option linter.unusedSimpArgs false
attribute [local go_sem] sd_drewN ad_drewN
set_option maxRecDepth 1000000 in
set_option maxHeartbeats 10000000 in
/-- What DecodeFromBytes does to the layer in block gx. -/
theorem dfb_gtp_no (xs : List UInt8) (m0 : Nat) (hm0 : m0 < 8) (e0 : (xs.getD 0 0).toNat = m0 * 32 + 16) (hd : xs.length - 8 < Lib.beNat ((xs.drop 2).take 2)) (hd2 : Lib.beNat ((xs.drop 2).take 2) < 65528)  (g o n c B gx : Nat) (df : Value) (w : World) (hs : Sl w B (some ⟨g, o, none⟩) n (bcs xs)) (hB : B ≤ gx) (h4 : 8 ≤ n) (hnc : n ≤ c) (hn : n ≤ 1000)
    (hx : Bk w gx 118 [.slice none 0 0, .slice none 0 0, .int .u8 0, .int .u8 0, .int .u8 0, .bool false, .bool false, .bool false, .int .u8 0, .int .u16 0, .int .u32 0, .int .u16 0, .int .u8 0, .slice none 0 0]) :
    Calls Tryz.prog 107 #[.pointer (some ⟨gx, 0, none⟩), .slice (some ⟨g, o, none⟩) n c, df] w fun e w' => ∃ v, e = .returned (.iface 239 v) ∧ Below gx w w' := by
  refine calls_hid fun R hR => ?_
  rw [show xs.length = n by rw [← bcs_length]; exact hs.1] at hd
  obtain ⟨hg, _⟩ := hs.at_ (by omega)
  obtain ⟨A4, cut4, cs4, cf4⟩ := cut_fromK .u16 g o n c 8 8 rfl (by omega) hnc
  have hlt := hx.lt
  have b0 := (xs.getD 0 0).toNat_lt
  have x0 : w.cell? ⟨g, o, none⟩ = some (.int .u8 (xs.getD 0 0).toNat) := hs.byte (k := 0) (by omega)
  have HXB0 := Lib.hid x0
  have j0 : 0 < n := by omega
  have i0 : (0 : Int) < (n : Int) := by omega
  have b1 := (xs.getD 1 0).toNat_lt
  have x1 : w.cell? ⟨g, o + 1, none⟩ = some (.int .u8 (xs.getD 1 0).toNat) := hs.byte (k := 1) (by omega)
  have HXB1 := Lib.hid x1
  have j1 : 1 < n := by omega
  have i1 : (1 : Int) < (n : Int) := by omega
  have c0 := hx.cell 0
  have c1 := hx.cell 1
  have c2 := hx.cell 2
  have c3 := hx.cell 3
  have c4 := hx.cell 4
  have c5 := hx.cell 5
  have c6 := hx.cell 6
  have c7 := hx.cell 7
  have c8 := hx.cell 8
  have c9 := hx.cell 9
  have c10 := hx.cell 10
  have c11 := hx.cell 11
  have c12 := hx.cell 12
  have c13 := hx.cell 13
  simp only [List.getElem?_cons_zero, List.getElem?_cons_succ] at c0 c1 c2 c3 c4 c5 c6 c7 c8 c9 c10 c11 c12 c13
  have f0 := hx.frozen 0
  have f1 := hx.frozen 1
  have f2 := hx.frozen 2
  have f3 := hx.frozen 3
  have f4 := hx.frozen 4
  have f5 := hx.frozen 5
  have f6 := hx.frozen 6
  have f7 := hx.frozen 7
  have f8 := hx.frozen 8
  have f9 := hx.frozen 9
  have f10 := hx.frozen 10
  have f11 := hx.frozen 11
  have f12 := hx.frozen 12
  have f13 := hx.frozen 13
  have HS := Lib.hid hs
  have HX := Lib.hid hx
  have HC4 := Lib.hid cs4
  clear hs hx cs4 cf4
  have jc : (8 : Int) ≤ (c : Int) := by omega
  have jn : (8 : Int) ≤ (n : Int) := by omega
  have tl : decide ((n : Int) < 8) = false := by simp; omega
  have hne : gx ≠ g := by omega
  have hne' : ¬ gx = g := hne
  have hne2 : ¬ g = gx := fun h => hne h.symm
  generalize (xs.getD 0 0).toNat = a0 at *
  generalize (xs.getD 1 0).toNat = a1 at *
  have hN2 : Lib.beNat ((xs.drop 2).take 2) < 65536 := beNat_take _ 2
  have hN4 : Lib.beNat ((xs.drop 4).take 4) < 4294967296 := beNat_take _ 4
  generalize hNN2 : Lib.beNat ((xs.drop 2).take 2) = N2 at *
  have HNN2 := Lib.hid hNN2
  clear hNN2
  generalize hNN4 : Lib.beNat ((xs.drop 4).take 4) = N4 at *
  have HNN4 := Lib.hid hNN4
  clear hNN4
  have q32 : bits .and .u8 ((a0 : Int) / 32) 7 = m0 := by rw [show (a0 : Int) / 32 = ((a0 / 32 : Nat) : Int) by omega, m8_7 (a0 / 32) (by omega)]; omega
  have q16 : bits .and .u8 ((a0 : Int) / 16) 1 = 1 := by rw [show (a0 : Int) / 16 = ((a0 / 16 : Nat) : Int) by omega, m8_1 (a0 / 16) (by omega)]; omega
  have q8 : bits .and .u8 ((a0 : Int) / 8) 1 = 0 := by rw [show (a0 : Int) / 8 = ((a0 / 8 : Nat) : Int) by omega, m8_1 (a0 / 8) (by omega)]; omega
  have q4 : bits .and .u8 ((a0 : Int) / 4) 1 = 0 := by rw [show (a0 : Int) / 4 = ((a0 / 4 : Nat) : Int) by omega, m8_1 (a0 / 4) (by omega)]; omega
  have q2 : bits .and .u8 ((a0 : Int) / 2) 1 = 0 := by rw [show (a0 : Int) / 2 = ((a0 / 2 : Nat) : Int) by omega, m8_1 (a0 / 2) (by omega)]; omega
  have q1 : bits .and .u8 (a0 : Int) 1 = 0 := by rw [m8_1 a0 (by omega)]; omega
  have HE0 := Lib.hid e0
  clear e0
  have v8 : IntKind.u16.wrap 8 = 8 := by simp [IntKind.wrap, IntKind.bits, IntKind.signed]
  have vn : IntKind.u16.wrap (n : Int) = n := by simp [IntKind.wrap, IntKind.bits, IntKind.signed]; omega
  have v82 : IntKind.u16.wrap (8 + (N2 : Int)) = 8 + N2 := by simp [IntKind.wrap, IntKind.bits, IntKind.signed]; omega
  have tn : decide ((n : Int) < 8 + (N2 : Int)) = true := by rw [decide_eq_true_eq]; omega
  go_enter Tryz.func107, Tryz.ntmps107
  have HBE0 := Lib.hid (Below.refl gx w)
  have HBX0 := HX
  have HSW0 := HS
  go_wp2_with fail
  obtain ⟨W1, hW⟩ : ∃ W, W = (((((((w.setCell ⟨gx, 2, none⟩ (.int .u8 m0)).setCell ⟨gx, 3, none⟩ (.int .u8 1)).setCell ⟨gx, 4, none⟩ (.int .u8 0)).setCell ⟨gx, 6, none⟩ (.bool false)).setCell ⟨gx, 7, none⟩ (.bool false)).setCell ⟨gx, 5, none⟩ (.bool false)).setCell ⟨gx, 8, none⟩ (.int .u8 a1)) := ⟨_, rfl⟩
  rw [← hW]
  have hbe : Below gx w W1 := by rw [hW]; exact ((((((((Below.refl gx w).setCell (p := ⟨gx, 2, none⟩) (Nat.le_refl _) _).setCell (p := ⟨gx, 3, none⟩) (Nat.le_refl _) _).setCell (p := ⟨gx, 4, none⟩) (Nat.le_refl _) _).setCell (p := ⟨gx, 6, none⟩) (Nat.le_refl _) _).setCell (p := ⟨gx, 7, none⟩) (Nat.le_refl _) _).setCell (p := ⟨gx, 5, none⟩) (Nat.le_refl _) _).setCell (p := ⟨gx, 8, none⟩) (Nat.le_refl _) _)
  have hbx : Bk W1 gx 118 [.slice none 0 0, .slice none 0 0, .int .u8 m0, .int .u8 1, .int .u8 0, .bool false, .bool false, .bool false, .int .u8 a1, .int .u16 0, .int .u32 0, .int .u16 0, .int .u8 0, .slice none 0 0] := by rw [hW]; exact (((((((HBX0.out.set_ 2 _).set_ 3 _).set_ 4 _).set_ 6 _).set_ 7 _).set_ 5 _).set_ 8 _)
  have HBE1 := Lib.hid (HBE0.out.trans hbe)
  have HBX1 := Lib.hid hbx
  have HSW1 := Lib.hid (HS.out.below ((HBE0.out.trans hbe).mono hB))
  have hlw := hbx.lt
  clear hbe hW c0 f0 c1 f1 c2 f2 c3 f3 c4 f4 c5 f5 c6 f6 c7 f7 c8 f8 c9 f9 c10 f10 c11 f11 c12 f12 c13 f13
  clear hbx
  go_wp2_with fail
  have jl2 : (4 : Int) ≤ (c : Int) := by omega
  have jz2 : ¬ (c : Int) = 2 := by omega
  have jy2 : ¬ c = 2 := by omega
  go_region_held3 (fun w' => True) (trivial) ((go_at_call 100; refine (u16_at g o n 2 2 _ B (o + 2) xs _ (HSW1.out.below (Below.refl _ _).drew) (by omega) (by omega) rfl).mono ?_; rintro e v2 ⟨rfl, hb1⟩; have hbx1 := HBX1.out.drew.below hb1 (by simpa using hlw); have f9 := hbx1.frozen 9; have c9 := hbx1.cell 9; simp only [List.getElem?_cons_zero, List.getElem?_cons_succ] at c9))
  rw [HNN2.out]
  obtain ⟨W2, hW⟩ : ∃ W, W = v2.setCell ⟨gx, 9, none⟩ (.int .u16 N2) := ⟨_, rfl⟩
  rw [← hW]
  have hbe : Below gx W1 W2 := by rw [hW]; exact (below_undrew (hb1.mono (by simpa using Nat.le_of_lt hlw))).setCell (p := ⟨gx, 9, none⟩) (Nat.le_refl _) _
  have hbx : Bk W2 gx 118 [.slice none 0 0, .slice none 0 0, .int .u8 m0, .int .u8 1, .int .u8 0, .bool false, .bool false, .bool false, .int .u8 a1, .int .u16 N2, .int .u32 0, .int .u16 0, .int .u8 0, .slice none 0 0] := by rw [hW]; exact hbx1.set_ 9 _
  have HBE2 := Lib.hid (HBE1.out.trans hbe)
  have HBX2 := Lib.hid hbx
  have HSW2 := Lib.hid (HS.out.below ((HBE1.out.trans hbe).mono hB))
  have hlw := hbx.lt
  clear hbe hW hb1 hbx1 c9 f9
  have c9 := hbx.cell 9
  have f9 := hbx.frozen 9
  simp only [List.getElem?_cons_zero, List.getElem?_cons_succ] at c9
  clear hbx
  go_wp2_with fail
  refine (errnew _ _).mono ?_
  rintro e v ⟨rfl, rfl⟩
  go_wp2_with fail
  exact hR.out _ _ ⟨_, rfl, HBE2.out.alloc (Nat.le_of_lt hlw) _⟩
set_option maxRecDepth 1000000 in
set_option maxHeartbeats 10000000 in
theorem dec_gtp_no (xs : List UInt8) (m0 : Nat) (hm0 : m0 < 8) (e0 : (xs.getD 0 0).toNat = m0 * 32 + 16) (hd : xs.length - 8 < Lib.beNat ((xs.drop 2).take 2)) (hd2 : Lib.beNat ((xs.drop 2).take 2) < 65528) (h4 : 8 ≤ xs.length) (hn : xs.length ≤ 1000) (gk : Nat) (u : Value) (A : Option Addr) (n c : Nat) (w : World) (hk : Bk w gk 236 [u]) (hs : Sl w gk A n (bcs xs)) (hnc : n ≤ c) :
    Calls Tryz.prog 89 #[.slice A n c, .iface 234 (.pointer (some ⟨gk, 0, none⟩))] w fun e w' => ∃ v, e = .returned (.iface 239 v) ∧ Below w.heap.size w w' := by
  refine calls_hid fun R hR => ?_
  have hl : xs.length = n := by rw [← bcs_length]; exact hs.1
  rw [hl] at h4 hn
  obtain ⟨g, o, rfl, hg, _⟩ := hs.2 (by omega)
  have hlt := hk.lt
  have HS := Lib.hid hs
  clear hs hk
  obtain ⟨W, hW⟩ : ∃ W, W = w.alloc (.cells #[.slice none 0 0, .slice none 0 0, .int .u8 0, .int .u8 0, .int .u8 0, .bool false, .bool false, .bool false, .int .u8 0, .int .u16 0, .int .u32 0, .int .u16 0, .int .u8 0, .slice none 0 0] 118) := ⟨_, rfl⟩
  have hx : Bk W w.heap.size 118 [.slice none 0 0, .slice none 0 0, .int .u8 0, .int .u8 0, .int .u8 0, .bool false, .bool false, .bool false, .int .u8 0, .int .u16 0, .int .u32 0, .int .u16 0, .int .u8 0, .slice none 0 0] := by rw [hW]; exact Bk.new _ _ _
  have hbe0 : Below w.heap.size w W := by rw [hW]; exact (Below.refl _ _).alloc (Nat.le_refl _) _
  have HBE := Lib.hid hbe0
  have hD := dfb_gtp_no xs m0 hm0 e0 hd hd2 g o n c gk w.heap.size (.iface 234 (.pointer (some ⟨gk, 0, none⟩))) W ((HS.out.below (hbe0.mono (Nat.le_of_lt hlt)))) (Nat.le_of_lt hlt) h4 hnc hn hx
  have HD := Lib.hid hD
  have HW := Lib.hid hW
  clear hD hW hx hbe0
  go_enter Tryz.func89, Tryz.ntmps89
  go_wp2_with fail
  rw [← HW.out]
  refine HD.out.mono ?_
  rintro e w1 ⟨v, rfl, hb1⟩
  have HB1 := Lib.hid (HBE.out.trans hb1)
  clear hb1
  go_wp2_with fail
  exact hR.out _ _ ⟨v, rfl, HB1.out⟩
set_option maxRecDepth 1000000 in
set_option maxHeartbeats 10000000 in
theorem zz_gtp_no (xs : List UInt8) (m0 : Nat) (hm0 : m0 < 8) (e0 : (xs.getD 0 0).toNat = m0 * 32 + 16) (hd : xs.length - 8 < Lib.beNat ((xs.drop 2).take 2)) (hd2 : Lib.beNat ((xs.drop 2).take 2) < 65528) (h4 : 8 ≤ xs.length) (hn : xs.length ≤ 1000) (A : Option Addr) (n c : Nat) (w : World) (hs : Sl w w.heap.size A n (bcs xs)) (hnc : n ≤ c) :
    Calls Tryz.prog 69 #[.string k_gtp, .slice A n c] w fun e w' => ∃ v, e = .returned (.tuple #[.nilIface, .iface 239 v]) ∧ Below w.heap.size w w' := by
  refine calls_hid fun R hR => ?_
  have hk : Bk ((w.alloc (.cells #[.nilIface] 236)).alloc (.cells #[.string ⟨#[110, 111, 32, 107, 105, 110, 100]⟩] 241)) w.heap.size 236 [.nilIface] := (Bk.new w 236 [.nilIface]).alloc _
  have hs1 := hs.below (((Below.refl _ w).alloc (Nat.le_refl _) (.cells #[.nilIface] 236)).alloc (by simp) (.cells #[.string ⟨#[110, 111, 32, 107, 105, 110, 100]⟩] 241))
  have HD := Lib.hid (dec_gtp_no xs m0 hm0 e0 hd hd2 h4 hn w.heap.size .nilIface A n c _ hk hs1 hnc)
  clear hs hk hs1
  go_enter Tryz.func69, Tryz.ntmps69
  go_wp2_with fail
  refine (errnew _ _).mono ?_
  rintro e w1 ⟨rfl, rfl⟩
  go_wp2_with fail
  refine HD.out.mono ?_
  rintro e w2 ⟨v, rfl, hb2⟩
  have HB2 := Lib.hid hb2
  clear hb2
  go_wp2_with fail
  exact hR.out _ _ ⟨v, rfl, (((Below.refl _ w).alloc (Nat.le_refl _) _).alloc (by simp) _).trans (HB2.out.mono (by simp; omega))⟩
set_option maxRecDepth 1000000 in
set_option maxHeartbeats 10000000 in
theorem decd_gtp_no (xs : List UInt8) (m0 : Nat) (hm0 : m0 < 8) (e0 : (xs.getD 0 0).toNat = m0 * 32 + 16) (hd : xs.length - 8 < Lib.beNat ((xs.drop 2).take 2)) (hd2 : Lib.beNat ((xs.drop 2).take 2) < 65528) (h4 : 8 ≤ xs.length) (hn : xs.length ≤ 1000) (A : Option Addr) (n c : Nat) (w : World) (hs : Sl w w.heap.size A n (bcs xs)) (hnc : n ≤ c) (hA : A = none → n = 0)
    (hC : Calls Tryz.prog 68 #[.string k_gtp, .slice A n c] w fun e w' => e = .returned (.bool true) ∧ Below w.heap.size w w') :
    Calls Tryz.prog 58 #[.string k_gtp, .slice A n c] w fun e w' => e = .returned (.tuple #[.nilIface, .bool false]) ∧ Below w.heap.size w w' := by
  refine calls_hid fun R hR => ?_
  have hl : xs.length = n := by rw [← bcs_length]; exact hs.1
  have HS := Lib.hid hs
  have HC := Lib.hid hC
  have t2 : decide ((2000 : Int) < (n : Int)) = false := by rw [decide_eq_false_iff_not]; omega
  have hn1 : n ≤ 1000 := by omega
  clear hs hC hl
  go_enter Tryz.func58, Tryz.ntmps58
  go_wp2_with fail
  refine HC.out.mono ?_
  rintro e w1 ⟨rfl, hb1⟩
  have HB1 := Lib.hid hb1
  clear hb1
  go_wp2_with fail
  refine (bclone_any A n c xs w1 ((HS.out.below HB1.out).more HB1.out.size) hA (by omega)).mono ?_
  rintro e w2 ⟨A2, c2, rfl, hc2, hn2, hb2, hs2⟩
  have HB2 := Lib.hid hb2
  have HS2 := Lib.hid hs2
  clear hb2 hs2
  go_wp2_with fail
  refine (zz_gtp_no xs m0 hm0 e0 hd hd2 h4 hn A2 n c2 w2 HS2.out hc2).mono ?_
  rintro e w3 ⟨v, rfl, hb3⟩
  have HB3 := Lib.hid hb3
  clear hb3
  go_wp2_with fail
  exact hR.out _ _ ⟨rfl, HB1.out.trans ((HB2.out.mono HB1.out.size).trans (HB3.out.mono (by have := HB1.out.size; have := HB2.out.size; omega)))⟩
end Go.Proofs.YtphmklgbbpiafaaGreat
