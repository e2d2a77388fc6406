/-
  Eap: what its decoder hands on. No condition.
-/
import Derived.Deep.RegionHeld3
import Derived.Test.YtphmklgbbpiafaaGreatDldA
import Derived.Test.YtphmklgbbpiafaaGreatMskA
import Derived.Test.YtphmklgbbpiafaaGreatFldA
import Derived.Test.YtphmklgbbpiafaaGreatCutE
namespace Go.Proofs.YtphmklgbbpiafaaGreat
open Go Go.RowKit
set_option linter.unusedVariables false
attribute [local go_sem] sd_drewN ad_drewN
set_option maxRecDepth 1000000 in
set_option maxHeartbeats 10000000 in
/-- What DecodeFromBytes does to the layer in block gx. -/
theorem dfb_eap (xs : List UInt8) (hN : Lib.beNat ((xs.drop 2).take 2) = xs.length) (g o n c B gx : Nat) (df : Value) (w : World) (hs : Sl w B (some ⟨g, o, none⟩) n (bcs xs)) (hB : B ≤ gx) (h4 : 5 ≤ n) (hnc : n ≤ c) (hn : n ≤ 1000)
    (hx : Bk w gx 110 [.slice none 0 0, .slice none 0 0, .int .u8 0, .int .u8 0, .int .u16 0, .int .u8 0, .slice none 0 0]) :
    Calls Tryz.prog 153 #[.pointer (some ⟨gx, 0, none⟩), .slice (some ⟨g, o, none⟩) n c, df] w (Dfbs B gx 110 [] (Fld.dat (fun Q cQ => [.int .u8 (xs.getD 0 0).toNat, .int .u8 (xs.getD 1 0).toNat, .int .u16 (xs.length : Nat), .int .u8 (xs.getD 4 0).toNat, .slice Q (xs.drop 5).length cQ]) (xs.drop 5)) w) := by
  refine calls_hid fun R hR => ?_
  unfold Dfbs at hR
  have hln : xs.length = n := by rw [← bcs_length]; exact hs.1
  rw [hln] at hR hN
  obtain ⟨hg, _⟩ := hs.at_ (by omega)
  obtain ⟨A4, cut4, cs4, cf4⟩ := cut_from g o n c 5 5 rfl (by omega) hnc
  have hlt := hx.lt
  have b0 := (xs.getD 0 0).toNat_lt
  have x0 : w.cell? ⟨g, o, none⟩ = some (.int .u8 (xs.getD 0 0).toNat) := hs.byte (k := 0) (by omega)
  have HXB0 := Lib.hid x0
  have j0 : 0 < n := by omega
  have i0 : (0 : Int) < (n : Int) := by omega
  have b1 := (xs.getD 1 0).toNat_lt
  have x1 : w.cell? ⟨g, o + 1, none⟩ = some (.int .u8 (xs.getD 1 0).toNat) := hs.byte (k := 1) (by omega)
  have HXB1 := Lib.hid x1
  have j1 : 1 < n := by omega
  have i1 : (1 : Int) < (n : Int) := by omega
  have b4 := (xs.getD 4 0).toNat_lt
  have x4 : w.cell? ⟨g, o + 4, none⟩ = some (.int .u8 (xs.getD 4 0).toNat) := hs.byte (k := 4) (by omega)
  have HXB4 := Lib.hid x4
  have j4 : 4 < n := by omega
  have i4 : (4 : Int) < (n : Int) := by omega
  have c0 := hx.cell 0
  have c1 := hx.cell 1
  have c2 := hx.cell 2
  have c3 := hx.cell 3
  have c4 := hx.cell 4
  have c5 := hx.cell 5
  have c6 := hx.cell 6
  simp only [List.getElem?_cons_zero, List.getElem?_cons_succ] at c0 c1 c2 c3 c4 c5 c6
  have f0 := hx.frozen 0
  have f1 := hx.frozen 1
  have f2 := hx.frozen 2
  have f3 := hx.frozen 3
  have f4 := hx.frozen 4
  have f5 := hx.frozen 5
  have f6 := hx.frozen 6
  have HS := Lib.hid hs
  have HX := Lib.hid hx
  have HC4 := Lib.hid cs4
  clear hs hx cs4 cf4
  have jc : (5 : Int) ≤ (c : Int) := by omega
  have jn : (5 : Int) ≤ (n : Int) := by omega
  have tl : decide ((n : Int) < 4) = false := by simp; omega
  have hne : gx ≠ g := by omega
  have hne' : ¬ gx = g := hne
  have hne2 : ¬ g = gx := fun h => hne h.symm
  generalize (xs.getD 0 0).toNat = a0 at *
  generalize (xs.getD 1 0).toNat = a1 at *
  generalize (xs.getD 4 0).toNat = a4 at *
  have HNN := Lib.hid hN
  have HLN := Lib.hid hln
  clear hN hln
  obtain ⟨AZ, cutZ, csZ, cfZ⟩ := cut_fromK .u16 g o n c n (n : Int) rfl (Nat.le_refl _) hnc
  rw [Nat.sub_self] at cutZ
  clear csZ cfZ
  have v4 : IntKind.i64.wrap (n : Int) = n := IntWalk.i64_in _ (by omega)
  have t4 : decide ((4 : Int) < (n : Int)) = true := by simp; omega
  have jnc : (n : Int) ≤ (c : Int) := by omega
  go_enter Tryz.func153, Tryz.ntmps153
  have HBE0 := Lib.hid (Below.refl gx w)
  have HBX0 := HX
  have HSW0 := HS
  go_wp2_with fail
  obtain ⟨W1, hW⟩ : ∃ W, W = ((w.setCell ⟨gx, 2, none⟩ (.int .u8 a0)).setCell ⟨gx, 3, none⟩ (.int .u8 a1)) := ⟨_, rfl⟩
  rw [← hW]
  have hbe : Below gx w W1 := by rw [hW]; exact (((Below.refl gx w).setCell (p := ⟨gx, 2, none⟩) (Nat.le_refl _) _).setCell (p := ⟨gx, 3, none⟩) (Nat.le_refl _) _)
  have hbx : Bk W1 gx 110 [.slice none 0 0, .slice none 0 0, .int .u8 a0, .int .u8 a1, .int .u16 0, .int .u8 0, .slice none 0 0] := by rw [hW]; exact ((HBX0.out.set_ 2 _).set_ 3 _)
  have HBE1 := Lib.hid (HBE0.out.trans hbe)
  have HBX1 := Lib.hid hbx
  have HSW1 := Lib.hid (HS.out.below ((HBE0.out.trans hbe).mono hB))
  have hlw := hbx.lt
  clear hbe hW c0 f0 c1 f1 c2 f2 c3 f3 c4 f4 c5 f5 c6 f6
  clear hbx
  go_wp2_with fail
  have jl2 : (4 : Int) ≤ (c : Int) := by omega
  have jz2 : ¬ (c : Int) = 2 := by omega
  have jy2 : ¬ c = 2 := by omega
  go_region_held3 (fun w' => True) (trivial) ((go_at_call 100; refine (u16_at g o n 2 2 _ B (o + 2) xs _ (HSW1.out.below (Below.refl _ _).drew) (by omega) (by omega) rfl).mono ?_; rintro e v2 ⟨rfl, hb1⟩; have hbx1 := HBX1.out.drew.below hb1 (by simpa using hlw); have f4 := hbx1.frozen 4; have c4 := hbx1.cell 4; simp only [List.getElem?_cons_zero, List.getElem?_cons_succ] at c4))
  rw [HNN.out]
  obtain ⟨W2, hW⟩ : ∃ W, W = v2.setCell ⟨gx, 4, none⟩ (.int .u16 n) := ⟨_, rfl⟩
  rw [← hW]
  have hbe : Below gx W1 W2 := by rw [hW]; exact (below_undrew (hb1.mono (by simpa using Nat.le_of_lt hlw))).setCell (p := ⟨gx, 4, none⟩) (Nat.le_refl _) _
  have hbx : Bk W2 gx 110 [.slice none 0 0, .slice none 0 0, .int .u8 a0, .int .u8 a1, .int .u16 n, .int .u8 0, .slice none 0 0] := by rw [hW]; exact hbx1.set_ 4 _
  have HBE2 := Lib.hid (HBE1.out.trans hbe)
  have HBX2 := Lib.hid hbx
  have HSW2 := Lib.hid (HS.out.below ((HBE1.out.trans hbe).mono hB))
  have hlw := hbx.lt
  clear hbe hW hb1 hbx1 c4 f4
  clear hbx
  have x4 := (World.cell?_of_block (a := ⟨g, o + 4, none⟩) (HBE2.out.block g (by omega))).trans HXB4.out
  have c0 := HBX2.out.cell 0
  have f0 := HBX2.out.frozen 0
  have c1 := HBX2.out.cell 1
  have f1 := HBX2.out.frozen 1
  have c4 := HBX2.out.cell 4
  have f4 := HBX2.out.frozen 4
  have c5 := HBX2.out.cell 5
  have f5 := HBX2.out.frozen 5
  have c6 := HBX2.out.cell 6
  have f6 := HBX2.out.frozen 6
  simp only [List.getElem?_cons_zero, List.getElem?_cons_succ] at c0 c1 c4 c5 c6
  go_wp2_with fail
  have hbf : Below gx W2 ((((W2.setCell ⟨gx, 5, none⟩ (.int .u8 a4)).setCell ⟨gx, 6, none⟩ (.slice A4 (n - 5) (c - 5))).setCell ⟨gx, 0, none⟩ (.slice (some ⟨g, o, none⟩) n c)).setCell ⟨gx, 1, none⟩ (.slice AZ 0 (c - n))) := (((((Below.refl gx W2).setCell (p := ⟨gx, 5, none⟩) (Nat.le_refl _) _).setCell (p := ⟨gx, 6, none⟩) (Nat.le_refl _) _).setCell (p := ⟨gx, 0, none⟩) (Nat.le_refl _) _).setCell (p := ⟨gx, 1, none⟩) (Nat.le_refl _) _)
  have hbg := HBE2.out.trans hbf
  exact hR.out _ _ ⟨_, AZ, _, _, rfl, hbg, ((((HBX2.out.set_ 5 _).set_ 6 _).set_ 0 _).set_ 1 _), Sl.none_ _ _ _, A4, c - 5, (by rw [List.length_drop, HLN.out]; rfl), by rw [List.length_drop, HLN.out]; exact (HC4.out w _ xs HS.out).below (hbg.mono hB)⟩
theorem dnil_eap (gx : Nat) (W : World) : (nilAhead 390 106 (.pointer (some ⟨gx, 0, none⟩)) "DecodeFromBytes").run Tryz.prog W = .ok (some false) W := by kernel_rfl
theorem dmeth_eap (gx : Nat) (W : World) : (method 390 106 (.pointer (some ⟨gx, 0, none⟩)) "DecodeFromBytes").run Tryz.prog W = .ok (153, .pointer (some ⟨gx, 0, none⟩)) W := by kernel_rfl
theorem dent_eap (args : Array Value) (W : World) : (callFunc 153 args).run Tryz.prog W = .ok (.enter 153 args) W := by kernel_rfl
set_option maxRecDepth 1000000 in
set_option maxHeartbeats 10000000 in
theorem dec_eap (xs : List UInt8) (hN : Lib.beNat ((xs.drop 2).take 2) = xs.length) (h4 : 5 ≤ xs.length) (hn : xs.length ≤ 1000) : Decs 86 106 110 xs [] (Fld.dat (fun Q cQ => [.int .u8 (xs.getD 0 0).toNat, .int .u8 (xs.getD 1 0).toNat, .int .u16 (xs.length : Nat), .int .u8 (xs.getD 4 0).toNat, .slice Q (xs.drop 5).length cQ]) (xs.drop 5)) := by
  intro gk u A n c w hk hs hnc
  refine calls_hid fun R hR => ?_
  have hl : xs.length = n := by rw [← bcs_length]; exact hs.1
  rw [hl] at h4 hn
  obtain ⟨g, o, rfl, hg, _⟩ := hs.2 (by omega)
  have hlt := hk.lt
  have HS := Lib.hid hs
  have HK := Lib.hid hk
  clear hs hk
  go_enter Tryz.func86, Tryz.ntmps86
  go_wp2_with fail
  obtain ⟨W, hW⟩ : ∃ W, W = w.alloc (.cells #[.slice none 0 0, .slice none 0 0, .int .u8 0, .int .u8 0, .int .u16 0, .int .u8 0, .slice none 0 0] 110) := ⟨_, rfl⟩
  rw [← hW]
  have hx : Bk W w.heap.size 110 [.slice none 0 0, .slice none 0 0, .int .u8 0, .int .u8 0, .int .u16 0, .int .u8 0, .slice none 0 0] := by rw [hW]; exact Bk.new _ _ _
  have hbe : Below w.heap.size w W := by rw [hW]; exact (Below.refl _ _).alloc (Nat.le_refl _) _
  have HBE := Lib.hid hbe
  clear hW
  refine (dld_decs 106 110 153 w.heap.size gk u _ [] _ (dnil_eap _) (dmeth_eap _) dent_eap w W (HK.out.below hbe hlt) hlt rfl HBE.out (dfb_eap xs hN g o n c gk w.heap.size _ W ((HS.out.below (hbe.mono (Nat.le_of_lt hlt)))) (Nat.le_of_lt hlt) h4 hnc hn hx)).mono ?_
  rintro e w' ⟨gx, Cv, Ap, cp, fs, rfl, h1, h2, h3, h4', h5, h6⟩
  go_wp2_with fail
  exact hR.out _ _ ⟨gx, Cv, Ap, cp, fs, rfl, h1, h2, h3, h4', h5, h6⟩
end Go.Proofs.YtphmklgbbpiafaaGreat
