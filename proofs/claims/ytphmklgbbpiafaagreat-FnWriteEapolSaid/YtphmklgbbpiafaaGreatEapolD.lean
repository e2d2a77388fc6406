/-
  EAPOL: what its decoder hands on. No condition.
-/
import Derived.Deep.RegionHeld3
import Derived.Test.YtphmklgbbpiafaaGreatDldA
namespace Go.Proofs.YtphmklgbbpiafaaGreat
open Go Go.RowKit
set_option linter.unusedVariables false
attribute [local go_sem] sd_drewN ad_drewN
set_option maxRecDepth 1000000 in
set_option maxHeartbeats 10000000 in
/-- What DecodeFromBytes does to the layer in block gx. -/
theorem dfb_eapol (xs : List UInt8) (g o n c B gx : Nat) (df : Value) (w : World) (hs : Sl w B (some ⟨g, o, none⟩) n (bcs xs)) (hB : B ≤ gx) (h4 : 4 ≤ n) (hnc : n ≤ c) (hn : n ≤ 1000)
    (hx : Bk w gx 99 [.slice none 0 0, .slice none 0 0, .int .u8 0, .int .u8 0, .int .u16 0]) :
    Calls Tryz.prog 145 #[.pointer (some ⟨gx, 0, none⟩), .slice (some ⟨g, o, none⟩) n c, df] w (Dfbs B gx 99 (xs.drop 4) (Fld.just [.int .u8 (xs.getD 0 0).toNat, .int .u8 (xs.getD 1 0).toNat, .int .u16 (Lib.beNat ((xs.drop 2).take 2) : Nat)]) w) := by
  refine calls_hid fun R hR => ?_
  unfold Dfbs at hR
  simp only [Fld.just] at hR
  have e4 : (xs.drop 4).length = n - 4 := by rw [List.length_drop, show xs.length = n by rw [← bcs_length]; exact hs.1]
  rw [e4] at hR
  clear e4
  obtain ⟨hg, _⟩ := hs.at_ (by omega)
  obtain ⟨A4, cut4, cs4, cf4⟩ := cut_from g o n c 4 4 rfl (by omega) hnc
  have hlt := hx.lt
  have x0 : w.cell? ⟨g, o, none⟩ = some (.int .u8 (xs.getD 0 0).toNat) := hs.byte (k := 0) (by omega)
  have x1 : w.cell? ⟨g, o + 1, none⟩ = some (.int .u8 (xs.getD 1 0).toNat) := hs.byte (by omega)
  have c0 := hx.cell 0
  have c1 := hx.cell 1
  have c2 := hx.cell 2
  have c3 := hx.cell 3
  have c4 := hx.cell 4
  simp only [List.getElem?_cons_zero, List.getElem?_cons_succ] at c0 c1 c2 c3 c4
  have f0 := hx.frozen 0
  have f1 := hx.frozen 1
  have f2 := hx.frozen 2
  have f3 := hx.frozen 3
  have f4 := hx.frozen 4
  have HS := Lib.hid hs
  have HX := Lib.hid hx
  have HC4 := Lib.hid cs4
  clear hs hx cs4 cf4
  have jc : (4 : Int) ≤ (c : Int) := by omega
  have jn : (4 : Int) ≤ (n : Int) := by omega
  have tl : decide ((n : Int) < 4) = false := by simp; omega
  have j0 : 0 < n := by omega
  have j1 : 1 < n := by omega
  have i1 : (1 : Int) < (n : Int) := by omega
  have hne : gx ≠ g := by omega
  have hne' : ¬ gx = g := hne
  have hne2 : ¬ g = gx := fun h => hne h.symm
  generalize (xs.getD 0 0).toNat = a0 at *
  generalize (xs.getD 1 0).toNat = a1 at *
  go_enter Tryz.func145, Tryz.ntmps145
  go_wp2_with fail
  obtain ⟨W, hW⟩ : ∃ W, W = (w.setCell ⟨gx, 2, none⟩ (.int .u8 a0)).setCell ⟨gx, 3, none⟩ (.int .u8 a1) := ⟨_, rfl⟩
  rw [← hW]
  have hbx : Bk W gx 99 [.slice none 0 0, .slice none 0 0, .int .u8 a0, .int .u8 a1, .int .u16 0] := by rw [hW]; exact (HX.out.set_ 2 _).set_ 3 _
  have hbe : Below gx w W := by rw [hW]; exact ((Below.refl _ _).setCell (p := ⟨gx, 2, none⟩) (Nat.le_refl _) _).setCell (p := ⟨gx, 3, none⟩) (Nat.le_refl _) _
  have HBE := Lib.hid hbe
  have HBX := Lib.hid hbx
  have HSW := Lib.hid (HS.out.below (hbe.mono hB))
  have hlw := hbx.lt
  clear hW hbe hbx c0 c1 c2 c3 c4 f0 f1 f2 f3 f4 x0 x1
  have jz : ¬ (c : Int) = 2 := by omega
  have jy : ¬ c = 2 := by omega
  go_region_held3 (fun w' => True) (trivial) ((go_at_call 100; refine (u16_at g o n 2 2 _ B (o + 2) xs _ (HSW.out.below (Below.refl _ _).drew) (by omega) (by omega) rfl).mono ?_; rintro e w1 ⟨rfl, hb1⟩; have hbx1 := HBX.out.drew.below hb1 (by simpa using hlw); have f4 := hbx1.frozen 4; have c4 := hbx1.cell 4; simp only [List.getElem?_cons_zero, List.getElem?_cons_succ] at c4))
  generalize Lib.beNat ((xs.drop 2).take 2) = N at *
  obtain ⟨W2, hW2⟩ : ∃ W2, W2 = w1.setCell ⟨gx, 4, none⟩ (.int .u16 N) := ⟨_, rfl⟩
  rw [← hW2]
  have hbx2 : Bk W2 gx 99 [.slice none 0 0, .slice none 0 0, .int .u8 a0, .int .u8 a1, .int .u16 N] := by rw [hW2]; exact hbx1.set_ 4 _
  have hbe2 : Below gx W W2 := by rw [hW2]; exact (below_undrew (hb1.mono (by simpa using Nat.le_of_lt hlw))).setCell (p := ⟨gx, 4, none⟩) (Nat.le_refl _) _
  have HBE2 := Lib.hid hbe2
  have HBX2 := Lib.hid hbx2
  have c0 := hbx2.cell 0
  have c1 := hbx2.cell 1
  have f0 := hbx2.frozen 0
  have f1 := hbx2.frozen 1
  simp only [List.getElem?_cons_zero, List.getElem?_cons_succ] at c0 c1
  clear hW2 hbe2 hbx2 hb1 hbx1 c4 f4
  go_wp2_with fail
  go_region_held3 (fun w' => True) (trivial) (fail)
  go_wp2_with fail
  have hbf : Below gx w ((W2.setCell ⟨gx, 0, none⟩ (.slice (some ⟨g, o, none⟩) 4 c)).setCell ⟨gx, 1, none⟩ (.slice A4 (n - 4) (c - 4))).drew :=
    (((HBE.out.trans HBE2.out).setCell (p := ⟨gx, 0, none⟩) (Nat.le_refl _) _).setCell (p := ⟨gx, 1, none⟩) (Nat.le_refl _) _).drew
  exact hR.out _ _ ⟨_, A4, _, _, rfl, hbf, ((HBX2.out.set_ 0 _).set_ 1 _).drew, (HC4.out w _ xs HS.out).below (hbf.mono hB), rfl⟩
theorem dnil_eapol (gx : Nat) (W : World) : (nilAhead 390 96 (.pointer (some ⟨gx, 0, none⟩)) "DecodeFromBytes").run Tryz.prog W = .ok (some false) W := by kernel_rfl
theorem dmeth_eapol (gx : Nat) (W : World) : (method 390 96 (.pointer (some ⟨gx, 0, none⟩)) "DecodeFromBytes").run Tryz.prog W = .ok (145, .pointer (some ⟨gx, 0, none⟩)) W := by kernel_rfl
theorem dent_eapol (args : Array Value) (W : World) : (callFunc 145 args).run Tryz.prog W = .ok (.enter 145 args) W := by kernel_rfl
set_option maxRecDepth 1000000 in
set_option maxHeartbeats 10000000 in
theorem dec_eapol (xs : List UInt8) (h4 : 4 ≤ xs.length) (hn : xs.length ≤ 1000) : Decs 84 96 99 xs (xs.drop 4) (Fld.just [.int .u8 (xs.getD 0 0).toNat, .int .u8 (xs.getD 1 0).toNat, .int .u16 (Lib.beNat ((xs.drop 2).take 2) : Nat)]) := by
  intro gk u A n c w hk hs hnc
  refine calls_hid fun R hR => ?_
  have hl : xs.length = n := by rw [← bcs_length]; exact hs.1
  have e4 : (xs.drop 4).length = n - 4 := by rw [List.length_drop, hl]
  rw [e4] at hR
  rw [hl] at h4 hn
  obtain ⟨g, o, rfl, hg, _⟩ := hs.2 (by omega)
  have hlt := hk.lt
  have HS := Lib.hid hs
  have HK := Lib.hid hk
  clear hs hk
  go_enter Tryz.func84, Tryz.ntmps84
  go_wp2_with fail
  obtain ⟨W, hW⟩ : ∃ W, W = w.alloc (.cells #[.slice none 0 0, .slice none 0 0, .int .u8 0, .int .u8 0, .int .u16 0] 99) := ⟨_, rfl⟩
  rw [← hW]
  have hx : Bk W w.heap.size 99 [.slice none 0 0, .slice none 0 0, .int .u8 0, .int .u8 0, .int .u16 0] := by rw [hW]; exact Bk.new _ _ _
  have hbe : Below w.heap.size w W := by rw [hW]; exact (Below.refl _ _).alloc (Nat.le_refl _) _
  have HBE := Lib.hid hbe
  clear hW
  refine (dld_decs 96 99 145 w.heap.size gk u _ (xs.drop 4) _ (dnil_eapol _) (dmeth_eapol _) dent_eapol w W (HK.out.below hbe hlt) hlt rfl HBE.out (dfb_eapol xs g o n c gk w.heap.size _ W ((HS.out.below (hbe.mono (Nat.le_of_lt hlt)))) (Nat.le_of_lt hlt) h4 hnc hn hx)).mono ?_
  rintro e w' ⟨gx, Cv, Ap, cp, fs, rfl, h1, h2, h3, h4', h5, h6⟩
  rw [e4] at h3 h4'
  go_wp2_with fail
  exact hR.out _ _ ⟨gx, Cv, Ap, cp, fs, rfl, h1, h2, h3, h4', h5, h6⟩
end Go.Proofs.YtphmklgbbpiafaaGreat
