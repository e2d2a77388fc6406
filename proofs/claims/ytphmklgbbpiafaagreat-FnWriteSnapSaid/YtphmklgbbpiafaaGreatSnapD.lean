/-
  Snap: what its decoder hands on. No condition.
-/
import Derived.Deep.RegionHeld3
import Derived.Test.YtphmklgbbpiafaaGreatDldA
import Derived.Test.YtphmklgbbpiafaaGreatMskA
import Derived.Test.YtphmklgbbpiafaaGreatFldA
namespace Go.Proofs.YtphmklgbbpiafaaGreat
open Go Go.RowKit
set_option linter.unusedVariables false
attribute [local go_sem] sd_drewN ad_drewN
set_option maxRecDepth 1000000 in
set_option maxHeartbeats 10000000 in
/-- What DecodeFromBytes does to the layer in block gx. -/
theorem dfb_snap (b0 b1 b2 : UInt8) (xs : List UInt8) (ex : xs.take 3 = [b0, b1, b2]) (g o n c B gx : Nat) (df : Value) (w : World) (hs : Sl w B (some ⟨g, o, none⟩) n (bcs xs)) (hB : B ≤ gx) (h4 : 5 ≤ n) (hnc : n ≤ c) (hn : n ≤ 1000)
    (hx : Bk w gx 91 [.slice none 0 0, .slice none 0 0, .slice none 0 0, .int .u16 0]) :
    Calls Tryz.prog 102 #[.pointer (some ⟨gx, 0, none⟩), .slice (some ⟨g, o, none⟩) n c, df] w (Dfbs B gx 91 (xs.drop 5) (Fld.dat (fun Q cQ => [.slice Q 3 cQ, .int .u16 (Lib.beNat ((xs.drop 3).take 2) : Nat)]) [b0, b1, b2]) w) := by
  refine calls_hid fun R hR => ?_
  unfold Dfbs at hR
  skip
  have e4 : (xs.drop 5).length = n - 5 := by rw [List.length_drop, show xs.length = n by rw [← bcs_length]; exact hs.1]
  rw [e4] at hR
  clear e4
  obtain ⟨hg, _⟩ := hs.at_ (by omega)
  obtain ⟨A4, cut4, cs4, cf4⟩ := cut_from g o n c 5 5 rfl (by omega) hnc
  have hlt := hx.lt
  have c0 := hx.cell 0
  have c1 := hx.cell 1
  have c2 := hx.cell 2
  have c3 := hx.cell 3
  simp only [List.getElem?_cons_zero, List.getElem?_cons_succ] at c0 c1 c2 c3
  have f0 := hx.frozen 0
  have f1 := hx.frozen 1
  have f2 := hx.frozen 2
  have f3 := hx.frozen 3
  have HS := Lib.hid hs
  have HX := Lib.hid hx
  have HC4 := Lib.hid cs4
  clear hs hx cs4 cf4
  have jc : (5 : Int) ≤ (c : Int) := by omega
  have jn : (5 : Int) ≤ (n : Int) := by omega
  have tl : decide ((n : Int) < 5) = false := by simp; omega
  have hne : gx ≠ g := by omega
  have hne' : ¬ gx = g := hne
  have hne2 : ¬ g = gx := fun h => hne h.symm
  have jc3 : (3 : Int) ≤ (c : Int) := by omega
  have HEX := Lib.hid ex
  clear ex
  go_enter Tryz.func102, Tryz.ntmps102
  have HBE0 := Lib.hid (Below.refl gx w)
  have HBX0 := HX
  have HSW0 := HS
  go_wp2_with fail
  obtain ⟨W1, hW⟩ : ∃ W, W = (w.setCell ⟨gx, 2, none⟩ (.slice (some ⟨g, o, none⟩) 3 c)) := ⟨_, rfl⟩
  rw [← hW]
  have hbe : Below gx w W1 := by rw [hW]; exact ((Below.refl gx w).setCell (p := ⟨gx, 2, none⟩) (Nat.le_refl _) _)
  have hbx : Bk W1 gx 91 [.slice none 0 0, .slice none 0 0, .slice (some ⟨g, o, none⟩) 3 c, .int .u16 0] := by rw [hW]; exact (HBX0.out.set_ 2 _)
  have HBE1 := Lib.hid (HBE0.out.trans hbe)
  have HBX1 := Lib.hid hbx
  have HSW1 := Lib.hid (HS.out.below ((HBE0.out.trans hbe).mono hB))
  have hlw := hbx.lt
  clear hbe hW c0 f0 c1 f1 c2 f2 c3 f3
  clear hbx
  go_wp2_with fail
  have jl2 : (5 : Int) ≤ (c : Int) := by omega
  have jz2 : ¬ (c : Int) = 3 := by omega
  have jy2 : ¬ c = 3 := by omega
  go_region_held3 (fun w' => True) (trivial) ((go_at_call 100; refine (u16_at g o n 3 2 _ B (o + 3) xs _ (HSW1.out.below (Below.refl _ _).drew) (by omega) (by omega) rfl).mono ?_; rintro e v2 ⟨rfl, hb1⟩; have hbx1 := HBX1.out.drew.below hb1 (by simpa using hlw); have f3 := hbx1.frozen 3; have c3 := hbx1.cell 3; simp only [List.getElem?_cons_zero, List.getElem?_cons_succ] at c3))
  generalize Lib.beNat ((xs.drop 3).take 2) = N3 at *
  obtain ⟨W2, hW⟩ : ∃ W, W = v2.setCell ⟨gx, 3, none⟩ (.int .u16 N3) := ⟨_, rfl⟩
  rw [← hW]
  have hbe : Below gx W1 W2 := by rw [hW]; exact (below_undrew (hb1.mono (by simpa using Nat.le_of_lt hlw))).setCell (p := ⟨gx, 3, none⟩) (Nat.le_refl _) _
  have hbx : Bk W2 gx 91 [.slice none 0 0, .slice none 0 0, .slice (some ⟨g, o, none⟩) 3 c, .int .u16 N3] := by rw [hW]; exact hbx1.set_ 3 _
  have HBE2 := Lib.hid (HBE1.out.trans hbe)
  have HBX2 := Lib.hid hbx
  have HSW2 := Lib.hid (HS.out.below ((HBE1.out.trans hbe).mono hB))
  have hlw := hbx.lt
  clear hbe hW hb1 hbx1 c3 f3
  have c0 := hbx.cell 0
  have f0 := hbx.frozen 0
  have c1 := hbx.cell 1
  have f1 := hbx.frozen 1
  simp only [List.getElem?_cons_zero, List.getElem?_cons_succ] at c0 c1
  clear hbx
  go_wp2_with fail
  go_region_held3 (fun w' => True) (trivial) (fail)
  go_wp2_with fail
  have hbf : Below gx W2 ((W2.setCell ⟨gx, 0, none⟩ (.slice (some ⟨g, o, none⟩) 5 c)).setCell ⟨gx, 1, none⟩ (.slice A4 (n - 5) (c - 5))).drew :=
    (((Below.refl gx _).setCell (p := ⟨gx, 0, none⟩) (Nat.le_refl _) _).setCell (p := ⟨gx, 1, none⟩) (Nat.le_refl _) _).drew
  have hbg := HBE2.out.trans hbf
  exact hR.out _ _ ⟨_, A4, _, _, rfl, hbg, ((HBX2.out.set_ 0 _).set_ 1 _).drew, (HC4.out w _ xs HS.out).below (hbg.mono hB), ⟨some ⟨g, o, none⟩, c, rfl, by have hq := ((HS.out.take_ (k := 3) (by omega)).below (hbg.mono hB)); rw [HEX.out] at hq; exact hq⟩⟩
set_option maxRecDepth 1000000 in
set_option maxHeartbeats 10000000 in
theorem dec_snap (b0 b1 b2 : UInt8) (xs : List UInt8) (ex : xs.take 3 = [b0, b1, b2]) (h4 : 5 ≤ xs.length) (hn : xs.length ≤ 1000) : Decs 80 88 91 xs (xs.drop 5) (Fld.dat (fun Q cQ => [.slice Q 3 cQ, .int .u16 (Lib.beNat ((xs.drop 3).take 2) : Nat)]) [b0, b1, b2]) := by
  intro gk u A n c w hk hs hnc
  refine calls_hid fun R hR => ?_
  have hl : xs.length = n := by rw [← bcs_length]; exact hs.1
  rw [hl] at h4 hn
  obtain ⟨g, o, rfl, hg, _⟩ := hs.2 (by omega)
  have hlt := hk.lt
  have HS := Lib.hid hs
  have HK := Lib.hid hk
  clear hs hk
  obtain ⟨W, hW⟩ : ∃ W, W = w.alloc (.cells #[.slice none 0 0, .slice none 0 0, .slice none 0 0, .int .u16 0] 91) := ⟨_, rfl⟩
  have hx : Bk W w.heap.size 91 [.slice none 0 0, .slice none 0 0, .slice none 0 0, .int .u16 0] := by rw [hW]; exact Bk.new _ _ _
  have hbe0 : Below w.heap.size w W := by rw [hW]; exact (Below.refl _ _).alloc (Nat.le_refl _) _
  have HBE := Lib.hid hbe0
  have hD := dfb_snap b0 b1 b2 xs ex g o n c gk w.heap.size (.iface 234 (.pointer (some ⟨gk, 0, none⟩))) W ((HS.out.below (hbe0.mono (Nat.le_of_lt hlt)))) (Nat.le_of_lt hlt) h4 hnc hn hx
  have HD := Lib.hid hD
  have HW := Lib.hid hW
  have HKW := Lib.hid (HK.out.below hbe0 hlt)
  clear hD hW hx hbe0
  go_enter Tryz.func80, Tryz.ntmps80
  go_wp2_with fail
  rw [← HW.out]
  refine HD.out.mono ?_
  rintro e w1 ⟨Cv, Ap, cp, fs, rfl, hb1, h3, h4', h5⟩
  have hk1 := HKW.out.below hb1 hlt
  have HK1 := Lib.hid hk1
  have HB1 := Lib.hid (HBE.out.trans hb1)
  have H3 := Lib.hid h3
  have H4 := Lib.hid h4'
  have H5 := Lib.hid h5
  clear hk1 hb1 h3 h4' h5
  go_wp2_with fail
  refine (addlayer gk u _ 88 w1 HK1.out).mono ?_
  rintro e w2 ⟨rfl, rfl⟩
  go_wp2_with fail
  have hset : Below gk w1 (w1.setCell ⟨gk, 0, none⟩ (.iface 88 (.pointer (some ⟨w.heap.size, 0, none⟩)))) := (Below.refl _ _).setCell (p := ⟨gk, 0, none⟩) (Nat.le_refl _) _
  refine hR.out _ _ ⟨w.heap.size, Cv, Ap, cp, fs, rfl, Nat.le_refl _, HK1.out.set_ 0 _, H3.out.far (p := ⟨gk, 0, none⟩) (by simp; omega) _, H4.out.below hset, Fld.keep _ _ _ _ _ H5.out hset, ?_⟩
  refine only_set ?_ (.inl rfl) _
  exact grown_of_below HB1.out _
end Go.Proofs.YtphmklgbbpiafaaGreat
