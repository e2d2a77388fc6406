/-
  Loopback: what its decoder hands on. No condition.
-/
import Derived.Deep.RegionHeld3
import Derived.Test.YtphmklgbbpiafaaGreatDldA
import Derived.Test.YtphmklgbbpiafaaGreatMskA
import Derived.Test.YtphmklgbbpiafaaGreatBytesL
namespace Go.Proofs.YtphmklgbbpiafaaGreat
open Go Go.RowKit
set_option linter.unusedVariables false
attribute [local go_sem] sd_drewN ad_drewN
set_option maxRecDepth 1000000 in
set_option maxHeartbeats 10000000 in
/-- What DecodeFromBytes does to the layer in block gx. -/
theorem dfb_loopback (n0 : Nat) (h0 : n0 < 256) (xs : List UInt8) (e0 : (xs.getD 0 0).toNat = n0) (e1 : (xs.getD 1 0).toNat = 0) (hbe : Lib.beNat (xs.take 4) = n0 * 16777216) (hle : Lib.leNat (xs.take 4) = n0) (g o n c B gx : Nat) (df : Value) (w : World) (hs : Sl w B (some ⟨g, o, none⟩) n (bcs xs)) (hB : B ≤ gx) (h4 : 4 ≤ n) (hnc : n ≤ c) (hn : n ≤ 1000)
    (hx : Bk w gx 95 [.slice none 0 0, .slice none 0 0, .int .u8 0]) :
    Calls Tryz.prog 103 #[.pointer (some ⟨gx, 0, none⟩), .slice (some ⟨g, o, none⟩) n c, df] w (Dfbs B gx 95 (xs.drop 4) (Fld.just [.int .u8 n0]) w) := by
  refine calls_hid fun R hR => ?_
  unfold Dfbs at hR
  simp only [Fld.just] at hR
  have e4 : (xs.drop 4).length = n - 4 := by rw [List.length_drop, show xs.length = n by rw [← bcs_length]; exact hs.1]
  rw [e4] at hR
  clear e4
  obtain ⟨hg, _⟩ := hs.at_ (by omega)
  obtain ⟨A4, cut4, cs4, cf4⟩ := cut_from g o n c 4 4 rfl (by omega) hnc
  have hlt := hx.lt
  have b0 := (xs.getD 0 0).toNat_lt
  have x0 : w.cell? ⟨g, o, none⟩ = some (.int .u8 (xs.getD 0 0).toNat) := hs.byte (k := 0) (by omega)
  have HXB0 := Lib.hid x0
  have j0 : 0 < n := by omega
  have i0 : (0 : Int) < (n : Int) := by omega
  have b1 := (xs.getD 1 0).toNat_lt
  have x1 : w.cell? ⟨g, o + 1, none⟩ = some (.int .u8 (xs.getD 1 0).toNat) := hs.byte (k := 1) (by omega)
  have HXB1 := Lib.hid x1
  have j1 : 1 < n := by omega
  have i1 : (1 : Int) < (n : Int) := by omega
  have c0 := hx.cell 0
  have c1 := hx.cell 1
  have c2 := hx.cell 2
  simp only [List.getElem?_cons_zero, List.getElem?_cons_succ] at c0 c1 c2
  have f0 := hx.frozen 0
  have f1 := hx.frozen 1
  have f2 := hx.frozen 2
  have HS := Lib.hid hs
  have HX := Lib.hid hx
  have HC4 := Lib.hid cs4
  clear hs hx cs4 cf4
  have jc : (4 : Int) ≤ (c : Int) := by omega
  have jn : (4 : Int) ≤ (n : Int) := by omega
  have tl : decide ((n : Int) < 4) = false := by simp; omega
  have hne : gx ≠ g := by omega
  have hne' : ¬ gx = g := hne
  have hne2 : ¬ g = gx := fun h => hne h.symm
  rw [e0] at x0
  rw [e1] at x1
  simp only [Int.natCast_zero] at x1
  have HNB := Lib.hid hbe
  have HNL := Lib.hid hle
  clear e0 e1 hbe hle b0 b1
  by_cases hz : n0 = 0
  · subst hz
    simp only [Int.natCast_zero] at x0
    go_enter Tryz.func103, Tryz.ntmps103
    go_wp2_with fail
    refine wp_region_tail 3 (by kernel_rfl) (by kernel_rfl) ?_
    simp only [List.take_succ_cons, List.take_zero, List.drop_succ_cons, List.drop_zero]
    repeat still_step
    refine wpStill_nil ?_
    go_wp2_with fail
    refine (u32_at g o n 0 4 c B o xs _ (HS.out.below (Below.refl _ _).drew) (by omega) (by omega) rfl).mono ?_
    rintro e w1 ⟨rfl, hb⟩
    simp only [List.drop_zero] at hb ⊢
    rw [HNB.out]
    simp only [Nat.zero_mul, Int.natCast_zero]
    have hb1 := below_undrew hb
    have hx1 := HX.out.below hb1 hlt
    have hlt1 := hx1.lt
    have HX1 := Lib.hid hx1
    have HB1 := Lib.hid (hb1.mono (Nat.le_of_lt hlt))
    have c0 := hx1.cell 0
    have c1 := hx1.cell 1
    have c2 := hx1.cell 2
    simp only [List.getElem?_cons_zero, List.getElem?_cons_succ] at c0 c1 c2
    have f0 := hx1.frozen 0
    have f1 := hx1.frozen 1
    have f2 := hx1.frozen 2
    clear hx1 hb hb1
    go_wp2_with fail
    go_region_held3 (fun w' => True) (trivial) (fail)
    go_wp2_with fail
    skip
    skip
    have hbg : Below gx w (((w1.setCell ⟨gx, 2, none⟩ (.int .u8 0)).setCell ⟨gx, 0, none⟩ (.slice (some ⟨g, o, none⟩) 4 c)).setCell ⟨gx, 1, none⟩ (.slice A4 (n - 4) (c - 4))).drew :=
      (((HB1.out.setCell (p := ⟨gx, 2, none⟩) (Nat.le_refl _) _).setCell (p := ⟨gx, 0, none⟩) (Nat.le_refl _) _).setCell (p := ⟨gx, 1, none⟩) (Nat.le_refl _) _).drew
    exact hR.out _ _ ⟨_, A4, _, _, rfl, hbg, (((HX1.out.set_ 2 _).set_ 0 _).set_ 1 _).drew, (HC4.out w _ xs HS.out).below (hbg.mono hB), rfl⟩
  · have hnz : ((n0 : Int) == 0) = false := by simp; omega
    have t255 : decide ((255 : Int) < (n0 : Int)) = false := by simp; omega
    go_enter Tryz.func103, Tryz.ntmps103
    go_wp2_with fail
    refine wp_region_tail 3 (by kernel_rfl) (by kernel_rfl) ?_
    simp only [List.take_succ_cons, List.take_zero, List.drop_succ_cons, List.drop_zero]
    repeat still_step
    refine wpStill_nil ?_
    go_wp2_with fail
    refine (l32_at g o n 0 4 c B o xs _ (HS.out.below (Below.refl _ _).drew) (by omega) (by omega) rfl).mono ?_
    rintro e w1 ⟨rfl, hb⟩
    simp only [List.drop_zero] at hb ⊢
    rw [HNL.out]
    have hb1 := below_undrew hb
    have hx1 := HX.out.below hb1 hlt
    have hlt1 := hx1.lt
    have HX1 := Lib.hid hx1
    have HB1 := Lib.hid (hb1.mono (Nat.le_of_lt hlt))
    have c0 := hx1.cell 0
    have c1 := hx1.cell 1
    have c2 := hx1.cell 2
    simp only [List.getElem?_cons_zero, List.getElem?_cons_succ] at c0 c1 c2
    have f0 := hx1.frozen 0
    have f1 := hx1.frozen 1
    have f2 := hx1.frozen 2
    clear hx1 hb hb1
    go_wp2_with fail
    go_region_held3 (fun w' => True) (trivial) (fail)
    go_wp2_with fail
    have q : IntKind.u8.wrap (n0 : Int) = (n0 : Int) := by rw [u8w]; omega
    try simp only [q]
    have hbg : Below gx w (((w1.setCell ⟨gx, 2, none⟩ (.int .u8 n0)).setCell ⟨gx, 0, none⟩ (.slice (some ⟨g, o, none⟩) 4 c)).setCell ⟨gx, 1, none⟩ (.slice A4 (n - 4) (c - 4))).drew :=
      (((HB1.out.setCell (p := ⟨gx, 2, none⟩) (Nat.le_refl _) _).setCell (p := ⟨gx, 0, none⟩) (Nat.le_refl _) _).setCell (p := ⟨gx, 1, none⟩) (Nat.le_refl _) _).drew
    exact hR.out _ _ ⟨_, A4, _, _, rfl, hbg, (((HX1.out.set_ 2 _).set_ 0 _).set_ 1 _).drew, (HC4.out w _ xs HS.out).below (hbg.mono hB), rfl⟩
set_option maxRecDepth 1000000 in
set_option maxHeartbeats 10000000 in
theorem dec_loopback (n0 : Nat) (h0 : n0 < 256) (xs : List UInt8) (e0 : (xs.getD 0 0).toNat = n0) (e1 : (xs.getD 1 0).toNat = 0) (hbe : Lib.beNat (xs.take 4) = n0 * 16777216) (hle : Lib.leNat (xs.take 4) = n0) (h4 : 4 ≤ xs.length) (hn : xs.length ≤ 1000) : Decs 81 92 95 xs (xs.drop 4) (Fld.just [.int .u8 n0]) := by
  intro gk u A n c w hk hs hnc
  refine calls_hid fun R hR => ?_
  have hl : xs.length = n := by rw [← bcs_length]; exact hs.1
  rw [hl] at h4 hn
  obtain ⟨g, o, rfl, hg, _⟩ := hs.2 (by omega)
  have hlt := hk.lt
  have HS := Lib.hid hs
  have HK := Lib.hid hk
  clear hs hk
  obtain ⟨W, hW⟩ : ∃ W, W = w.alloc (.cells #[.slice none 0 0, .slice none 0 0, .int .u8 0] 95) := ⟨_, rfl⟩
  have hx : Bk W w.heap.size 95 [.slice none 0 0, .slice none 0 0, .int .u8 0] := by rw [hW]; exact Bk.new _ _ _
  have hbe0 : Below w.heap.size w W := by rw [hW]; exact (Below.refl _ _).alloc (Nat.le_refl _) _
  have HBE := Lib.hid hbe0
  have hD := dfb_loopback n0 h0 xs e0 e1 hbe hle g o n c gk w.heap.size (.iface 234 (.pointer (some ⟨gk, 0, none⟩))) W ((HS.out.below (hbe0.mono (Nat.le_of_lt hlt)))) (Nat.le_of_lt hlt) h4 hnc hn hx
  have HD := Lib.hid hD
  have HW := Lib.hid hW
  have HKW := Lib.hid (HK.out.below hbe0 hlt)
  clear hD hW hx hbe0
  go_enter Tryz.func81, Tryz.ntmps81
  go_wp2_with fail
  rw [← HW.out]
  refine HD.out.mono ?_
  rintro e w1 ⟨Cv, Ap, cp, fs, rfl, hb1, h3, h4', h5⟩
  have hk1 := HKW.out.below hb1 hlt
  have HK1 := Lib.hid hk1
  have HB1 := Lib.hid (HBE.out.trans hb1)
  have H3 := Lib.hid h3
  have H4 := Lib.hid h4'
  have H5 := Lib.hid h5
  clear hk1 hb1 h3 h4' h5
  go_wp2_with fail
  refine (addlayer gk u _ 92 w1 HK1.out).mono ?_
  rintro e w2 ⟨rfl, rfl⟩
  go_wp2_with fail
  have hset : Below gk w1 (w1.setCell ⟨gk, 0, none⟩ (.iface 92 (.pointer (some ⟨w.heap.size, 0, none⟩)))) := (Below.refl _ _).setCell (p := ⟨gk, 0, none⟩) (Nat.le_refl _) _
  refine hR.out _ _ ⟨w.heap.size, Cv, Ap, cp, fs, rfl, Nat.le_refl _, HK1.out.set_ 0 _, H3.out.far (p := ⟨gk, 0, none⟩) (by simp; omega) _, H4.out.below hset, Fld.keep _ _ _ _ _ H5.out hset, ?_⟩
  refine only_set ?_ (.inl rfl) _
  exact grown_of_below HB1.out _
end Go.Proofs.YtphmklgbbpiafaaGreat
