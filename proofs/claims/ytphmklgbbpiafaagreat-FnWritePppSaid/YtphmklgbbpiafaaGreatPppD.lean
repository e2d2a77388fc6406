/-
  PPP: what its decoder hands on. No condition.
-/
import Derived.Deep.RegionHeld3
import Derived.Test.YtphmklgbbpiafaaGreatDecA
import Derived.Test.YtphmklgbbpiafaaGreatMskA
import Derived.Test.YtphmklgbbpiafaaGreatCutD
import Derived.Test.YtphmklgbbpiafaaGreatBytesL
namespace Go.Proofs.YtphmklgbbpiafaaGreat
open Go Go.RowKit
set_option linter.unusedVariables false
set_option linter.unusedSimpArgs false
attribute [local go_sem] sd_drewN ad_drewN
set_option maxRecDepth 1000000 in
set_option maxHeartbeats 10000000 in
theorem dec_ppp0 (hi lo : UInt8) (pay : List UInt8) (he : hi.toNat % 2 = 0) (hlo : lo.toNat % 2 = 1) (hn : pay.length ≤ 900) : Decs 78 81 84 (hi :: lo :: pay) pay (Fld.just [.int .u16 (hi.toNat * 256 + lo.toNat : Nat), .bool false]) := by
  intro gk u A n c w hk hs hnc
  refine calls_hid fun R hR => ?_
  have hl : (hi :: lo :: pay).length = n := by rw [← bcs_length]; exact hs.1
  simp only [List.length_cons] at hl
  obtain ⟨g, o, rfl, hg, _⟩ := hs.2 (by omega)
  obtain ⟨A4, cut4, cs4, cf4⟩ := cut_from g o n c 2 2 rfl (by omega) hnc
  have wv : IntKind.i64.wrap 2 = 2 := IntWalk.i64_in _ (by omega)
  have cutB := cut_mid_at g o n c 0 2 .i64 .i64 0 2 rfl rfl (by omega) (by omega) (by omega) o 2 c rfl rfl rfl
  have hlt := hk.lt
  have hgw : g < w.heap.size := by omega
  have x0 := hs.byte (k := 0) (by omega)
  have x1 := hs.byte (k := 1) (by omega)
  simp only [Nat.add_zero, List.getD_cons_zero, List.getD_cons_succ] at x0 x1
  have h0 := hi.toNat_lt
  have h1 := lo.toNat_lt
  have hnum : Lib.beNat (((hi :: lo :: pay).drop 0).take 2) = hi.toNat * 256 + lo.toNat := by simp only [List.drop_succ_cons, List.drop_zero, List.take_succ_cons, List.take_zero, beNat_two]
  have hpl := fun W h => cs4 W gk (hi :: lo :: pay) h
  simp only [List.drop_succ_cons, List.drop_zero] at hpl
  rw [List.drop_zero] at hnum
  generalize hxs : hi :: lo :: pay = xs at *
  generalize hi.toNat = a at *
  generalize lo.toNat = b at *
  have HS := Lib.hid hs
  have HK := Lib.hid hk
  have HPL := Lib.hid hpl
  have HN := Lib.hid hnum
  clear hs hk hpl cs4 cf4 hnum hxs
  have HE4 := Lib.hid (show n - 2 = pay.length by omega)
  have jc : (2 : Int) ≤ (c : Int) := by omega
  have jn : (2 : Int) ≤ (n : Int) := by omega
  have t5 : ((a : Int) == 255) = false := by simp; omega
  have jz : ¬ (c : Int) = 0 := by omega
  have jy : ¬ c = 0 := by omega
  have j0 : 0 < n := by omega
  have i0 : (0 : Int) < (n : Int) := by omega
  have j1 : 1 < n := by omega
  have i1 : (1 : Int) < (n : Int) := by omega
  have q0 : bits .and .u8 (a : Int) 1 = 0 := by rw [m8_1 a (by omega), he]; rfl
  have q1 : bits .and .u8 (b : Int) 1 = 1 := by rw [m8_1 b (by omega), hlo]; rfl
  go_enter Tryz.func78, Tryz.ntmps78
  go_wp2_with fail
  obtain ⟨W1, hW1⟩ : ∃ W, W = w.alloc (.cells #[.slice none 0 0, .slice none 0 0, .int .u16 0, .bool false] 84) := ⟨_, rfl⟩
  rw [← hW1]
  have hbx : Bk W1 w.heap.size 84 [.slice none 0 0, .slice none 0 0, .int .u16 0, .bool false] := by rw [hW1]; exact Bk.new _ _ _
  have hbe : Below w.heap.size w W1 := by rw [hW1]; exact (Below.refl _ _).alloc (Nat.le_refl _) _
  have hlw := hbx.lt
  have HBX := Lib.hid hbx
  have HBE := Lib.hid hbe
  have HSW := Lib.hid (HS.out.below (hbe.mono (Nat.le_of_lt hlt)))
  clear hW1 hbx hbe x0 x1
  go_region_held3 (fun w' => True) (trivial) ((go_at_call 100; refine (u16_at g o n 0 2 _ gk o xs _ (HSW.out.below (Below.refl _ _).drew) (by omega) (by omega) rfl).mono ?_; rintro e v1 ⟨rfl, hb1⟩; have hbx1 := HBX.out.drew.below hb1 (by simpa using hlw); have f2 := hbx1.frozen 2; have c2 := hbx1.cell 2; simp only [List.getElem?_cons_zero, List.getElem?_cons_succ] at c2))
  try simp only [List.drop_zero]
  rw [HN.out]
  obtain ⟨W2, hW2⟩ : ∃ W, W = v1.setCell ⟨w.heap.size, 2, none⟩ (.int .u16 (a * 256 + b : Nat)) := ⟨_, rfl⟩
  rw [← hW2]
  have hbe2 : Below w.heap.size W1 W2 := by rw [hW2]; exact (below_undrew (hb1.mono (by simpa using Nat.le_of_lt hlw))).setCell (p := ⟨w.heap.size, 2, none⟩) (Nat.le_refl _) _
  have hbx2 : Bk W2 w.heap.size 84 [.slice none 0 0, .slice none 0 0, .int .u16 (a * 256 + b : Nat), .bool false] := by rw [hW2]; exact hbx1.set_ 2 _
  have c0 := hbx2.cell 0
  have f0 := hbx2.frozen 0
  have c1 := hbx2.cell 1
  have f1 := hbx2.frozen 1
  simp only [List.getElem?_cons_zero, List.getElem?_cons_succ] at c0 c1
  have HBE2 := Lib.hid (HBE.out.trans hbe2)
  have HBX2 := Lib.hid hbx2
  clear hW2 hb1 hbx1 c2 f2 hbe2 hbx2
  go_wp2_with fail
  obtain ⟨W3, hW3⟩ : ∃ W, W = (W2.setCell ⟨w.heap.size, 0, none⟩ (.slice (some ⟨g, o, none⟩) 2 c)).setCell ⟨w.heap.size, 1, none⟩ (.slice A4 (n - 2) (c - 2)) := ⟨_, rfl⟩
  rw [← hW3]
  have hbe3 : Below w.heap.size W2 W3 := by rw [hW3]; exact ((Below.refl _ _).setCell (p := ⟨w.heap.size, 0, none⟩) (Nat.le_refl _) _).setCell (p := ⟨w.heap.size, 1, none⟩) (Nat.le_refl _) _
  have hbx3 : Bk W3 w.heap.size 84 [.slice (some ⟨g, o, none⟩) 2 c, .slice A4 (n - 2) (c - 2), .int .u16 (a * 256 + b : Nat), .bool false] := by rw [hW3]; exact (HBX2.out.set_ 0 _).set_ 1 _
  have hw3 := HBE2.out.trans hbe3
  have hk3 := HK.out.below hw3 hlt
  have hpl3 := (HPL.out w HS.out).below (hw3.mono (Nat.le_of_lt hlt))
  have HW3 := Lib.hid hw3
  have HBX3 := Lib.hid hbx3
  have HK3 := Lib.hid hk3
  have HPL3 := Lib.hid hpl3
  clear hW3 hbe3 hbx3 hw3 hk3 hpl3 c0 f0 c1 f1
  refine (addlayer gk u _ 81 W3 HK3.out).mono ?_
  rintro e w4 ⟨rfl, rfl⟩
  go_wp2_with fail
  have hset : Below gk W3 (W3.setCell ⟨gk, 0, none⟩ (.iface 81 (.pointer (some ⟨w.heap.size, 0, none⟩)))) := (Below.refl _ _).setCell (p := ⟨gk, 0, none⟩) (Nat.le_refl _) _
  rw [HE4.out] at HBX3 HPL3
  refine hR.out _ _ ⟨w.heap.size, _, A4, _, _, rfl, Nat.le_refl _, HK3.out.set_ 0 _, HBX3.out.far (p := ⟨gk, 0, none⟩) (by simp; omega) _, HPL3.out.below hset, rfl, ?_⟩
  refine only_set ?_ (.inl rfl) _
  exact grown_of_below HW3.out _
set_option maxRecDepth 1000000 in
set_option maxHeartbeats 10000000 in
theorem dec_ppp1 (hi lo : UInt8) (pay : List UInt8) (he : hi.toNat % 2 = 0) (hlo : lo.toNat % 2 = 1) (hn : pay.length ≤ 900) : Decs 78 81 84 (255 :: 3 :: hi :: lo :: pay) pay (Fld.just [.int .u16 (hi.toNat * 256 + lo.toNat : Nat), .bool true]) := by
  intro gk u A n c w hk hs hnc
  refine calls_hid fun R hR => ?_
  have hl : (255 :: 3 :: hi :: lo :: pay).length = n := by rw [← bcs_length]; exact hs.1
  simp only [List.length_cons] at hl
  obtain ⟨g, o, rfl, hg, _⟩ := hs.2 (by omega)
  obtain ⟨A4, cut4, cs4, cf4⟩ := cut_from g o n c 4 4 rfl (by omega) hnc
  have wv : IntKind.i64.wrap 4 = 4 := IntWalk.i64_in _ (by omega)
  have cutB := cut_mid_at g o n c 2 4 .i64 .i64 2 4 rfl rfl (by omega) (by omega) (by omega) (o + 2) 2 (c - 2) rfl rfl rfl
  have hlt := hk.lt
  have hgw : g < w.heap.size := by omega
  have x0 := hs.byte (k := 0) (by omega)
  have x1 := hs.byte (k := 1) (by omega)
  have x2 := hs.byte (k := 2) (by omega)
  have x3 := hs.byte (k := 3) (by omega)
  simp only [Nat.add_zero, List.getD_cons_zero, List.getD_cons_succ] at x0 x1 x2 x3
  have y0 : w.cell? ⟨g, o, none⟩ = some (.int .u8 255) := x0
  have y1 : w.cell? ⟨g, o + 1, none⟩ = some (.int .u8 3) := x1
  clear x0 x1
  have h0 := hi.toNat_lt
  have h1 := lo.toNat_lt
  have hnum : Lib.beNat (((255 :: 3 :: hi :: lo :: pay).drop 2).take 2) = hi.toNat * 256 + lo.toNat := by simp only [List.drop_succ_cons, List.drop_zero, List.take_succ_cons, List.take_zero, beNat_two]
  have hpl := fun W h => cs4 W gk (255 :: 3 :: hi :: lo :: pay) h
  simp only [List.drop_succ_cons, List.drop_zero] at hpl
  skip
  generalize hxs : 255 :: 3 :: hi :: lo :: pay = xs at *
  generalize hi.toNat = a at *
  generalize lo.toNat = b at *
  have HS := Lib.hid hs
  have HK := Lib.hid hk
  have HPL := Lib.hid hpl
  have HN := Lib.hid hnum
  clear hs hk hpl cs4 cf4 hnum hxs
  have HE4 := Lib.hid (show n - 4 = pay.length by omega)
  have jc : (4 : Int) ≤ (c : Int) := by omega
  have jn : (4 : Int) ≤ (n : Int) := by omega
  have jz : ¬ (c : Int) = 2 := by omega
  have jy : ¬ c = 2 := by omega
  have jl : (4 : Int) ≤ (c : Int) := by omega
  have j0 : 0 < n := by omega
  have i0 : (0 : Int) < (n : Int) := by omega
  have j1 : 1 < n := by omega
  have i1 : (1 : Int) < (n : Int) := by omega
  have j2 : 2 < n := by omega
  have i2 : (2 : Int) < (n : Int) := by omega
  have j3 : 3 < n := by omega
  have i3 : (3 : Int) < (n : Int) := by omega
  have q0 : bits .and .u8 (a : Int) 1 = 0 := by rw [m8_1 a (by omega), he]; rfl
  have q1 : bits .and .u8 (b : Int) 1 = 1 := by rw [m8_1 b (by omega), hlo]; rfl
  go_enter Tryz.func78, Tryz.ntmps78
  go_wp2_with fail
  obtain ⟨W1, hW1⟩ : ∃ W, W = w.alloc (.cells #[.slice none 0 0, .slice none 0 0, .int .u16 0, .bool true] 84) := ⟨_, rfl⟩
  rw [← hW1]
  have hbx : Bk W1 w.heap.size 84 [.slice none 0 0, .slice none 0 0, .int .u16 0, .bool true] := by rw [hW1]; exact Bk.new _ _ _
  have hbe : Below w.heap.size w W1 := by rw [hW1]; exact (Below.refl _ _).alloc (Nat.le_refl _) _
  have hlw := hbx.lt
  have HBX := Lib.hid hbx
  have HBE := Lib.hid hbe
  have HSW := Lib.hid (HS.out.below (hbe.mono (Nat.le_of_lt hlt)))
  clear hW1 hbx hbe y0 y1 x2 x3
  go_region_held3 (fun w' => True) (trivial) ((go_at_call 100; refine (u16_at g o n 2 2 _ gk (o + 2) xs _ (HSW.out.below (Below.refl _ _).drew) (by omega) (by omega) rfl).mono ?_; rintro e v1 ⟨rfl, hb1⟩; have hbx1 := HBX.out.drew.below hb1 (by simpa using hlw); have f2 := hbx1.frozen 2; have c2 := hbx1.cell 2; simp only [List.getElem?_cons_zero, List.getElem?_cons_succ] at c2))
  skip
  rw [HN.out]
  obtain ⟨W2, hW2⟩ : ∃ W, W = v1.setCell ⟨w.heap.size, 2, none⟩ (.int .u16 (a * 256 + b : Nat)) := ⟨_, rfl⟩
  rw [← hW2]
  have hbe2 : Below w.heap.size W1 W2 := by rw [hW2]; exact (below_undrew (hb1.mono (by simpa using Nat.le_of_lt hlw))).setCell (p := ⟨w.heap.size, 2, none⟩) (Nat.le_refl _) _
  have hbx2 : Bk W2 w.heap.size 84 [.slice none 0 0, .slice none 0 0, .int .u16 (a * 256 + b : Nat), .bool true] := by rw [hW2]; exact hbx1.set_ 2 _
  have c0 := hbx2.cell 0
  have f0 := hbx2.frozen 0
  have c1 := hbx2.cell 1
  have f1 := hbx2.frozen 1
  simp only [List.getElem?_cons_zero, List.getElem?_cons_succ] at c0 c1
  have HBE2 := Lib.hid (HBE.out.trans hbe2)
  have HBX2 := Lib.hid hbx2
  clear hW2 hb1 hbx1 c2 f2 hbe2 hbx2
  go_wp2_with fail
  obtain ⟨W3, hW3⟩ : ∃ W, W = (W2.setCell ⟨w.heap.size, 0, none⟩ (.slice (some ⟨g, o + 2, none⟩) 2 (c - 2))).setCell ⟨w.heap.size, 1, none⟩ (.slice A4 (n - 4) (c - 4)) := ⟨_, rfl⟩
  rw [← hW3]
  have hbe3 : Below w.heap.size W2 W3 := by rw [hW3]; exact ((Below.refl _ _).setCell (p := ⟨w.heap.size, 0, none⟩) (Nat.le_refl _) _).setCell (p := ⟨w.heap.size, 1, none⟩) (Nat.le_refl _) _
  have hbx3 : Bk W3 w.heap.size 84 [.slice (some ⟨g, o + 2, none⟩) 2 (c - 2), .slice A4 (n - 4) (c - 4), .int .u16 (a * 256 + b : Nat), .bool true] := by rw [hW3]; exact (HBX2.out.set_ 0 _).set_ 1 _
  have hw3 := HBE2.out.trans hbe3
  have hk3 := HK.out.below hw3 hlt
  have hpl3 := (HPL.out w HS.out).below (hw3.mono (Nat.le_of_lt hlt))
  have HW3 := Lib.hid hw3
  have HBX3 := Lib.hid hbx3
  have HK3 := Lib.hid hk3
  have HPL3 := Lib.hid hpl3
  clear hW3 hbe3 hbx3 hw3 hk3 hpl3 c0 f0 c1 f1
  refine (addlayer gk u _ 81 W3 HK3.out).mono ?_
  rintro e w4 ⟨rfl, rfl⟩
  go_wp2_with fail
  have hset : Below gk W3 (W3.setCell ⟨gk, 0, none⟩ (.iface 81 (.pointer (some ⟨w.heap.size, 0, none⟩)))) := (Below.refl _ _).setCell (p := ⟨gk, 0, none⟩) (Nat.le_refl _) _
  rw [HE4.out] at HBX3 HPL3
  refine hR.out _ _ ⟨w.heap.size, _, A4, _, _, rfl, Nat.le_refl _, HK3.out.set_ 0 _, HBX3.out.far (p := ⟨gk, 0, none⟩) (by simp; omega) _, HPL3.out.below hset, rfl, ?_⟩
  refine only_set ?_ (.inl rfl) _
  exact grown_of_below HW3.out _
end Go.Proofs.YtphmklgbbpiafaaGreat
