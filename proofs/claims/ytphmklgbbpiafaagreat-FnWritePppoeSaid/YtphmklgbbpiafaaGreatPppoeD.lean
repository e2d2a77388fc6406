/-
  PPPoE: what its decoder hands on. No condition.
-/
import Derived.Deep.RegionHeld3
import Derived.Test.YtphmklgbbpiafaaGreatDecA
import Derived.Test.YtphmklgbbpiafaaGreatMskA
import Derived.Test.YtphmklgbbpiafaaGreatBytesL
import Derived.Test.YtphmklgbbpiafaaGreatCutD
namespace Go.Proofs.YtphmklgbbpiafaaGreat
open Go Go.RowKit
set_option linter.unusedVariables false
set_option linter.unusedSimpArgs false
attribute [local go_sem] sd_drewN ad_drewN
set_option maxRecDepth 1000000 in
set_option maxHeartbeats 10000000 in
theorem dec_pppoe (a b c0 c1 d0 d1 : UInt8) (pay : List UInt8) (hd : (d0.toNat * 256 + d1.toNat) ≤ pay.length) (hn : pay.length ≤ 900) : Decs 77 73 79 (a :: b :: c0 :: c1 :: d0 :: d1 :: pay) (pay.take (d0.toNat * 256 + d1.toNat)) (Fld.just [.int .u8 (a.toNat / 16 : Nat), .int .u8 (a.toNat % 16 : Nat), .int .u8 b.toNat, .int .u16 ((c0.toNat * 256 + c1.toNat) : Nat), .int .u16 ((d0.toNat * 256 + d1.toNat) : Nat)]) := by
  intro gk u A n c w hk hs hnc
  refine calls_hid fun R hR => ?_
  have hl : (a :: b :: c0 :: c1 :: d0 :: d1 :: pay).length = n := by rw [← bcs_length]; exact hs.1
  simp only [List.length_cons] at hl
  have etk : (pay.take (d0.toNat * 256 + d1.toNat)).length = (d0.toNat * 256 + d1.toNat) := by rw [List.length_take]; omega
  rw [etk] at hR
  obtain ⟨g, o, rfl, hg, _⟩ := hs.2 (by omega)
  have hlt := hk.lt
  have hgw : g < w.heap.size := by omega
  have x0 := hs.byte (k := 0) (by omega)
  have x1 := hs.byte (k := 1) (by omega)
  simp only [Nat.add_zero, List.getD_cons_zero, List.getD_cons_succ] at x0 x1
  have z0 : 0 < n := by omega
  have z1 : 1 < n := by omega
  have i0 : (0 : Int) < (n : Int) := by omega
  have i1 : (1 : Int) < (n : Int) := by omega
  have ha := a.toNat_lt
  have hb := b.toNat_lt
  have hc0 := c0.toNat_lt
  have hc1 := c1.toNat_lt
  have hd0 := d0.toNat_lt
  have hd1 := d1.toNat_lt
  have hn2 : Lib.beNat (((a :: b :: c0 :: c1 :: d0 :: d1 :: pay).drop 2).take 2) = (c0.toNat * 256 + c1.toNat) := by simp only [List.drop_succ_cons, List.drop_zero, List.take_succ_cons, List.take_zero, beNat_two]
  have hn4 : Lib.beNat (((a :: b :: c0 :: c1 :: d0 :: d1 :: pay).drop 4).take 2) = (d0.toNat * 256 + d1.toNat) := by simp only [List.drop_succ_cons, List.drop_zero, List.take_succ_cons, List.take_zero, beNat_two]
  obtain ⟨A4, cut4, cs4, cf4⟩ := cut_mid g o n c 6 (6 + (d0.toNat * 256 + d1.toNat)) .i64 .u16 6 (6 + (((d0.toNat * 256 + d1.toNat) : Nat) : Int)) rfl (by omega) (by omega) (by omega)
  have hpl := fun W h => cs4 W gk (a :: b :: c0 :: c1 :: d0 :: d1 :: pay) (by omega) h
  simp only [List.drop_succ_cons, List.drop_zero, Nat.add_sub_cancel_left] at hpl cut4
  have hN2 : (c0.toNat * 256 + c1.toNat) < 65536 := by omega
  generalize (d0.toNat * 256 + d1.toNat) = N4 at *
  generalize (c0.toNat * 256 + c1.toNat) = N2 at *
  generalize hxs : a :: b :: c0 :: c1 :: d0 :: d1 :: pay = xs at *
  generalize a.toNat = na at *
  generalize b.toNat = nb at *
  have q0 := m8_15 na (by omega)
  have p0 : na / 16 < 256 := by omega
  have p1 : na % 16 < 256 := by omega
  have e0 : (na : Int) / 16 = ((na / 16 : Nat) : Int) := by omega
  generalize na / 16 = m0 at *
  generalize na % 16 = m1 at *
  have v6 : IntKind.u16.wrap (6 + (N4 : Int)) = 6 + N4 := by simp [IntKind.wrap, IntKind.bits, IntKind.signed]; omega
  have HS := Lib.hid hs
  have HK := Lib.hid hk
  have HPL := Lib.hid hpl
  have HN2 := Lib.hid hn2
  have HN4 := Lib.hid hn4
  clear hs hk hpl cs4 cf4 hn2 hn4 hxs etk
  have jc : (6 : Int) ≤ (c : Int) := by omega
  have jc4 : (4 : Int) ≤ (c : Int) := by omega
  have jn : (6 : Int) ≤ (n : Int) := by omega
  have jz2 : ¬ (c : Int) = 2 := by omega
  have jy2 : ¬ c = 2 := by omega
  have jz4 : ¬ (c : Int) = 4 := by omega
  have jy4 : ¬ c = 4 := by omega
  go_enter Tryz.func77, Tryz.ntmps77
  go_wp2_with fail
  go_region_held3 (fun w' => w'.cell? ⟨g, o, none⟩ = some (.int .u8 na) ∧ w'.cell? ⟨g, o + 1, none⟩ = some (.int .u8 nb))
    (first | with_reducible exact ⟨z20, z21⟩ | with_reducible exact ⟨y0, y1⟩ | with_reducible exact ⟨low_drew.trans x0, low_drew.trans x1⟩ | exact ⟨(World.cell?_of_block (Below.heap_alloc _ _ g (by omega))).trans z20, (World.cell?_of_block (Below.heap_alloc _ _ g (by omega))).trans z21⟩)
    ((first | (go_at_call 100; (with_reducible refine (u16_at g o n 2 2 _ gk (o + 2) xs _ (HS.out.below (Below.refl _ _).drew) (by omega) (by omega) rfl).mono ?_); rintro e v1 ⟨rfl, hb1⟩; rw [HN2.out]; have y0 := (low_below (g := g) (i := o) hb1 (by simpa using hgw)).trans (low_drew.trans x0); have y1 := (low_below (g := g) (i := o + 1) hb1 (by simpa using hgw)).trans (low_drew.trans x1); have hs1 := Lib.hid (HS.out.below ((below_undrew hb1).mono (by simpa using Nat.le_of_lt hlt))); have hg1 : g < v1.heap.size := by have := hb1.size; simp at this; omega) | (go_at_call 100; (with_reducible refine (u16_at g o n 4 2 _ gk (o + 4) xs _ hs1.out (by omega) (by omega) rfl).mono ?_); rintro e v2 ⟨rfl, hb2⟩; rw [HN4.out]; have z20 := (low_below (g := g) (i := o) hb2 hg1).trans y0; have z21 := (low_below (g := g) (i := o + 1) hb2 hg1).trans y1; have hg2 : g < v2.heap.size := by have := hb2.size; omega)))
  have HVB := Lib.hid (((below_undrew hb1).mono (by simp)).trans (hb2.mono (by have := hb1.size; simp at this; exact this)) : Below w.heap.size w v2)
  obtain ⟨gx, hgx⟩ : ∃ gx, gx = v2.heap.size := ⟨_, rfl⟩
  obtain ⟨W1, hW1⟩ : ∃ W, W = v2.alloc (.cells #[.slice none 0 0, .slice none 0 0, .int .u8 m0, .int .u8 m1, .int .u8 nb, .int .u16 N2, .int .u16 N4] 79) := ⟨_, rfl⟩
  rw [← hW1, ← hgx]
  have hbx : Bk W1 gx 79 [.slice none 0 0, .slice none 0 0, .int .u8 m0, .int .u8 m1, .int .u8 nb, .int .u16 N2, .int .u16 N4] := by rw [hW1, hgx]; exact Bk.new _ _ _
  have hbe : Below w.heap.size w W1 := by rw [hW1]; exact HVB.out.alloc HVB.out.size _
  have hgw2 : w.heap.size ≤ gx := by rw [hgx]; exact HVB.out.size
  have c0 := hbx.cell 0
  have f0 := hbx.frozen 0
  have c1 := hbx.cell 1
  have f1 := hbx.frozen 1
  have c6 := hbx.cell 6
  simp only [List.getElem?_cons_zero, List.getElem?_cons_succ] at c0 c1 c6
  have HBX := Lib.hid hbx
  have HBE := Lib.hid hbe
  clear hW1 hgx hbx hbe hb1 hb2 y0 y1 z20 z21 hg1 hg2 hs1 x0 x1
  go_wp2_with fail
  refine wp_region_tail 13 (by kernel_rfl) (by kernel_rfl) ?_
  simp only [List.take_succ_cons, List.take_zero, List.drop_succ_cons, List.drop_zero]
  repeat still_step
  refine wpStill_nil ?_
  go_wp2_with fail
  obtain ⟨W3, hW3⟩ : ∃ W, W = ((W1.setCell ⟨gx, 0, none⟩ (.slice (some ⟨g, o, none⟩) 6 c)).setCell ⟨gx, 1, none⟩ (.slice A4 N4 (c - 6))).drew := ⟨_, rfl⟩
  rw [← hW3]
  have hbe3 : Below w.heap.size W1 W3 := by rw [hW3]; exact (((Below.refl _ _).setCell (p := ⟨gx, 0, none⟩) hgw2 _).setCell (p := ⟨gx, 1, none⟩) hgw2 _).drew
  have hbx3 : Bk W3 gx 79 [.slice (some ⟨g, o, none⟩) 6 c, .slice A4 N4 (c - 6), .int .u8 m0, .int .u8 m1, .int .u8 nb, .int .u16 N2, .int .u16 N4] := by rw [hW3]; exact ((HBX.out.set_ 0 _).set_ 1 _).drew
  have hw3 := HBE.out.trans hbe3
  have hk3 := HK.out.below hw3 hlt
  have hpl3 := (HPL.out w HS.out).below (hw3.mono (Nat.le_of_lt hlt))
  have HW3 := Lib.hid hw3
  have HBX3 := Lib.hid hbx3
  have HK3 := Lib.hid hk3
  have HPL3 := Lib.hid hpl3
  clear hW3 hbe3 hbx3 hw3 hk3 hpl3 c0 f0 c1 f1 c6
  refine (addlayer gk u _ 73 W3 HK3.out).mono ?_
  rintro e w4 ⟨rfl, rfl⟩
  go_wp2_with fail
  have hset : Below gk W3 (W3.setCell ⟨gk, 0, none⟩ (.iface 73 (.pointer (some ⟨gx, 0, none⟩)))) := (Below.refl _ _).setCell (p := ⟨gk, 0, none⟩) (Nat.le_refl _) _
  refine hR.out _ _ ⟨gx, _, A4, _, _, rfl, hgw2, HK3.out.set_ 0 _, HBX3.out.far (p := ⟨gk, 0, none⟩) (by simp; omega) _, HPL3.out.below hset, rfl, ?_⟩
  refine only_set ?_ (.inl rfl) _
  exact grown_of_below HW3.out _
end Go.Proofs.YtphmklgbbpiafaaGreat
