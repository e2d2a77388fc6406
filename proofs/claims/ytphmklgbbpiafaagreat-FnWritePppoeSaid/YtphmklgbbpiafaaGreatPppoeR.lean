/-
  PPPoE: the reference's reader. No condition.
-/
import Derived.Deep.RegionHeld3
import Derived.Test.YtphmklgbbpiafaaGreatSrdB
import Derived.Test.YtphmklgbbpiafaaGreatCutD
import Derived.Test.YtphmklgbbpiafaaGreatMskA
import Derived.Test.YtphmklgbbpiafaaGreatBytesL
namespace Go.Proofs.YtphmklgbbpiafaaGreat
open Go Go.RowKit
set_option linter.unusedVariables false
set_option linter.unusedSimpArgs false
attribute [local go_sem] sd_drewN ad_drewN
set_option maxRecDepth 1000000 in
set_option maxHeartbeats 10000000 in
theorem srd_pppoe (a b c0 c1 d0 d1 : UInt8) (pay : List UInt8) (hd : d0.toNat * 256 + d1.toNat ≤ pay.length) (hn9 : pay.length ≤ 900) : Srd 42 (a :: b :: c0 :: c1 :: d0 :: d1 :: pay) [a.toNat / 16, a.toNat % 16, b.toNat, c0.toNat * 256 + c1.toNat, d0.toNat * 256 + d1.toNat] [] (pay.take (d0.toNat * 256 + d1.toNat)) := by
  intro A n c B0 B1 w hs hB0 hB1 hnc
  refine calls_hid fun R hR => ?_
  have hl : (a :: b :: c0 :: c1 :: d0 :: d1 :: pay).length = n := by rw [← bcs_length]; exact hs.1
  simp only [List.length_cons] at hl
  obtain ⟨g, o, rfl, hg, _⟩ := hs.2 (by omega)
  have hgw : g < w.heap.size := by omega
  have x0 := hs.byte (k := 0) (by omega)
  have z0 : 0 < n := by omega
  have i0 : (0 : Int) < (n : Int) := by omega
  have x1 := hs.byte (k := 1) (by omega)
  have z1 : 1 < n := by omega
  have i1 : (1 : Int) < (n : Int) := by omega
  have x2 := hs.byte (k := 2) (by omega)
  have z2 : 2 < n := by omega
  have i2 : (2 : Int) < (n : Int) := by omega
  have x3 := hs.byte (k := 3) (by omega)
  have z3 : 3 < n := by omega
  have i3 : (3 : Int) < (n : Int) := by omega
  have x4 := hs.byte (k := 4) (by omega)
  have z4 : 4 < n := by omega
  have i4 : (4 : Int) < (n : Int) := by omega
  have x5 := hs.byte (k := 5) (by omega)
  have z5 : 5 < n := by omega
  have i5 : (5 : Int) < (n : Int) := by omega
  simp only [Nat.add_zero, List.getD_cons_zero, List.getD_cons_succ] at x0 x1 x2 x3 x4 x5
  have ha := a.toNat_lt
  have hb := b.toNat_lt
  have hc0 := c0.toNat_lt
  have hc1 := c1.toNat_lt
  have hd0 := d0.toNat_lt
  have hd1 := d1.toNat_lt
  have hst2 := (hs.drop_ (k := 2) (by omega)).take_ (k := 2) (by omega)
  have hst4 := (hs.drop_ (k := 4) (by omega)).take_ (k := 2) (by omega)
  have hn2 : Lib.beNat (((a :: b :: c0 :: c1 :: d0 :: d1 :: pay).drop 2).take 2) = c0.toNat * 256 + c1.toNat := by simp only [List.drop_succ_cons, List.drop_zero, List.take_succ_cons, List.take_zero, beNat_two]
  have hn4 : Lib.beNat (((a :: b :: c0 :: c1 :: d0 :: d1 :: pay).drop 4).take 2) = d0.toNat * 256 + d1.toNat := by simp only [List.drop_succ_cons, List.drop_zero, List.take_succ_cons, List.take_zero, beNat_two]
  obtain ⟨A4, cut4, cs4, cf4⟩ := cut_mid g o n c 6 (6 + (d0.toNat * 256 + d1.toNat)) .i64 .i64 6 (6 + ((d0.toNat * 256 + d1.toNat : Nat) : Int)) rfl (by omega) (by omega) (by omega)
  have hpl := cs4 w B0 _ (by omega) hs
  simp only [List.drop_succ_cons, List.drop_zero, Nat.add_sub_cancel_left] at hpl cut4
  have hN2 : c0.toNat * 256 + c1.toNat < 65536 := by omega
  have hN4 : d0.toNat * 256 + d1.toNat < 65536 := by omega
  generalize d0.toNat * 256 + d1.toNat = N4 at *
  generalize c0.toNat * 256 + c1.toNat = N2 at *
  generalize hxs : a :: b :: c0 :: c1 :: d0 :: d1 :: pay = xs at *
  generalize a.toNat = na at *
  generalize b.toNat = nb at *
  have q0 := m8_15 na (by omega)
  have p0 : na / 16 < 256 := by omega
  have p1 : na % 16 < 256 := by omega
  have e0 : (na : Int) / 16 = ((na / 16 : Nat) : Int) := by omega
  generalize na / 16 = m0 at *
  generalize na % 16 = m1 at *
  have u0 : IntKind.u64.wrap (m0 : Int) = m0 := IntWalk.u64_in _ (by omega)
  have u1 : IntKind.u64.wrap (m1 : Int) = m1 := IntWalk.u64_in _ (by omega)
  have u2 : IntKind.u64.wrap (nb : Int) = nb := IntWalk.u64_in _ (by omega)
  have u4 : IntKind.u64.wrap (N4 : Int) = N4 := IntWalk.u64_in _ (by omega)
  have v4 : IntKind.i64.wrap (N4 : Int) = N4 := IntWalk.i64_in _ (by omega)
  have v6 : IntKind.i64.wrap (6 + (N4 : Int)) = 6 + N4 := IntWalk.i64_in _ (by omega)
  have jc : (6 : Int) ≤ (c : Int) := by omega
  have jc4 : (4 : Int) ≤ (c : Int) := by omega
  have jn : (6 : Int) ≤ (n : Int) := by omega
  have jz2 : ¬ (c : Int) = 2 := by omega
  have jy2 : ¬ c = 2 := by omega
  have jz4 : ¬ (c : Int) = 4 := by omega
  have jy4 : ¬ c = 4 := by omega
  have HS := Lib.hid hs
  have HST2 := Lib.hid hst2
  have HST4 := Lib.hid hst4
  have HPL := Lib.hid hpl
  have HF4 := Lib.hid cf4
  have HN2 := Lib.hid hn2
  have HN4 := Lib.hid hn4
  clear hs hst2 hst4 hpl cs4 cf4 hn2 hn4 hxs
  have t4 : decide ((n : Int) - 6 < (N4 : Int)) = false := by simp; omega
  go_enter Tryz.func42, Tryz.ntmps42
  go_wp2_with fail
  obtain ⟨W1, hW1⟩ : ∃ W1, W1 = w.alloc (.cells #[.slice none 0 0, .slice none 0 0, .slice none 0 0, .slice none 0 0] 27) := ⟨_, rfl⟩
  rw [← hW1]
  have hbk : Bk W1 w.heap.size 27 [.slice none 0 0, .slice none 0 0, .slice none 0 0, .slice none 0 0] := by rw [hW1]; exact Bk.new _ _ _
  have hbe1 : Below w.heap.size w W1 := by rw [hW1]; exact (Below.refl _ _).alloc (Nat.le_refl _) _
  have hsz : w.heap.size + 1 ≤ W1.heap.size := by rw [hW1]; simp
  have HBK := Lib.hid hbk
  have HBE := Lib.hid hbe1
  have HS1 := Lib.hid (HS.out.below (hbe1.mono hB0))
  have hgW : g < W1.heap.size := by omega
  have hgb : g ≠ w.heap.size := by omega
  have x0 := (low_below (g := g) (i := o) hbe1 hgw).trans x0
  have x1 := (low_below (g := g) (i := o + 1) hbe1 hgw).trans x1
  have HST2 := Lib.hid (HST2.out.below (hbe1.mono hB0))
  have HST4 := Lib.hid (HST4.out.below (hbe1.mono hB0))
  clear hW1 hbk hbe1
  refine (num_sl _ 2 _ B0 ((xs.drop 4).take 2) _ (by omega) HST4.out).mono ?_
  rintro e w1 ⟨rfl, rfl⟩
  rw [HN4.out]
  go_wp2_with fail
  go_region_held3 (fun w' => w'.cell? ⟨g, o, none⟩ = some (.int .u8 na) ∧ w'.cell? ⟨g, o + 1, none⟩ = some (.int .u8 nb))
    (first | with_reducible exact ⟨y0, y1⟩ | with_reducible exact ⟨low_drew.trans x0, low_drew.trans x1⟩ | with_reducible exact ⟨(low_alloc hgW).trans x0, (low_alloc hgW).trans x1⟩ | exact ⟨(set4_low hgb).trans y0, (set4_low hgb).trans y1⟩)
    ((first | (go_at_call 46; (first | (refine (num_still _ 2 _ B0 ((xs.drop 2).take 2) _ (by omega) (HST2.out.below (Below.refl _ _).drew)).mono ?_; rintro e w' ⟨rfl, rfl⟩; rw [HN2.out]))) | (go_at_call 45; obtain ⟨cs, hcs⟩ : ∃ cs : List Value, cs = [.int .u64 m0, .int .u64 m1, .int .u64 nb, .int .u64 N2, .int .u64 N4] := ⟨_, rfl⟩; rw [← hcs]; refine (layer_any _ _ _ _ _ _ _ _ rfl rfl _).mono ?_; rintro e w23 ⟨rfl, hb23⟩; have hbk2 := (HBK.out.alloc (.cells cs.toArray 46)).drew.below hb23 (by simp; omega); have k0 := hbk2.cell 0; have k1 := hbk2.cell 1; have k2 := hbk2.cell 2; have k3 := hbk2.cell 3; simp only [List.getElem?_cons_zero, List.getElem?_cons_succ] at k0 k1 k2 k3; have f0 := hbk2.frozen 0; have f1 := hbk2.frozen 1; have f2 := hbk2.frozen 2; have f3 := hbk2.frozen 3; have y0 := (low_below (g := g) (i := o) hb23 (by simp; omega)).trans ((low_alloc hgW).trans x0); have y1 := (low_below (g := g) (i := o + 1) hb23 (by simp; omega)).trans ((low_alloc hgW).trans x1))))
  have HB23 := Lib.hid hb23
  have HCS := Lib.hid hcs
  have HBK2 := Lib.hid hbk2
  clear hbk2 hb23 hcs
  go_wp2_with fail
  have hlA : Below w.heap.size w (W1.alloc (.cells cs.toArray 46)).drew := (HBE.out.alloc (by omega) _).drew
  have hl23 : Below w.heap.size w w23 := hlA.trans (HB23.out.mono hlA.size)
  have hN3 : Sl w23 w23.heap.size (some ⟨W1.heap.size, 0, none⟩) 5 (ncs [m0, m1, nb, N2, N4]) := (((Sl.new (w := W1) (t := 46) (cs := cs) (n := 5) (by rw [HCS.out]; rfl)).keep (fun _ _ => rfl) : Sl (W1.alloc (.cells cs.toArray 46)).drew _ _ _ _).below (HB23.out.mono (by simp))).more (by have := HB23.out.size; simpa using this) |>.cast (by rw [HCS.out]; simp [ncs])
  have hP3 : Sl w23 w23.heap.size A4 (N4) (bcs (pay.take N4)) := (((HPL.out.cast rfl).more hB0).below hl23).more hl23.size
  have hLL := LyrF.plain (B0 := B0) (B1 := w.heap.size + 1) (cN := 5) (cB := c - 6) hN3 hP3 (Fr2.new (by omega)) (cut_fr hg HF4.out)
  have hfin := read_end (w := w) hLL hl23 hB0 (Nat.lt_succ_self _) (Nat.le_refl _)
  obtain ⟨z0, z1, z2, z3⟩ := set4_cells HBK2.out (.slice (some ⟨W1.heap.size, 0, none⟩) 5 5) (.slice none 0 0) (.slice none 0 0) (.slice A4 (N4) (c - 6))
  exact bodyPost_ret (v := .tuple #[.agg #[.slice (some ⟨W1.heap.size, 0, none⟩) 5 5, .slice none 0 0, .slice none 0 0, .slice A4 (N4) (c - 6)], .bool true, .bool true]) (by simp [results, Tryz.results42, go_sem, z0, z1, z2, z3]) rfl (hR.out _ _ ⟨_, rfl, hfin.1, hfin.2.more (Nat.le_refl _) (Nat.le_refl _) (by omega)⟩)
set_option maxRecDepth 1000000 in
set_option maxHeartbeats 10000000 in
theorem srd_pppoe_no (a b c0 c1 d0 d1 : UInt8) (pay : List UInt8) (hd : pay.length < d0.toNat * 256 + d1.toNat) (hn9 : pay.length ≤ 900) : SrdNo 42 (a :: b :: c0 :: c1 :: d0 :: d1 :: pay) := by
  intro A n c B0 w hs hB0 hnc
  refine calls_hid fun R hR => ?_
  have hl : (a :: b :: c0 :: c1 :: d0 :: d1 :: pay).length = n := by rw [← bcs_length]; exact hs.1
  simp only [List.length_cons] at hl
  obtain ⟨g, o, rfl, hg, _⟩ := hs.2 (by omega)
  have hgw : g < w.heap.size := by omega
  have x0 := hs.byte (k := 0) (by omega)
  have z0 : 0 < n := by omega
  have i0 : (0 : Int) < (n : Int) := by omega
  have x1 := hs.byte (k := 1) (by omega)
  have z1 : 1 < n := by omega
  have i1 : (1 : Int) < (n : Int) := by omega
  have x2 := hs.byte (k := 2) (by omega)
  have z2 : 2 < n := by omega
  have i2 : (2 : Int) < (n : Int) := by omega
  have x3 := hs.byte (k := 3) (by omega)
  have z3 : 3 < n := by omega
  have i3 : (3 : Int) < (n : Int) := by omega
  have x4 := hs.byte (k := 4) (by omega)
  have z4 : 4 < n := by omega
  have i4 : (4 : Int) < (n : Int) := by omega
  have x5 := hs.byte (k := 5) (by omega)
  have z5 : 5 < n := by omega
  have i5 : (5 : Int) < (n : Int) := by omega
  simp only [Nat.add_zero, List.getD_cons_zero, List.getD_cons_succ] at x0 x1 x2 x3 x4 x5
  have ha := a.toNat_lt
  have hb := b.toNat_lt
  have hc0 := c0.toNat_lt
  have hc1 := c1.toNat_lt
  have hd0 := d0.toNat_lt
  have hd1 := d1.toNat_lt
  have hst2 := (hs.drop_ (k := 2) (by omega)).take_ (k := 2) (by omega)
  have hst4 := (hs.drop_ (k := 4) (by omega)).take_ (k := 2) (by omega)
  have hn2 : Lib.beNat (((a :: b :: c0 :: c1 :: d0 :: d1 :: pay).drop 2).take 2) = c0.toNat * 256 + c1.toNat := by simp only [List.drop_succ_cons, List.drop_zero, List.take_succ_cons, List.take_zero, beNat_two]
  have hn4 : Lib.beNat (((a :: b :: c0 :: c1 :: d0 :: d1 :: pay).drop 4).take 2) = d0.toNat * 256 + d1.toNat := by simp only [List.drop_succ_cons, List.drop_zero, List.take_succ_cons, List.take_zero, beNat_two]
  have hN2 : c0.toNat * 256 + c1.toNat < 65536 := by omega
  have hN4 : d0.toNat * 256 + d1.toNat < 65536 := by omega
  generalize d0.toNat * 256 + d1.toNat = N4 at *
  generalize c0.toNat * 256 + c1.toNat = N2 at *
  generalize hxs : a :: b :: c0 :: c1 :: d0 :: d1 :: pay = xs at *
  generalize a.toNat = na at *
  generalize b.toNat = nb at *
  have q0 := m8_15 na (by omega)
  have p0 : na / 16 < 256 := by omega
  have p1 : na % 16 < 256 := by omega
  have e0 : (na : Int) / 16 = ((na / 16 : Nat) : Int) := by omega
  generalize na / 16 = m0 at *
  generalize na % 16 = m1 at *
  have u0 : IntKind.u64.wrap (m0 : Int) = m0 := IntWalk.u64_in _ (by omega)
  have u1 : IntKind.u64.wrap (m1 : Int) = m1 := IntWalk.u64_in _ (by omega)
  have u2 : IntKind.u64.wrap (nb : Int) = nb := IntWalk.u64_in _ (by omega)
  have u4 : IntKind.u64.wrap (N4 : Int) = N4 := IntWalk.u64_in _ (by omega)
  have v4 : IntKind.i64.wrap (N4 : Int) = N4 := IntWalk.i64_in _ (by omega)
  have v6 : IntKind.i64.wrap (6 + (N4 : Int)) = 6 + N4 := IntWalk.i64_in _ (by omega)
  have jc : (6 : Int) ≤ (c : Int) := by omega
  have jc4 : (4 : Int) ≤ (c : Int) := by omega
  have jn : (6 : Int) ≤ (n : Int) := by omega
  have jz2 : ¬ (c : Int) = 2 := by omega
  have jy2 : ¬ c = 2 := by omega
  have jz4 : ¬ (c : Int) = 4 := by omega
  have jy4 : ¬ c = 4 := by omega
  have HS := Lib.hid hs
  have HST4 := Lib.hid hst4
  have HN4 := Lib.hid hn4
  clear hs hst2 hst4 hn2 hn4 hxs
  have t4 : decide ((n : Int) - 6 < (N4 : Int)) = true := by simp; omega
  go_enter Tryz.func42, Tryz.ntmps42
  go_wp2_with fail
  obtain ⟨W1, hW1⟩ : ∃ W1, W1 = w.alloc (.cells #[.slice none 0 0, .slice none 0 0, .slice none 0 0, .slice none 0 0] 27) := ⟨_, rfl⟩
  rw [← hW1]
  have hbk : Bk W1 w.heap.size 27 [.slice none 0 0, .slice none 0 0, .slice none 0 0, .slice none 0 0] := by rw [hW1]; exact Bk.new _ _ _
  have hbe1 : Below w.heap.size w W1 := by rw [hW1]; exact (Below.refl _ _).alloc (Nat.le_refl _) _
  have hsz : w.heap.size + 1 ≤ W1.heap.size := by rw [hW1]; simp
  have HBK := Lib.hid hbk
  have HBE := Lib.hid hbe1
  have HS1 := Lib.hid (HS.out.below (hbe1.mono hB0))
  have hgW : g < W1.heap.size := by omega
  have hgb : g ≠ w.heap.size := by omega
  have x0 := (low_below (g := g) (i := o) hbe1 hgw).trans x0
  have x1 := (low_below (g := g) (i := o + 1) hbe1 hgw).trans x1
  have HST4 := Lib.hid (HST4.out.below (hbe1.mono hB0))
  have k0 := hbk.cell 0
  have k1 := hbk.cell 1
  have k2 := hbk.cell 2
  have k3 := hbk.cell 3
  simp only [List.getElem?_cons_zero, List.getElem?_cons_succ] at k0 k1 k2 k3
  have f0 := hbk.frozen 0
  have f1 := hbk.frozen 1
  have f2 := hbk.frozen 2
  have f3 := hbk.frozen 3
  clear hW1 hbk hbe1
  refine (num_sl _ 2 _ B0 ((xs.drop 4).take 2) _ (by omega) HST4.out).mono ?_
  rintro e w1 ⟨rfl, rfl⟩
  rw [HN4.out]
  go_wp2_with fail
  obtain ⟨z0, z1, z2, z3⟩ := set4_cells HBK.out (.slice none 0 0) (.slice none 0 0) (.slice none 0 0) (.slice none 0 0)
  have hfb := set4_below HBE.out w.heap.size (Nat.le_refl _) (.slice none 0 0) (.slice none 0 0) (.slice none 0 0) (.slice none 0 0)
  have hfs := set4_bk HBK.out (.slice none 0 0) (.slice none 0 0) (.slice none 0 0) (.slice none 0 0)
  exact bodyPost_ret (v := .tuple #[.agg #[.slice none 0 0, .slice none 0 0, .slice none 0 0, .slice none 0 0], .bool false, .bool true]) (by simp [results, Tryz.results42, go_sem, z0, z1, z2, z3]) rfl (hR.out _ _ ⟨rfl, hfb⟩)
end Go.Proofs.YtphmklgbbpiafaaGreat
