/-
  LLC: the reference's reader. No condition.
-/
import Derived.Deep.RegionHeld3
import Derived.Test.YtphmklgbbpiafaaGreatSrdA
import Derived.Test.YtphmklgbbpiafaaGreatMskA
import Derived.Test.YtphmklgbbpiafaaGreatBytesL
namespace Go.Proofs.YtphmklgbbpiafaaGreat
open Go Go.RowKit
set_option linter.unusedVariables false
set_option linter.unusedSimpArgs false
attribute [local go_sem] sd_drewN ad_drewN
set_option maxRecDepth 1000000 in
set_option maxHeartbeats 10000000 in
theorem srd_llc_s (a b c0 : UInt8) (pay : List UInt8) (hm : c0.toNat % 4 = 3) : Srd 44 (a :: b :: c0 :: pay) [a.toNat / 2 * 2, a.toNat % 2, b.toNat / 2 * 2, b.toNat % 2, c0.toNat] [] pay := by
  intro A n c B0 B1 w hs hB0 hB1 hnc
  refine calls_hid fun R hR => ?_
  have hl : (a :: b :: c0 :: pay).length = n := by rw [← bcs_length]; exact hs.1
  simp only [List.length_cons] at hl
  obtain ⟨g, o, rfl, hg, _⟩ := hs.2 (by omega)
  have hgw : g < w.heap.size := by omega
  have x0 := hs.byte (k := 0) (by omega)
  have z0 : 0 < n := by omega
  have i0 : (0 : Int) < (n : Int) := by omega
  have x1 := hs.byte (k := 1) (by omega)
  have z1 : 1 < n := by omega
  have i1 : (1 : Int) < (n : Int) := by omega
  have x2 := hs.byte (k := 2) (by omega)
  have z2 : 2 < n := by omega
  have i2 : (2 : Int) < (n : Int) := by omega
  simp only [Nat.add_zero, List.getD_cons_zero, List.getD_cons_succ] at x0 x1 x2
  have ha := a.toNat_lt
  have hb := b.toNat_lt
  have hc0 := c0.toNat_lt
  obtain ⟨A4, cut4, cs4, cf4⟩ := cut_from g o n c 3 3 rfl (by omega) hnc
  have hpl := cs4 w B0 _ hs
  simp only [List.drop_succ_cons, List.drop_zero] at hpl
  have hst := (hs.drop_ (k := 2) (by omega)).take_ (k := 1) (by omega)
  have hnum : Lib.beNat (((a :: b :: c0 :: pay).drop 2).take 1) = c0.toNat := by simp only [List.drop_succ_cons, List.drop_zero, List.take_succ_cons, List.take_zero]; simp [Lib.beNat, Lib.beFrom]
  generalize hxs : a :: b :: c0 :: pay = xs at *
  generalize a.toNat = na at *
  generalize b.toNat = nb at *
  generalize c0.toNat = nc0 at *
  have q0 := m8_254 na (by omega)
  have q1 := m8_1 na (by omega)
  have q2 := m8_254 nb (by omega)
  have q3 := m8_1 nb (by omega)
  have q4 := m8_3 nc0 (by omega)
  have p0 : na / 2 * 2 < 256 := by omega
  have p1 : na % 2 < 256 := by omega
  have p2 : nb / 2 * 2 < 256 := by omega
  have p3 : nb % 2 < 256 := by omega
  generalize na / 2 * 2 = m0 at *
  generalize na % 2 = m1 at *
  generalize nb / 2 * 2 = m2 at *
  generalize nb % 2 = m3 at *
  rw [hm] at q4
  have q5 : bits .and .u8 (nc0 : Int) 3 = 3 := q4
  clear q4
  have u0 : IntKind.u64.wrap (m0 : Int) = m0 := IntWalk.u64_in _ (by omega)
  have u1 : IntKind.u64.wrap (m1 : Int) = m1 := IntWalk.u64_in _ (by omega)
  have u2 : IntKind.u64.wrap (m2 : Int) = m2 := IntWalk.u64_in _ (by omega)
  have u3 : IntKind.u64.wrap (m3 : Int) = m3 := IntWalk.u64_in _ (by omega)
  have HS := Lib.hid hs
  have HST := Lib.hid hst
  have HPL := Lib.hid hpl
  have HF4 := Lib.hid cf4
  have HN := Lib.hid hnum
  clear hs hst hpl cs4 cf4 hnum hxs hm
  have jc : (3 : Int) ≤ (c : Int) := by omega
  have jn : (3 : Int) ≤ (n : Int) := by omega
  have jz : ¬ (c : Int) = 2 := by omega
  have jy : ¬ c = 2 := by omega
  have t4 : decide ((n : Int) < 3) = false := by simp; omega
  go_enter Tryz.func44, Tryz.ntmps44
  go_wp2_with fail
  obtain ⟨W1, hW1⟩ : ∃ W1, W1 = w.alloc (.cells #[.slice none 0 0, .slice none 0 0, .slice none 0 0, .slice none 0 0] 27) := ⟨_, rfl⟩
  rw [← hW1]
  have hbk : Bk W1 w.heap.size 27 [.slice none 0 0, .slice none 0 0, .slice none 0 0, .slice none 0 0] := by rw [hW1]; exact Bk.new _ _ _
  have hbe1 : Below w.heap.size w W1 := by rw [hW1]; exact (Below.refl _ _).alloc (Nat.le_refl _) _
  have hsz : w.heap.size + 1 ≤ W1.heap.size := by rw [hW1]; simp
  have HBK := Lib.hid hbk
  have HBE := Lib.hid hbe1
  have HS1 := Lib.hid (HS.out.below (hbe1.mono hB0))
  have hgW : g < W1.heap.size := by omega
  have hgb : g ≠ w.heap.size := by omega
  have x0 := (low_below (g := g) (i := o) hbe1 hgw).trans x0
  have x1 := (low_below (g := g) (i := o + 1) hbe1 hgw).trans x1
  have HST1 := Lib.hid (HST.out.below (hbe1.mono hB0))
  clear hW1 hbk hbe1
  go_region_held3 (fun w' => w'.cell? ⟨g, o, none⟩ = some (.int .u8 na) ∧ w'.cell? ⟨g, o + 1, none⟩ = some (.int .u8 nb))
    (first | with_reducible exact ⟨y0, y1⟩ | with_reducible exact ⟨low_drew.trans x0, low_drew.trans x1⟩ | with_reducible exact ⟨(low_alloc hgW).trans x0, (low_alloc hgW).trans x1⟩ | exact ⟨(set4_low hgb).trans y0, (set4_low hgb).trans y1⟩)
    ((first | (go_at_call 46; (first | (refine (num_still _ 1 _ B0 ((xs.drop 2).take 1) _ (by omega) (HST1.out.below (Below.refl _ _).drew)).mono ?_; rintro e w' ⟨rfl, rfl⟩; rw [HN.out]))) | (go_at_call 45; obtain ⟨cs, hcs⟩ : ∃ cs : List Value, cs = [.int .u64 m0, .int .u64 m1, .int .u64 m2, .int .u64 m3, .int .u64 nc0] := ⟨_, rfl⟩; rw [← hcs]; refine (layer_any _ _ _ _ _ _ _ _ rfl rfl _).mono ?_; rintro e w23 ⟨rfl, hb23⟩; have hbk2 := (HBK.out.alloc (.cells cs.toArray 46)).drew.below hb23 (by simp; omega); have k0 := hbk2.cell 0; have k1 := hbk2.cell 1; have k2 := hbk2.cell 2; have k3 := hbk2.cell 3; simp only [List.getElem?_cons_zero, List.getElem?_cons_succ] at k0 k1 k2 k3; have f0 := hbk2.frozen 0; have f1 := hbk2.frozen 1; have f2 := hbk2.frozen 2; have f3 := hbk2.frozen 3; have y0 := (low_below (g := g) (i := o) hb23 (by simp; omega)).trans ((low_alloc hgW).trans x0); have y1 := (low_below (g := g) (i := o + 1) hb23 (by simp; omega)).trans ((low_alloc hgW).trans x1))))
  have HB23 := Lib.hid hb23
  have HCS := Lib.hid hcs
  have HBK2 := Lib.hid hbk2
  clear hbk2 hb23 hcs
  go_wp2_with fail
  have hlA : Below w.heap.size w (W1.alloc (.cells cs.toArray 46)).drew := (HBE.out.alloc (by omega) _).drew
  have hl23 : Below w.heap.size w w23 := hlA.trans (HB23.out.mono hlA.size)
  have hN3 : Sl w23 w23.heap.size (some ⟨W1.heap.size, 0, none⟩) 5 (ncs [m0, m1, m2, m3, nc0]) := (((Sl.new (w := W1) (t := 46) (cs := cs) (n := 5) (by rw [HCS.out]; rfl)).keep (fun _ _ => rfl) : Sl (W1.alloc (.cells cs.toArray 46)).drew _ _ _ _).below (HB23.out.mono (by simp))).more (by have := HB23.out.size; simpa using this) |>.cast (by rw [HCS.out]; simp [ncs])
  have hP3 : Sl w23 w23.heap.size A4 (n - 3) (bcs pay) := (((HPL.out.cast rfl).more hB0).below hl23).more hl23.size
  have hLL := LyrF.plain (B0 := B0) (B1 := w.heap.size + 1) (cN := 5) (cB := c - 3) hN3 hP3 (Fr2.new (by omega)) (cut_fr hg HF4.out)
  have hfin := read_end (w := w) hLL hl23 hB0 (Nat.lt_succ_self _) (Nat.le_refl _)
  obtain ⟨z0, z1, z2, z3⟩ := set4_cells HBK2.out (.slice (some ⟨W1.heap.size, 0, none⟩) 5 5) (.slice none 0 0) (.slice none 0 0) (.slice A4 (n - 3) (c - 3))
  exact bodyPost_ret (v := .tuple #[.agg #[.slice (some ⟨W1.heap.size, 0, none⟩) 5 5, .slice none 0 0, .slice none 0 0, .slice A4 (n - 3) (c - 3)], .bool true, .bool true]) (by simp [results, Tryz.results44, go_sem, z0, z1, z2, z3]) rfl (hR.out _ _ ⟨_, rfl, hfin.1, hfin.2.more (Nat.le_refl _) (Nat.le_refl _) (by omega)⟩)
set_option maxRecDepth 1000000 in
set_option maxHeartbeats 10000000 in
theorem srd_llc_l (a b c0 d : UInt8) (pay : List UInt8) (hm : c0.toNat % 4 ≠ 3) : Srd 44 (a :: b :: c0 :: d :: pay) [a.toNat / 2 * 2, a.toNat % 2, b.toNat / 2 * 2, b.toNat % 2, c0.toNat * 256 + d.toNat] [] pay := by
  intro A n c B0 B1 w hs hB0 hB1 hnc
  refine calls_hid fun R hR => ?_
  have hl : (a :: b :: c0 :: d :: pay).length = n := by rw [← bcs_length]; exact hs.1
  simp only [List.length_cons] at hl
  obtain ⟨g, o, rfl, hg, _⟩ := hs.2 (by omega)
  have hgw : g < w.heap.size := by omega
  have x0 := hs.byte (k := 0) (by omega)
  have z0 : 0 < n := by omega
  have i0 : (0 : Int) < (n : Int) := by omega
  have x1 := hs.byte (k := 1) (by omega)
  have z1 : 1 < n := by omega
  have i1 : (1 : Int) < (n : Int) := by omega
  have x2 := hs.byte (k := 2) (by omega)
  have z2 : 2 < n := by omega
  have i2 : (2 : Int) < (n : Int) := by omega
  have x3 := hs.byte (k := 3) (by omega)
  have z3 : 3 < n := by omega
  have i3 : (3 : Int) < (n : Int) := by omega
  simp only [Nat.add_zero, List.getD_cons_zero, List.getD_cons_succ] at x0 x1 x2 x3
  have ha := a.toNat_lt
  have hb := b.toNat_lt
  have hc0 := c0.toNat_lt
  have hd := d.toNat_lt
  obtain ⟨A4, cut4, cs4, cf4⟩ := cut_from g o n c 4 4 rfl (by omega) hnc
  have hpl := cs4 w B0 _ hs
  simp only [List.drop_succ_cons, List.drop_zero] at hpl
  have hst := (hs.drop_ (k := 2) (by omega)).take_ (k := 2) (by omega)
  have hnum : Lib.beNat (((a :: b :: c0 :: d :: pay).drop 2).take 2) = c0.toNat * 256 + d.toNat := by simp only [List.drop_succ_cons, List.drop_zero, List.take_succ_cons, List.take_zero, beNat_two]
  generalize hxs : a :: b :: c0 :: d :: pay = xs at *
  generalize c0.toNat * 256 + d.toNat = N2 at *
  generalize a.toNat = na at *
  generalize b.toNat = nb at *
  generalize c0.toNat = nc0 at *
  generalize d.toNat = nd at *
  have q0 := m8_254 na (by omega)
  have q1 := m8_1 na (by omega)
  have q2 := m8_254 nb (by omega)
  have q3 := m8_1 nb (by omega)
  have q4 := m8_3 nc0 (by omega)
  have p0 : na / 2 * 2 < 256 := by omega
  have p1 : na % 2 < 256 := by omega
  have p2 : nb / 2 * 2 < 256 := by omega
  have p3 : nb % 2 < 256 := by omega
  generalize na / 2 * 2 = m0 at *
  generalize na % 2 = m1 at *
  generalize nb / 2 * 2 = m2 at *
  generalize nb % 2 = m3 at *
  have q5 : (bits .and .u8 (nc0 : Int) 3 == 3) = false := by rw [q4]; simp; omega
  have q6 : (bits .and .u8 (nc0 : Int) 3 != 3) = true := by rw [q4]; simp; omega
  clear q4
  have u0 : IntKind.u64.wrap (m0 : Int) = m0 := IntWalk.u64_in _ (by omega)
  have u1 : IntKind.u64.wrap (m1 : Int) = m1 := IntWalk.u64_in _ (by omega)
  have u2 : IntKind.u64.wrap (m2 : Int) = m2 := IntWalk.u64_in _ (by omega)
  have u3 : IntKind.u64.wrap (m3 : Int) = m3 := IntWalk.u64_in _ (by omega)
  have HS := Lib.hid hs
  have HST := Lib.hid hst
  have HPL := Lib.hid hpl
  have HF4 := Lib.hid cf4
  have HN := Lib.hid hnum
  clear hs hst hpl cs4 cf4 hnum hxs hm
  have jc : (4 : Int) ≤ (c : Int) := by omega
  have jn : (4 : Int) ≤ (n : Int) := by omega
  have jz : ¬ (c : Int) = 2 := by omega
  have jy : ¬ c = 2 := by omega
  have t4 : decide ((n : Int) < 4) = false := by simp; omega
  go_enter Tryz.func44, Tryz.ntmps44
  go_wp2_with fail
  obtain ⟨W1, hW1⟩ : ∃ W1, W1 = w.alloc (.cells #[.slice none 0 0, .slice none 0 0, .slice none 0 0, .slice none 0 0] 27) := ⟨_, rfl⟩
  rw [← hW1]
  have hbk : Bk W1 w.heap.size 27 [.slice none 0 0, .slice none 0 0, .slice none 0 0, .slice none 0 0] := by rw [hW1]; exact Bk.new _ _ _
  have hbe1 : Below w.heap.size w W1 := by rw [hW1]; exact (Below.refl _ _).alloc (Nat.le_refl _) _
  have hsz : w.heap.size + 1 ≤ W1.heap.size := by rw [hW1]; simp
  have HBK := Lib.hid hbk
  have HBE := Lib.hid hbe1
  have HS1 := Lib.hid (HS.out.below (hbe1.mono hB0))
  have hgW : g < W1.heap.size := by omega
  have hgb : g ≠ w.heap.size := by omega
  have x0 := (low_below (g := g) (i := o) hbe1 hgw).trans x0
  have x1 := (low_below (g := g) (i := o + 1) hbe1 hgw).trans x1
  have HST1 := Lib.hid (HST.out.below (hbe1.mono hB0))
  clear hW1 hbk hbe1
  go_region_held3 (fun w' => w'.cell? ⟨g, o, none⟩ = some (.int .u8 na) ∧ w'.cell? ⟨g, o + 1, none⟩ = some (.int .u8 nb))
    (first | with_reducible exact ⟨y0, y1⟩ | with_reducible exact ⟨low_drew.trans x0, low_drew.trans x1⟩ | with_reducible exact ⟨(low_alloc hgW).trans x0, (low_alloc hgW).trans x1⟩ | exact ⟨(set4_low hgb).trans y0, (set4_low hgb).trans y1⟩)
    ((first | (go_at_call 46; (first | (refine (num_still _ 2 _ B0 ((xs.drop 2).take 2) _ (by omega) (HST1.out.below (Below.refl _ _).drew)).mono ?_; rintro e w' ⟨rfl, rfl⟩; rw [HN.out]))) | (go_at_call 45; obtain ⟨cs, hcs⟩ : ∃ cs : List Value, cs = [.int .u64 m0, .int .u64 m1, .int .u64 m2, .int .u64 m3, .int .u64 N2] := ⟨_, rfl⟩; rw [← hcs]; refine (layer_any _ _ _ _ _ _ _ _ rfl rfl _).mono ?_; rintro e w23 ⟨rfl, hb23⟩; have hbk2 := (HBK.out.alloc (.cells cs.toArray 46)).drew.below hb23 (by simp; omega); have k0 := hbk2.cell 0; have k1 := hbk2.cell 1; have k2 := hbk2.cell 2; have k3 := hbk2.cell 3; simp only [List.getElem?_cons_zero, List.getElem?_cons_succ] at k0 k1 k2 k3; have f0 := hbk2.frozen 0; have f1 := hbk2.frozen 1; have f2 := hbk2.frozen 2; have f3 := hbk2.frozen 3; have y0 := (low_below (g := g) (i := o) hb23 (by simp; omega)).trans ((low_alloc hgW).trans x0); have y1 := (low_below (g := g) (i := o + 1) hb23 (by simp; omega)).trans ((low_alloc hgW).trans x1))))
  have HB23 := Lib.hid hb23
  have HCS := Lib.hid hcs
  have HBK2 := Lib.hid hbk2
  clear hbk2 hb23 hcs
  go_wp2_with fail
  have hlA : Below w.heap.size w (W1.alloc (.cells cs.toArray 46)).drew := (HBE.out.alloc (by omega) _).drew
  have hl23 : Below w.heap.size w w23 := hlA.trans (HB23.out.mono hlA.size)
  have hN3 : Sl w23 w23.heap.size (some ⟨W1.heap.size, 0, none⟩) 5 (ncs [m0, m1, m2, m3, N2]) := (((Sl.new (w := W1) (t := 46) (cs := cs) (n := 5) (by rw [HCS.out]; rfl)).keep (fun _ _ => rfl) : Sl (W1.alloc (.cells cs.toArray 46)).drew _ _ _ _).below (HB23.out.mono (by simp))).more (by have := HB23.out.size; simpa using this) |>.cast (by rw [HCS.out]; simp [ncs])
  have hP3 : Sl w23 w23.heap.size A4 (n - 4) (bcs pay) := (((HPL.out.cast rfl).more hB0).below hl23).more hl23.size
  have hLL := LyrF.plain (B0 := B0) (B1 := w.heap.size + 1) (cN := 5) (cB := c - 4) hN3 hP3 (Fr2.new (by omega)) (cut_fr hg HF4.out)
  have hfin := read_end (w := w) hLL hl23 hB0 (Nat.lt_succ_self _) (Nat.le_refl _)
  obtain ⟨z0, z1, z2, z3⟩ := set4_cells HBK2.out (.slice (some ⟨W1.heap.size, 0, none⟩) 5 5) (.slice none 0 0) (.slice none 0 0) (.slice A4 (n - 4) (c - 4))
  exact bodyPost_ret (v := .tuple #[.agg #[.slice (some ⟨W1.heap.size, 0, none⟩) 5 5, .slice none 0 0, .slice none 0 0, .slice A4 (n - 4) (c - 4)], .bool true, .bool true]) (by simp [results, Tryz.results44, go_sem, z0, z1, z2, z3]) rfl (hR.out _ _ ⟨_, rfl, hfin.1, hfin.2.more (Nat.le_refl _) (Nat.le_refl _) (by omega)⟩)
end Go.Proofs.YtphmklgbbpiafaaGreat
