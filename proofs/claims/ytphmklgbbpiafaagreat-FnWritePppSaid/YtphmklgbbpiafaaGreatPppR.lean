/-
  PPP: the reference's reader. No condition.
-/
import Derived.Deep.RegionHeld3
import Derived.Test.YtphmklgbbpiafaaGreatSrdA
import Derived.Test.YtphmklgbbpiafaaGreatCutC
import Derived.Test.YtphmklgbbpiafaaGreatMskA
import Derived.Test.YtphmklgbbpiafaaGreatBytesL
namespace Go.Proofs.YtphmklgbbpiafaaGreat
open Go Go.RowKit
set_option linter.unusedVariables false
set_option linter.unusedSimpArgs false
attribute [local go_sem] sd_drewN ad_drewN
set_option maxRecDepth 1000000 in
set_option maxHeartbeats 10000000 in
theorem srd_ppp0 (hi lo : UInt8) (pay : List UInt8) (he : hi.toNat % 2 = 0) (hlo : lo.toNat % 2 = 1) : Srd 43 (hi :: lo :: pay) [hi.toNat * 256 + lo.toNat, 0] [] pay := by
  intro A n c B0 B1 w hs hB0 hB1 hnc
  refine calls_hid fun R hR => ?_
  have hl : (hi :: lo :: pay).length = n := by rw [← bcs_length]; exact hs.1
  simp only [List.length_cons] at hl
  obtain ⟨g, o, rfl, hg, _⟩ := hs.2 (by omega)
  obtain ⟨A4, cut4, cs4, cf4⟩ := cut_from g o n c 2 2 rfl (by omega) hnc
  have hgw : g < w.heap.size := by omega
  have x0 := hs.byte (k := 0) (by omega)
  have x1 := hs.byte (k := 1) (by omega)
  simp only [Nat.add_zero, List.getD_cons_zero, List.getD_cons_succ] at x0 x1
  have h0 := hi.toNat_lt
  have h1 := lo.toNat_lt
  have hnum : Lib.beNat ((hi :: lo :: pay).take 2) = hi.toNat * 256 + lo.toNat := by simp only [List.take_succ_cons, List.take_zero, beNat_two]
  have hpl := cs4 w B0 _ hs
  simp only [List.drop_succ_cons, List.drop_zero] at hpl
  have epl : pay.length = n - 2 := by omega
  have hst := hs.take_ (k := 2) (by omega)
  generalize hxs : hi :: lo :: pay = xs at *
  generalize hi.toNat = a at *
  generalize lo.toNat = b at *
  have HS := Lib.hid hs
  have HST := Lib.hid hst
  have HPL := Lib.hid hpl
  have HF4 := Lib.hid cf4
  have HN := Lib.hid hnum
  clear hs hst hpl cs4 cf4 hnum hxs
  have jc : (2 : Int) ≤ (c : Int) := by omega
  have jn : (2 : Int) ≤ (n : Int) := by omega
  have j0 : 0 < n := by omega
  have j1 : 1 < n := by omega
  have i1 : (1 : Int) < (n : Int) := by omega
  have t1 : ((n : Int) == 1) = false := by simp; omega
  have t2 : decide ((2 : Int) ≤ (n : Int)) = true := by simp; omega
  have t3 : decide ((1 : Int) ≤ (n : Int)) = true := by simp; omega
  have t4 : decide ((n : Int) < 2) = false := by simp; omega
  have t5 : ((a : Int) == 255) = false := by simp; omega
  have q0 : bits .and .u8 (a : Int) 1 = 0 := by rw [m8_1 a (by omega), he]; rfl
  have q1 : bits .and .u8 (b : Int) 1 = 1 := by rw [m8_1 b (by omega), hlo]; rfl
  go_enter Tryz.func43, Tryz.ntmps43
  go_wp2_with fail
  obtain ⟨W1, hW1⟩ : ∃ W1, W1 = w.alloc (.cells #[.slice none 0 0, .slice none 0 0, .slice none 0 0, .slice none 0 0] 27) := ⟨_, rfl⟩
  rw [← hW1]
  have hbk : Bk W1 w.heap.size 27 [.slice none 0 0, .slice none 0 0, .slice none 0 0, .slice none 0 0] := by rw [hW1]; exact Bk.new _ _ _
  have hbe1 : Below w.heap.size w W1 := by rw [hW1]; exact (Below.refl _ _).alloc (Nat.le_refl _) _
  have hsz : w.heap.size + 1 ≤ W1.heap.size := by rw [hW1]; simp
  have HBK := Lib.hid hbk
  have HBE := Lib.hid hbe1
  have HS1 := Lib.hid (HS.out.below (hbe1.mono hB0))
  have HST1 := Lib.hid (HST.out.below (hbe1.mono hB0))
  clear hW1 hbk hbe1
  go_region_held3 (fun w' => True) (trivial) ((first | (go_at_call 46; (first | (refine (num_still _ 2 _ B0 (xs.take 2) _ (by omega) (HST1.out.below (Below.refl _ _).drew)).mono ?_; rintro e w' ⟨rfl, rfl⟩))) | (go_at_call 45; obtain ⟨cs, hcs⟩ : ∃ cs : List Value, cs = [.int .u64 ((Lib.beNat (xs.take 2) : Nat) : Int), .int .u64 0] := ⟨_, rfl⟩; rw [← hcs]; refine (layer_any _ _ _ _ _ _ _ _ rfl rfl _).mono ?_; rintro e w23 ⟨rfl, hb23⟩; have hbk2 := (HBK.out.alloc (.cells cs.toArray 46)).drew.below hb23 (by simp; omega); have k0 := hbk2.cell 0; have k1 := hbk2.cell 1; have k2 := hbk2.cell 2; have k3 := hbk2.cell 3; simp only [List.getElem?_cons_zero, List.getElem?_cons_succ] at k0 k1 k2 k3; have f0 := hbk2.frozen 0; have f1 := hbk2.frozen 1; have f2 := hbk2.frozen 2; have f3 := hbk2.frozen 3)))
  have HB23 := Lib.hid hb23
  have HCS := Lib.hid hcs
  have HBK2 := Lib.hid hbk2
  clear hbk2 hb23 hcs
  go_wp2_with fail
  have hlA : Below w.heap.size w (W1.alloc (.cells cs.toArray 46)).drew := (HBE.out.alloc (by omega) _).drew
  have hl23 : Below w.heap.size w w23 := hlA.trans (HB23.out.mono hlA.size)
  have hN3 : Sl w23 w23.heap.size (some ⟨W1.heap.size, 0, none⟩) 2 (ncs [a * 256 + b, 0]) := (((Sl.new (w := W1) (t := 46) (cs := cs) (n := 2) (by rw [HCS.out]; rfl)).keep (fun _ _ => rfl) : Sl (W1.alloc (.cells cs.toArray 46)).drew _ _ _ _).below (HB23.out.mono (by simp))).more (by have := HB23.out.size; simpa using this) |>.cast (by rw [HCS.out]; simp [ncs, HN.out])
  have hP3 : Sl w23 w23.heap.size A4 (n - 2) (bcs pay) := (((HPL.out.cast rfl).more hB0).below hl23).more hl23.size
  have hLL := LyrF.plain (B0 := B0) (B1 := w.heap.size + 1) (cN := 2) (cB := c - 2) hN3 hP3 (Fr2.new (by omega)) (cut_fr hg HF4.out)
  have hfin := read_end (w := w) hLL hl23 hB0 (Nat.lt_succ_self _) (Nat.le_refl _)
  obtain ⟨z0, z1, z2, z3⟩ := set4_cells HBK2.out (.slice (some ⟨W1.heap.size, 0, none⟩) 2 2) (.slice none 0 0) (.slice none 0 0) (.slice A4 (n - 2) (c - 2))
  exact bodyPost_ret (v := .tuple #[.agg #[.slice (some ⟨W1.heap.size, 0, none⟩) 2 2, .slice none 0 0, .slice none 0 0, .slice A4 (n - 2) (c - 2)], .bool true, .bool true]) (by simp [results, Tryz.results43, go_sem, z0, z1, z2, z3]) rfl (hR.out _ _ ⟨_, rfl, hfin.1, hfin.2.more (Nat.le_refl _) (Nat.le_refl _) (by omega)⟩)
set_option maxRecDepth 1000000 in
set_option maxHeartbeats 10000000 in
theorem srd_ppp1 (hi lo : UInt8) (pay : List UInt8) (he : hi.toNat % 2 = 0) (hlo : lo.toNat % 2 = 1) : Srd 43 (255 :: 3 :: hi :: lo :: pay) [hi.toNat * 256 + lo.toNat, 1] [] pay := by
  intro A n0 c0 B0 B1 w hs hB0 hB1 hnc
  refine calls_hid fun R hR => ?_
  have hl : (255 :: 3 :: hi :: lo :: pay).length = n0 := by rw [← bcs_length]; exact hs.1
  simp only [List.length_cons] at hl
  obtain ⟨n, rfl⟩ : ∃ n, n0 = n + 2 := ⟨n0 - 2, by omega⟩
  obtain ⟨c, rfl⟩ : ∃ c, c0 = c + 2 := ⟨c0 - 2, by omega⟩
  obtain ⟨g, o, rfl, hg, _⟩ := hs.2 (by omega)
  have cutA := cut_at g o n c 2 2 rfl (n + 2) (c + 2) rfl rfl (by omega) (by omega)
  obtain ⟨A4, cut4, cs4, cf4⟩ := cut_from g (o + 2) n c 2 2 rfl (by omega) (by omega)
  have hgw : g < w.heap.size := by omega
  have x0 := hs.byte (k := 0) (by omega)
  have x1 := hs.byte (k := 1) (by omega)
  have x2 := hs.byte (k := 2) (by omega)
  have x3 : w.cell? ⟨g, o + 2 + 1, none⟩ = some (.int .u8 lo.toNat) := hs.byte (k := 3) (by omega)
  simp only [Nat.add_zero, List.getD_cons_zero, List.getD_cons_succ] at x0 x1 x2
  have y0 : w.cell? ⟨g, o, none⟩ = some (.int .u8 255) := x0
  have y1 : w.cell? ⟨g, o + 1, none⟩ = some (.int .u8 3) := x1
  clear x0 x1
  have h0 := hi.toNat_lt
  have h1 := lo.toNat_lt
  have hs2 : Sl w B0 (some ⟨g, o + 2, none⟩) n (bcs (hi :: lo :: pay)) := hs.drop_ (k := 2) (by omega)
  have hnum : Lib.beNat ((hi :: lo :: pay).take 2) = hi.toNat * 256 + lo.toNat := by simp only [List.take_succ_cons, List.take_zero, beNat_two]
  have hpl := cs4 w B0 _ hs2
  simp only [List.drop_succ_cons, List.drop_zero] at hpl
  have hst := hs2.take_ (k := 2) (by omega)
  generalize hxs : hi :: lo :: pay = xs at *
  generalize hi.toNat = a at *
  generalize lo.toNat = b at *
  have HS := Lib.hid hs
  have HST := Lib.hid hst
  have HPL := Lib.hid hpl
  have HF4 := Lib.hid cf4
  have HN := Lib.hid hnum
  clear hs hs2 hst hpl cs4 cf4 hnum hxs
  have jc : (2 : Int) ≤ (c : Int) := by omega
  have jn : (2 : Int) ≤ (n : Int) := by omega
  have j0 : 0 < n := by omega
  have j1 : 1 < n := by omega
  have i1 : (1 : Int) < (n : Int) := by omega
  have j02 : 0 < n + 2 := by omega
  have j12 : 1 < n + 2 := by omega
  have i12 : (1 : Int) < (n : Int) + 2 := by omega
  have t0 : ((n : Int) + 2 == 1) = false := by simp; omega
  have t0' : decide ((2 : Int) ≤ (n : Int) + 2) = true := by simp; omega
  have t3 : decide ((1 : Int) ≤ (n : Int)) = true := by simp; omega
  have t4 : decide ((n : Int) < 2) = false := by simp; omega
  have q0 : bits .and .u8 (a : Int) 1 = 0 := by rw [m8_1 a (by omega), he]; rfl
  have q1 : bits .and .u8 (b : Int) 1 = 1 := by rw [m8_1 b (by omega), hlo]; rfl
  go_enter Tryz.func43, Tryz.ntmps43
  go_wp2_with fail
  obtain ⟨W1, hW1⟩ : ∃ W1, W1 = w.alloc (.cells #[.slice none 0 0, .slice none 0 0, .slice none 0 0, .slice none 0 0] 27) := ⟨_, rfl⟩
  rw [← hW1]
  have hbk : Bk W1 w.heap.size 27 [.slice none 0 0, .slice none 0 0, .slice none 0 0, .slice none 0 0] := by rw [hW1]; exact Bk.new _ _ _
  have hbe1 : Below w.heap.size w W1 := by rw [hW1]; exact (Below.refl _ _).alloc (Nat.le_refl _) _
  have hsz : w.heap.size + 1 ≤ W1.heap.size := by rw [hW1]; simp
  have HBK := Lib.hid hbk
  have HBE := Lib.hid hbe1
  have HS1 := Lib.hid (HS.out.below (hbe1.mono hB0))
  have HST1 := Lib.hid (HST.out.below (hbe1.mono hB0))
  clear hW1 hbk hbe1
  go_region_held3 (fun w' => True) (trivial) ((first | (go_at_call 46; (first | (refine (num_still _ 2 _ B0 (xs.take 2) _ (by omega) (HST1.out.below (Below.refl _ _).drew)).mono ?_; rintro e w' ⟨rfl, rfl⟩))) | (go_at_call 45; obtain ⟨cs, hcs⟩ : ∃ cs : List Value, cs = [.int .u64 ((Lib.beNat (xs.take 2) : Nat) : Int), .int .u64 1] := ⟨_, rfl⟩; rw [← hcs]; refine (layer_any _ _ _ _ _ _ _ _ rfl rfl _).mono ?_; rintro e w23 ⟨rfl, hb23⟩; have hbk2 := (HBK.out.alloc (.cells cs.toArray 46)).drew.below hb23 (by simp; omega); have k0 := hbk2.cell 0; have k1 := hbk2.cell 1; have k2 := hbk2.cell 2; have k3 := hbk2.cell 3; simp only [List.getElem?_cons_zero, List.getElem?_cons_succ] at k0 k1 k2 k3; have f0 := hbk2.frozen 0; have f1 := hbk2.frozen 1; have f2 := hbk2.frozen 2; have f3 := hbk2.frozen 3)))
  have HB23 := Lib.hid hb23
  have HCS := Lib.hid hcs
  have HBK2 := Lib.hid hbk2
  clear hbk2 hb23 hcs
  go_wp2_with fail
  have hlA : Below w.heap.size w (W1.alloc (.cells cs.toArray 46)).drew := (HBE.out.alloc (by omega) _).drew
  have hl23 : Below w.heap.size w w23 := hlA.trans (HB23.out.mono hlA.size)
  have hN3 : Sl w23 w23.heap.size (some ⟨W1.heap.size, 0, none⟩) 2 (ncs [a * 256 + b, 1]) := (((Sl.new (w := W1) (t := 46) (cs := cs) (n := 2) (by rw [HCS.out]; rfl)).keep (fun _ _ => rfl) : Sl (W1.alloc (.cells cs.toArray 46)).drew _ _ _ _).below (HB23.out.mono (by simp))).more (by have := HB23.out.size; simpa using this) |>.cast (by rw [HCS.out]; simp [ncs, HN.out])
  have hP3 : Sl w23 w23.heap.size A4 (n - 2) (bcs pay) := (((HPL.out.cast rfl).more hB0).below hl23).more hl23.size
  have hLL := LyrF.plain (B0 := B0) (B1 := w.heap.size + 1) (cN := 2) (cB := c - 2) hN3 hP3 (Fr2.new (by omega)) (cut_fr hg HF4.out)
  have hfin := read_end (w := w) hLL hl23 hB0 (Nat.lt_succ_self _) (Nat.le_refl _)
  obtain ⟨z0, z1, z2, z3⟩ := set4_cells HBK2.out (.slice (some ⟨W1.heap.size, 0, none⟩) 2 2) (.slice none 0 0) (.slice none 0 0) (.slice A4 (n - 2) (c - 2))
  exact bodyPost_ret (v := .tuple #[.agg #[.slice (some ⟨W1.heap.size, 0, none⟩) 2 2, .slice none 0 0, .slice none 0 0, .slice A4 (n - 2) (c - 2)], .bool true, .bool true]) (by simp [results, Tryz.results43, go_sem, z0, z1, z2, z3]) rfl (hR.out _ _ ⟨_, rfl, hfin.1, hfin.2.more (Nat.le_refl _) (Nat.le_refl _) (by omega)⟩)
end Go.Proofs.YtphmklgbbpiafaaGreat
