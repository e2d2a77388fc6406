/-
  Loopback: the reference's reader. No condition.
-/
import Derived.Deep.RegionHeld3
import Derived.Test.YtphmklgbbpiafaaGreatSrdA
import Derived.Test.YtphmklgbbpiafaaGreatBytesL
namespace Go.Proofs.YtphmklgbbpiafaaGreat
open Go Go.RowKit
set_option linter.unusedVariables false
set_option linter.unusedSimpArgs false
attribute [local go_sem] sd_drewN ad_drewN
set_option maxRecDepth 1000000 in
set_option maxHeartbeats 10000000 in
theorem srd_loopback (n0 : Nat) (h0 : n0 < 256) (xs : List UInt8) (h4 : 4 ≤ xs.length) (e0 : (xs.getD 0 0).toNat = n0) (e1 : (xs.getD 1 0).toNat = 0) (e2 : (xs.getD 2 0).toNat = 0) (e3 : (xs.getD 3 0).toNat = 0) :
    Srd 47 xs [n0] [] (xs.drop 4) := by
  intro A n c B0 B1 w hs hB0 hB1 hnc
  refine calls_hid fun R hR => ?_
  have hl : xs.length = n := by rw [← bcs_length]; exact hs.1
  rw [hl] at h4
  obtain ⟨g, o, rfl, hg, _⟩ := hs.2 (by omega)
  obtain ⟨A4, cut4, cs4, cf4⟩ := cut_from g o n c 4 4 rfl (by omega) hnc
  have hgw : g < w.heap.size := by omega
  have x0 := hs.byte (k := 0) (by omega)
  have x1 := hs.byte (k := 1) (by omega)
  have x2 := hs.byte (k := 2) (by omega)
  have x3 := hs.byte (k := 3) (by omega)
  rw [e0] at x0
  rw [e1] at x1
  rw [e2] at x2
  rw [e3] at x3
  simp only [Nat.add_zero] at x0
  simp only [Int.natCast_zero] at x1 x2 x3
  have hbe : Lib.beNat (xs.take 4) = n0 * 16777216 := by
    match xs, hl with
    | a :: b :: c' :: d :: t, _ =>
      simp only [List.getD_cons_zero, List.getD_cons_succ] at e0 e1 e2 e3
      simp only [List.take_succ_cons, List.take_zero]
      simp [Lib.beNat, Lib.beFrom, e0, e1, e2, e3]
      omega
    | [], h => simp at h; omega
    | [_], h => simp at h; omega
    | [_, _], h => simp at h; omega
    | [_, _, _], h => simp at h; omega
  have HS := Lib.hid hs
  have HC4 := Lib.hid cs4
  have HF4 := Lib.hid cf4
  have HN := Lib.hid hbe
  clear hs cs4 cf4 hbe e0 e1 e2 e3
  have jc : (4 : Int) ≤ (c : Int) := by omega
  have jn : (4 : Int) ≤ (n : Int) := by omega
  have j0 : 0 < n := by omega
  have j1 : 1 < n := by omega
  have j2 : 2 < n := by omega
  have j3 : 3 < n := by omega
  have i1 : (1 : Int) < (n : Int) := by omega
  have i2 : (2 : Int) < (n : Int) := by omega
  have i3 : (3 : Int) < (n : Int) := by omega
  go_enter Tryz.func47, Tryz.ntmps47
  go_wp2_with fail
  obtain ⟨W1, hW1⟩ : ∃ W1, W1 = w.alloc (.cells #[.slice none 0 0, .slice none 0 0, .slice none 0 0, .slice none 0 0] 27) := ⟨_, rfl⟩
  rw [← hW1]
  have hbk : Bk W1 w.heap.size 27 [.slice none 0 0, .slice none 0 0, .slice none 0 0, .slice none 0 0] := by rw [hW1]; exact Bk.new _ _ _
  have hbe1 : Below w.heap.size w W1 := by rw [hW1]; exact (Below.refl _ _).alloc (Nat.le_refl _) _
  have hsz : w.heap.size + 1 ≤ W1.heap.size := by rw [hW1]; simp
  have HBK := Lib.hid hbk
  have HBE := Lib.hid hbe1
  have HS1 := Lib.hid (HS.out.below (hbe1.mono hB0))
  have x0 := (low_below (g := g) (i := o) hbe1 hgw).trans x0
  have x1 := (low_below (g := g) (i := o + 1) hbe1 hgw).trans x1
  have x2 := (low_below (g := g) (i := o + 2) hbe1 hgw).trans x2
  have x3 := (low_below (g := g) (i := o + 3) hbe1 hgw).trans x3
  clear hW1 hbk hbe1
  refine (num_sl _ 4 c B0 (xs.take 4) _ (by omega) (HS1.out.take_ (by omega))).mono ?_
  rintro e w1 ⟨rfl, rfl⟩
  rw [HN.out]
  by_cases hz : n0 = 0
  · subst hz
    simp only [Int.natCast_zero, Nat.zero_mul] at x0 ⊢
    go_wp2_with fail
    obtain ⟨cs, hcs⟩ : ∃ cs : List Value, cs = [.int .u64 0] := ⟨_, rfl⟩
    rw [← hcs]
    refine (layer_any _ _ _ _ _ _ _ _ rfl rfl _).mono ?_
    rintro e w23 ⟨rfl, hb23⟩
    have hbk2 := (HBK.out.alloc (.cells cs.toArray 46)).below hb23 (by simp; omega)
    have k0 := hbk2.cell 0
    have k1 := hbk2.cell 1
    have k2 := hbk2.cell 2
    have k3 := hbk2.cell 3
    simp only [List.getElem?_cons_zero, List.getElem?_cons_succ] at k0 k1 k2 k3
    have f0 := hbk2.frozen 0
    have f1 := hbk2.frozen 1
    have f2 := hbk2.frozen 2
    have f3 := hbk2.frozen 3
    have HB23 := Lib.hid hb23
    have HCS := Lib.hid hcs
    have HBK2 := Lib.hid hbk2
    clear hbk2 hb23 hcs
    go_wp2_with fail
    have hlA : Below w.heap.size w (W1.alloc (.cells cs.toArray 46)) := HBE.out.alloc (by first | omega | (simp; omega)) _
    have hl23 : Below w.heap.size w w23 := hlA.trans (HB23.out.mono hlA.size)
    have hN3 : Sl w23 w23.heap.size (some ⟨W1.heap.size, 0, none⟩) 1 (ncs [0]) := ((Sl.new (w := W1) (t := 46) (cs := cs) (n := 1) (by rw [HCS.out]; rfl)).below (HB23.out.mono (by simp))).more (by have := HB23.out.size; simpa using this) |>.cast (by rw [HCS.out]; simp [ncs])
    have hP3 : Sl w23 w23.heap.size A4 (n - 4) (bcs (xs.drop 4)) := (((HC4.out w _ xs HS.out).more hB0).below hl23).more hl23.size
    have hLL := LyrF.plain (B0 := B0) (B1 := w.heap.size + 1) (cN := 1) (cB := c - 4) hN3 hP3 (Fr2.new (by omega)) (cut_fr hg HF4.out)
    have hfin := read_end (w := w) hLL hl23 hB0 (Nat.lt_succ_self _) (Nat.le_refl _)
    obtain ⟨z0, z1, z2, z3⟩ := set4_cells HBK2.out (.slice (some ⟨W1.heap.size, 0, none⟩) 1 1) (.slice none 0 0) (.slice none 0 0) (.slice A4 (n - 4) (c - 4))
    exact bodyPost_ret (v := .tuple #[.agg #[.slice (some ⟨W1.heap.size, 0, none⟩) 1 1, .slice none 0 0, .slice none 0 0, .slice A4 (n - 4) (c - 4)], .bool true, .bool true]) (by simp [results, Tryz.results47, go_sem, z0, z1, z2, z3]) rfl (hR.out _ _ ⟨_, rfl, hfin.1, hfin.2.more (Nat.le_refl _) (Nat.le_refl _) (by omega)⟩)
  · have hnz : ((n0 : Int) != 0) = true := by simp; omega
    go_wp2_with fail
    refine wp_region_tail 12 (by kernel_rfl) (by kernel_rfl) ?_
    simp only [List.take_succ_cons, List.take_zero, List.drop_succ_cons, List.drop_zero]
    repeat still_step
    refine wpStill_nil ?_
    go_wp2_with fail
    have e8 : n0.toUInt8.toNat = n0 := by simp; omega
    have ebc : bcs [0, 0, 0, n0.toUInt8] = [.int .u8 0, .int .u8 0, .int .u8 0, .int .u8 n0] := by simp only [bcs, List.map_cons, List.map_nil, e8]; rfl
    obtain ⟨W2, hW2⟩ : ∃ W2, W2 = (W1.alloc (.cells #[.int .u8 0, .int .u8 0, .int .u8 0, .int .u8 n0] 5)).drew := ⟨_, rfl⟩
    rw [← hW2]
    have hs2 : Sl W2 (W1.heap.size + 1) (some ⟨W1.heap.size, 0, none⟩) 4 (bcs [0, 0, 0, n0.toUInt8]) := by
      rw [hW2, ebc]
      exact (Sl.new (w := W1) (t := 5) (cs := [.int .u8 0, .int .u8 0, .int .u8 0, .int .u8 n0]) (n := 4) rfl).keep (fun _ _ => rfl)
    have hbk2 : Bk W2 w.heap.size 27 [.slice none 0 0, .slice none 0 0, .slice none 0 0, .slice none 0 0] := by rw [hW2]; exact (HBK.out.alloc _).drew
    have hbe2 : Below w.heap.size w W2 := by rw [hW2]; exact (HBE.out.alloc (by omega) _).drew
    have hsz2 : w.heap.size + 1 ≤ W2.heap.size := by rw [hW2]; simp; omega
    have hnn : Lib.beNat [0, 0, 0, n0.toUInt8] = n0 := by rw [beNat_four, e8]; simp
    have HNN := Lib.hid hnn
    have HBK := Lib.hid hbk2
    have HBE := Lib.hid hbe2
    have t255 : decide ((255 : Int) < (n0 : Int)) = false := by simp; omega
    clear hW2 hbk2 hbe2 hnn ebc e8
    refine (num_sl _ 4 4 (W1.heap.size + 1) [0, 0, 0, n0.toUInt8] _ (by omega) hs2).mono ?_
    rintro e w3 ⟨rfl, rfl⟩
    rw [HNN.out]
    go_wp2_with fail
    obtain ⟨cs, hcs⟩ : ∃ cs : List Value, cs = [.int .u64 n0] := ⟨_, rfl⟩
    rw [← hcs]
    refine (layer_any _ _ _ _ _ _ _ _ rfl rfl _).mono ?_
    rintro e w23 ⟨rfl, hb23⟩
    have hbk2 := (HBK.out.alloc (.cells cs.toArray 46)).below hb23 (by simp; omega)
    have k0 := hbk2.cell 0
    have k1 := hbk2.cell 1
    have k2 := hbk2.cell 2
    have k3 := hbk2.cell 3
    simp only [List.getElem?_cons_zero, List.getElem?_cons_succ] at k0 k1 k2 k3
    have f0 := hbk2.frozen 0
    have f1 := hbk2.frozen 1
    have f2 := hbk2.frozen 2
    have f3 := hbk2.frozen 3
    have HB23 := Lib.hid hb23
    have HCS := Lib.hid hcs
    have HBK2 := Lib.hid hbk2
    clear hbk2 hb23 hcs
    go_wp2_with fail
    have hlA : Below w.heap.size w (W2.alloc (.cells cs.toArray 46)) := HBE.out.alloc (by first | omega | (simp; omega)) _
    have hl23 : Below w.heap.size w w23 := hlA.trans (HB23.out.mono hlA.size)
    have hN3 : Sl w23 w23.heap.size (some ⟨W2.heap.size, 0, none⟩) 1 (ncs [n0]) := ((Sl.new (w := W2) (t := 46) (cs := cs) (n := 1) (by rw [HCS.out]; rfl)).below (HB23.out.mono (by simp))).more (by have := HB23.out.size; simpa using this) |>.cast (by rw [HCS.out]; simp [ncs])
    have hP3 : Sl w23 w23.heap.size A4 (n - 4) (bcs (xs.drop 4)) := (((HC4.out w _ xs HS.out).more hB0).below hl23).more hl23.size
    have hLL := LyrF.plain (B0 := B0) (B1 := w.heap.size + 1) (cN := 1) (cB := c - 4) hN3 hP3 (Fr2.new (by omega)) (cut_fr hg HF4.out)
    have hfin := read_end (w := w) hLL hl23 hB0 (Nat.lt_succ_self _) (Nat.le_refl _)
    obtain ⟨z0, z1, z2, z3⟩ := set4_cells HBK2.out (.slice (some ⟨W2.heap.size, 0, none⟩) 1 1) (.slice none 0 0) (.slice none 0 0) (.slice A4 (n - 4) (c - 4))
    exact bodyPost_ret (v := .tuple #[.agg #[.slice (some ⟨W2.heap.size, 0, none⟩) 1 1, .slice none 0 0, .slice none 0 0, .slice A4 (n - 4) (c - 4)], .bool true, .bool true]) (by simp [results, Tryz.results47, go_sem, z0, z1, z2, z3]) rfl (hR.out _ _ ⟨_, rfl, hfin.1, hfin.2.more (Nat.le_refl _) (Nat.le_refl _) (by omega)⟩)
end Go.Proofs.YtphmklgbbpiafaaGreat
