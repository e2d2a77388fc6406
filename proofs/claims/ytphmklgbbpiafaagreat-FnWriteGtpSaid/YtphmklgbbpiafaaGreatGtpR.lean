/-
  GTP: the reference's reader. No condition.
-/
import Derived.Deep.RegionHeld3
import Derived.Deep.Cut
import Derived.Test.YtphmklgbbpiafaaGreatSrdB
import Derived.Test.YtphmklgbbpiafaaGreatLayA
import Derived.Test.YtphmklgbbpiafaaGreatWritB
import Derived.Test.YtphmklgbbpiafaaGreatMskA
namespace Go.Proofs.YtphmklgbbpiafaaGreat
open Go Go.RowKit
set_option linter.unusedVariables false
set_option linter.unusedSimpArgs false
attribute [local go_sem] sd_drewN ad_drewN
set_option maxRecDepth 1000000 in
set_option maxHeartbeats 10000000 in
theorem srd_gtp (xs : List UInt8) (m0 : Nat) (hm0 : m0 < 8) (e0 : (xs.getD 0 0).toNat = m0 * 32 + 16) (hd : Lib.beNat ((xs.drop 2).take 2) ≤ xs.length - 8) (h4 : 8 ≤ xs.length) (hn : xs.length ≤ 1000) : Srd 52 xs [m0, 1, 0, 0, 0, 0, (xs.getD 1 0).toNat, Lib.beNat ((xs.drop 2).take 2), Lib.beNat ((xs.drop 4).take 4), 0, 0] [] (xs.drop 8) := by
  intro A n c B0 B1 w hs hB0 hB1 hnc
  refine calls_hid fun R hR => ?_
  have hl : xs.length = n := by rw [← bcs_length]; exact hs.1
  rw [hl] at h4 hn
  obtain ⟨g, o, rfl, hg, _⟩ := hs.2 (by omega)
  have hgw : g < w.heap.size := by omega
  have b0 := (xs.getD 0 0).toNat_lt
  have x0 : w.cell? ⟨g, o, none⟩ = some (.int .u8 (xs.getD 0 0).toNat) := hs.byte (k := 0) (by omega)
  have z0 : 0 < n := by omega
  have i0 : (0 : Int) < (n : Int) := by omega
  have b1 := (xs.getD 1 0).toNat_lt
  have x1 : w.cell? ⟨g, o + 1, none⟩ = some (.int .u8 (xs.getD 1 0).toNat) := hs.byte (k := 1) (by omega)
  have z1 : 1 < n := by omega
  have i1 : (1 : Int) < (n : Int) := by omega
  rw [hl] at hd
  obtain ⟨A8, cut8, cs8, cf8⟩ := cut_from g o n c 8 8 rfl (by omega) hnc
  have hpl := cs8 w B0 _ hs
  have hm2 : Sl w B0 (some ⟨g, o + 2, none⟩) 2 (bcs ((xs.drop 2).take 2)) := (hs.drop_ (k := 2) (by omega)).take_ (by omega)
  have HM2 := Lib.hid hm2
  have HV2 := HM2
  clear hm2
  have jz2 : ¬ (c : Int) = 2 := by omega
  have jy2 : ¬ c = 2 := by omega
  have jc4 : (4 : Int) ≤ (c : Int) := by omega
  have hm4 : Sl w B0 (some ⟨g, o + 4, none⟩) 4 (bcs ((xs.drop 4).take 4)) := (hs.drop_ (k := 4) (by omega)).take_ (by omega)
  have HM4 := Lib.hid hm4
  have HV4 := HM4
  clear hm4
  have jz4 : ¬ (c : Int) = 4 := by omega
  have jy4 : ¬ c = 4 := by omega
  have jc8 : (8 : Int) ≤ (c : Int) := by omega
  have hN2 : Lib.beNat ((xs.drop 2).take 2) < 65536 := beNat_take _ 2
  have hN4 : Lib.beNat ((xs.drop 4).take 4) < 4294967296 := beNat_take _ 4
  generalize (xs.getD 0 0).toNat = a0 at *
  generalize (xs.getD 1 0).toNat = a1 at *
  generalize hNN2 : Lib.beNat ((xs.drop 2).take 2) = N2 at *
  have HNN2 := Lib.hid hNN2
  clear hNN2
  generalize hNN4 : Lib.beNat ((xs.drop 4).take 4) = N4 at *
  have HNN4 := Lib.hid hNN4
  clear hNN4
  have d5 : (a0 : Int) / 32 = m0 := by omega
  have q16 : bits .and .u8 ((a0 : Int) / 16) 1 = 1 := by rw [show (a0 : Int) / 16 = ((a0 / 16 : Nat) : Int) by omega, m8_1 (a0 / 16) (by omega)]; omega
  have q8 : bits .and .u8 ((a0 : Int) / 8) 1 = 0 := by rw [show (a0 : Int) / 8 = ((a0 / 8 : Nat) : Int) by omega, m8_1 (a0 / 8) (by omega)]; omega
  have q4 : bits .and .u8 ((a0 : Int) / 4) 1 = 0 := by rw [show (a0 : Int) / 4 = ((a0 / 4 : Nat) : Int) by omega, m8_1 (a0 / 4) (by omega)]; omega
  have q2 : bits .and .u8 ((a0 : Int) / 2) 1 = 0 := by rw [show (a0 : Int) / 2 = ((a0 / 2 : Nat) : Int) by omega, m8_1 (a0 / 2) (by omega)]; omega
  have q1 : bits .and .u8 (a0 : Int) 1 = 0 := by rw [m8_1 a0 (by omega)]; omega
  have q7 : bits .and .u8 (a0 : Int) 7 = 0 := by rw [m8_7 a0 (by omega)]; omega
  have u0 : IntKind.u64.wrap (m0 : Int) = m0 := IntWalk.u64_in _ (by omega)
  have u1 : IntKind.u64.wrap (a1 : Int) = a1 := IntWalk.u64_in _ (by omega)
  have uz : IntKind.u64.wrap 0 = 0 := IntWalk.u64_in _ (by omega)
  have uo : IntKind.u64.wrap 1 = 1 := IntWalk.u64_in _ (by omega)
  have vn : IntKind.i64.wrap (N2 : Int) = N2 := IntWalk.i64_in _ (by omega)
  have t8 : decide ((n : Int) - 8 < (N2 : Int)) = false := by rw [decide_eq_false_iff_not]; omega
  have jn8 : (8 : Int) ≤ (n : Int) := by omega
  have HE0 := Lib.hid e0
  have HS := Lib.hid hs
  have HPL := Lib.hid hpl
  have HF8 := Lib.hid cf8
  clear hs hpl cs8 cf8 hl e0
  go_enter Tryz.func52, Tryz.ntmps52
  go_wp2_with fail
  obtain ⟨W1, hW1⟩ : ∃ W1, W1 = w.alloc (.cells #[.slice none 0 0, .slice none 0 0, .slice none 0 0, .slice none 0 0] 27) := ⟨_, rfl⟩
  rw [← hW1]
  have hbk : Bk W1 w.heap.size 27 [.slice none 0 0, .slice none 0 0, .slice none 0 0, .slice none 0 0] := by rw [hW1]; exact Bk.new _ _ _
  have hbe1 : Below w.heap.size w W1 := by rw [hW1]; exact (Below.refl _ _).alloc (Nat.le_refl _) _
  have hsz : w.heap.size + 1 ≤ W1.heap.size := by rw [hW1]; simp
  have HBK := Lib.hid hbk
  have HBE := Lib.hid hbe1
  have HS1 := Lib.hid (HS.out.below (hbe1.mono hB0))
  have hgW : g < W1.heap.size := by omega
  have hgb : g ≠ w.heap.size := by omega
  have HXB0 := Lib.hid x0
  have x0 := (low_below (g := g) (i := o) hbe1 hgw).trans x0
  have HXB1 := Lib.hid x1
  have x1 := (low_below (g := g) (i := o + 1) hbe1 hgw).trans x1
  have HM2 := Lib.hid (HM2.out.below (hbe1.mono hB0))
  have HM4 := Lib.hid (HM4.out.below (hbe1.mono hB0))
  clear hW1 hbk hbe1
  go_region_held3 (fun w' => w'.cell? ⟨g, o + 1, none⟩ = some (.int .u8 a1))
    (first | with_reducible exact (y1) | with_reducible exact (low_drew.trans x1) | with_reducible exact ((low_alloc hgW).trans x1) | with_reducible exact ((low_alloc2 hgW).trans x1) | with_reducible exact ((low_alloc0 hg23).trans y1) | exact ((set4_low hgl).trans y1))
    ((first | (go_at_call 46; (first | ((with_reducible refine (num_still _ 2 _ B0 ((xs.drop 2).take 2) _ (by omega) (HM2.out.below (by first | exact (Below.refl _ _).drew | exact ((Below.refl _ _).alloc (by omega) _).drew))).mono ?_); rintro e w' ⟨rfl, rfl⟩; rw [HNN2.out]) | ((with_reducible refine (num_still _ 4 _ B0 ((xs.drop 4).take 4) _ (by omega) (HM4.out.below (by first | exact (Below.refl _ _).drew | exact ((Below.refl _ _).alloc (by omega) _).drew))).mono ?_); rintro e w' ⟨rfl, rfl⟩; rw [HNN4.out]))) | (go_at_call 45; obtain ⟨cs, hcs⟩ : ∃ cs : List Value, cs = [.int .u64 m0, .int .u64 1, .int .u64 0, .int .u64 0, .int .u64 0, .int .u64 0, .int .u64 a1, .int .u64 N2, .int .u64 N4, .int .u64 0, .int .u64 0] := ⟨_, rfl⟩; rw [← hcs]; (with_reducible refine (layer_any _ _ _ _ _ _ _ _ rfl rfl ((W1.alloc (.cells cs.toArray 46)).drew)).mono ?_); rintro e w23 ⟨rfl, hb23⟩; have hg23 : g < w23.heap.size := (by have hq := hb23.size; have hq2 : W1.heap.size + 1 ≤ w23.heap.size := (by simpa using hq); omega); have y1 := (low_below (g := g) (i := o + 1) hb23 (by simp <;> omega)).trans ((low_alloc hgW).trans x1)) | (go_at_call 45; obtain ⟨cs, hcs⟩ : ∃ cs : List Value, cs = [.int .u64 m0, .int .u64 1, .int .u64 0, .int .u64 0, .int .u64 0, .int .u64 0, .int .u64 a1, .int .u64 N2, .int .u64 N4, .int .u64 0, .int .u64 0] := ⟨_, rfl⟩; rw [← hcs]; (with_reducible refine (layer_any _ _ _ _ _ _ _ _ rfl rfl (((W1.alloc (.cells cs.toArray 46)).alloc (.cells #[.slice none 0 0, .slice none 0 0, .slice none 0 0, .slice none 0 0] 27)).drew)).mono ?_); rintro e w23 ⟨rfl, hb23⟩; have hlb := lay_before (m := 11) (nums := [m0, 1, 0, 0, 0, 0, a1, N2, N4, 0, 0]) (P := .slice A8 (n - 8) (c - 8)) (by rw [hcs]; rfl) rfl HBE.out (Nat.le_refl _) (by omega) rfl HBK.out hb23; have p0 := hlb.1.cell 0; have p1 := hlb.1.cell 1; have p2 := hlb.1.cell 2; have p3 := hlb.1.cell 3; have pf0 := hlb.1.frozen 0; have pf1 := hlb.1.frozen 1; have pf2 := hlb.1.frozen 2; have pf3 := hlb.1.frozen 3; simp only [List.getElem?_cons_zero, List.getElem?_cons_succ] at p0 p1 p2 p3; have hgl : g ≠ W1.heap.size + 1 := (by omega); have y1 := (low_below (g := g) (i := o + 1) hb23 (by simp <;> omega)).trans ((low_alloc2 hgW).trans x1)) | (go_at_call 45; obtain ⟨cs, hcs⟩ : ∃ cs : List Value, cs = [.int .u64 m0, .int .u64 1, .int .u64 0, .int .u64 0, .int .u64 0, .int .u64 0, .int .u64 a1, .int .u64 N2, .int .u64 N4, .int .u64 0, .int .u64 0] := ⟨_, rfl⟩; rw [← hcs]; (with_reducible refine (layer_any _ _ _ _ _ _ _ _ rfl rfl (((W1.alloc (.cells #[.slice none 0 0, .slice none 0 0, .slice none 0 0, .slice none 0 0] 27)).alloc (.cells cs.toArray 46)).drew)).mono ?_); rintro e w23 ⟨rfl, hb23⟩; have hlb := lay_first (m := 11) (nums := [m0, 1, 0, 0, 0, 0, a1, N2, N4, 0, 0]) (P := .slice A8 (n - 8) (c - 8)) (by rw [hcs]; rfl) rfl HBE.out (Nat.le_refl _) (by omega) rfl HBK.out hb23; have p0 := hlb.1.cell 0; have p1 := hlb.1.cell 1; have p2 := hlb.1.cell 2; have p3 := hlb.1.cell 3; have pf0 := hlb.1.frozen 0; have pf1 := hlb.1.frozen 1; have pf2 := hlb.1.frozen 2; have pf3 := hlb.1.frozen 3; simp only [List.getElem?_cons_zero, List.getElem?_cons_succ] at p0 p1 p2 p3; have hgl : g ≠ W1.heap.size := (by omega); have y1 := (low_below (g := g) (i := o + 1) hb23 (by simp <;> omega)).trans ((low_alloc2 hgW).trans x1))))
  all_goals
    first
    | (obtain ⟨l, hl⟩ : ∃ l, l = w23.heap.size := ⟨_, rfl⟩
       have hlay := lay_after (m := 11) (nums := [m0, 1, 0, 0, 0, 0, a1, N2, N4, 0, 0]) (P := .slice A8 (n - 8) (c - 8)) (by rw [hcs]; rfl) rfl HBE.out (Nat.le_refl _) (by omega) HBK.out hb23
       obtain ⟨W3, hW3⟩ : ∃ W3, W3 = w23.alloc (.cells #[.slice (some ⟨W1.heap.size, 0, none⟩) 11 11, .slice none 0 0, .slice none 0 0, .slice A8 (n - 8) (c - 8)] 27) := ⟨_, rfl⟩
       obtain ⟨gn, hgn⟩ : ∃ gn, gn = W1.heap.size := ⟨_, rfl⟩
       rw [← hW3, ← hl, ← hgn] at hlay
       rw [← hW3, ← hl]
       try rw [← hgn]
       clear hW3 hl hgn hcs hb23)
    | (obtain ⟨l, hl⟩ : ∃ l, l = W1.heap.size + 1 := ⟨_, rfl⟩
       obtain ⟨gn, hgn⟩ : ∃ gn, gn = W1.heap.size := ⟨_, rfl⟩
       have hlay := hlb.2
       obtain ⟨W3, hW3⟩ : ∃ W3, W3 = set4 w23 (W1.heap.size + 1) (.slice (some ⟨W1.heap.size, 0, none⟩) 11 11) (.slice none 0 0) (.slice none 0 0) (.slice A8 (n - 8) (c - 8)) := ⟨_, rfl⟩
       rw [← hW3, ← hl, ← hgn] at hlay
       rw [show ((((w23.setCell ⟨W1.heap.size + 1, 0, none⟩ (.slice (some ⟨W1.heap.size, 0, none⟩) 11 11)).setCell ⟨W1.heap.size + 1, 1, none⟩ (.slice none 0 0)).setCell ⟨W1.heap.size + 1, 2, none⟩ (.slice none 0 0)).setCell ⟨W1.heap.size + 1, 3, none⟩ (.slice A8 (n - 8) (c - 8))) = W3 from hW3.symm, ← hl]
       try rw [← hgn]
       clear hW3 hl hgn hlb hcs hb23 p0 p1 p2 p3 pf0 pf1 pf2 pf3)
    | (obtain ⟨l, hl⟩ : ∃ l, l = W1.heap.size := ⟨_, rfl⟩
       obtain ⟨gn, hgn⟩ : ∃ gn, gn = W1.heap.size + 1 := ⟨_, rfl⟩
       have hlay := hlb.2
       obtain ⟨W3, hW3⟩ : ∃ W3, W3 = set4 w23 (W1.heap.size) (.slice (some ⟨W1.heap.size + 1, 0, none⟩) 11 11) (.slice none 0 0) (.slice none 0 0) (.slice A8 (n - 8) (c - 8)) := ⟨_, rfl⟩
       rw [← hW3, ← hgn, ← hl] at hlay
       rw [show ((((w23.setCell ⟨W1.heap.size, 0, none⟩ (.slice (some ⟨W1.heap.size + 1, 0, none⟩) 11 11)).setCell ⟨W1.heap.size, 1, none⟩ (.slice none 0 0)).setCell ⟨W1.heap.size, 2, none⟩ (.slice none 0 0)).setCell ⟨W1.heap.size, 3, none⟩ (.slice A8 (n - 8) (c - 8))) = W3 from hW3.symm, ← hl]
       try rw [← hgn]
       clear hW3 hl hgn hlb hcs hb23 p0 p1 p2 p3 pf0 pf1 pf2 pf3)
    have HLAY := Lib.hid hlay
    have l0 := hlay.hl.cell 0
    have l1 := hlay.hl.cell 1
    have l2 := hlay.hl.cell 2
    have l3 := hlay.hl.cell 3
    have lf0 := hlay.hl.frozen 0
    have lf1 := hlay.hl.frozen 1
    have lf2 := hlay.hl.frozen 2
    have lf3 := hlay.hl.frozen 3
    simp only [List.getElem?_cons_zero, List.getElem?_cons_succ] at l0 l1 l2 l3
    have hll := hlay.hl.lt
    have hbl := hlay.bl
    have hwl := hlay.wl
    have hrl := hlay.hr.lt
    have hz3 := hlay.be.size
    clear hlay
    go_wp2_with fail
    refine (num_sl _ 2 _ B0 ((xs.drop 2).take 2) _ (by omega) (HV2.out.below (HLAY.out.be.mono hB0))).mono ?_
    rintro e w9 ⟨rfl, rfl⟩
    rw [HNN2.out]
    obtain ⟨gn', hgn', hNb, hwn, hnl, hbn⟩ := HLAY.out.hN
    cases hgn'
    have HNB := Lib.hid hNb
    have k0 := HLAY.out.hr.cell 0
    have k1 := HLAY.out.hr.cell 1
    have k2 := HLAY.out.hr.cell 2
    have k3 := HLAY.out.hr.cell 3
    have f0 := HLAY.out.hr.frozen 0
    have f1 := HLAY.out.hr.frozen 1
    have f2 := HLAY.out.hr.frozen 2
    have f3 := HLAY.out.hr.frozen 3
    simp only [List.getElem?_cons_zero, List.getElem?_cons_succ] at k0 k1 k2 k3
    clear hNb
    go_wp2_with fail
    have hLL := LyrF.mk (w := W3) (B := W3.heap.size) (B0 := B0) (B1 := w.heap.size + 1) (nums := [m0, 1, 0, 0, 0, 0, a1, N2, N4, 0, 0]) (data := []) (ds := []) (pay := xs.drop 8) (AD := none) (cN := 11) (cD := 0) (AP := none) (cP := 0) (cB := c - 8)
      (HNB.out.sl HNB.out.lt rfl (fun j u hu => by rw [Nat.zero_add]; exact hu))
      (Sl.none_ _ _ _) (EachF.nil _ _ _ _) ((HPL.out.below (HLAY.out.be.mono hB0)).more (by omega)) (Fr2.new (by omega)) (Fr2.nil _ _) (cut_fr hg HF8.out)
    have hfin := read_end (w := w) hLL HLAY.out.be hB0 (Nat.lt_succ_self _) (Nat.le_refl _)
    obtain ⟨z0, z1, z2, z3⟩ := set4_cells HLAY.out.hr (.slice (some ⟨gn, 0, none⟩) 11 11) (.slice none 0 0) (.slice none 0 0) (.slice A8 (n - 8) (c - 8))
    exact bodyPost_ret (v := .tuple #[.agg #[.slice (some ⟨gn, 0, none⟩) 11 11, .slice none 0 0, .slice none 0 0, .slice A8 (n - 8) (c - 8)], .bool true, .bool true]) (by simp [results, Tryz.results52, go_sem, z0, z1, z2, z3]) rfl (hR.out _ _ ⟨_, rfl, hfin.1, hfin.2.more (Nat.le_refl _) (Nat.le_refl _) (by omega)⟩)
set_option maxRecDepth 1000000 in
set_option maxHeartbeats 10000000 in
theorem srd_gtp_no (xs : List UInt8) (m0 : Nat) (hm0 : m0 < 8) (e0 : (xs.getD 0 0).toNat = m0 * 32 + 16) (hd : xs.length - 8 < Lib.beNat ((xs.drop 2).take 2)) (hd2 : Lib.beNat ((xs.drop 2).take 2) < 65528) (h4 : 8 ≤ xs.length) (hn : xs.length ≤ 1000) : SrdNo 52 xs := by
  intro A n c B0 w hs hB0 hnc
  refine calls_hid fun R hR => ?_
  have hl : xs.length = n := by rw [← bcs_length]; exact hs.1
  rw [hl] at h4 hn
  obtain ⟨g, o, rfl, hg, _⟩ := hs.2 (by omega)
  have hgw : g < w.heap.size := by omega
  have b0 := (xs.getD 0 0).toNat_lt
  have x0 : w.cell? ⟨g, o, none⟩ = some (.int .u8 (xs.getD 0 0).toNat) := hs.byte (k := 0) (by omega)
  have z0 : 0 < n := by omega
  have i0 : (0 : Int) < (n : Int) := by omega
  have b1 := (xs.getD 1 0).toNat_lt
  have x1 : w.cell? ⟨g, o + 1, none⟩ = some (.int .u8 (xs.getD 1 0).toNat) := hs.byte (k := 1) (by omega)
  have z1 : 1 < n := by omega
  have i1 : (1 : Int) < (n : Int) := by omega
  rw [hl] at hd
  obtain ⟨A8, cut8, cs8, cf8⟩ := cut_from g o n c 8 8 rfl (by omega) hnc
  have hpl := cs8 w B0 _ hs
  have hm2 : Sl w B0 (some ⟨g, o + 2, none⟩) 2 (bcs ((xs.drop 2).take 2)) := (hs.drop_ (k := 2) (by omega)).take_ (by omega)
  have HM2 := Lib.hid hm2
  have HV2 := HM2
  clear hm2
  have jz2 : ¬ (c : Int) = 2 := by omega
  have jy2 : ¬ c = 2 := by omega
  have jc4 : (4 : Int) ≤ (c : Int) := by omega
  have hm4 : Sl w B0 (some ⟨g, o + 4, none⟩) 4 (bcs ((xs.drop 4).take 4)) := (hs.drop_ (k := 4) (by omega)).take_ (by omega)
  have HM4 := Lib.hid hm4
  have HV4 := HM4
  clear hm4
  have jz4 : ¬ (c : Int) = 4 := by omega
  have jy4 : ¬ c = 4 := by omega
  have jc8 : (8 : Int) ≤ (c : Int) := by omega
  have hN2 : Lib.beNat ((xs.drop 2).take 2) < 65536 := beNat_take _ 2
  have hN4 : Lib.beNat ((xs.drop 4).take 4) < 4294967296 := beNat_take _ 4
  generalize (xs.getD 0 0).toNat = a0 at *
  generalize (xs.getD 1 0).toNat = a1 at *
  generalize hNN2 : Lib.beNat ((xs.drop 2).take 2) = N2 at *
  have HNN2 := Lib.hid hNN2
  clear hNN2
  generalize hNN4 : Lib.beNat ((xs.drop 4).take 4) = N4 at *
  have HNN4 := Lib.hid hNN4
  clear hNN4
  have d5 : (a0 : Int) / 32 = m0 := by omega
  have q16 : bits .and .u8 ((a0 : Int) / 16) 1 = 1 := by rw [show (a0 : Int) / 16 = ((a0 / 16 : Nat) : Int) by omega, m8_1 (a0 / 16) (by omega)]; omega
  have q8 : bits .and .u8 ((a0 : Int) / 8) 1 = 0 := by rw [show (a0 : Int) / 8 = ((a0 / 8 : Nat) : Int) by omega, m8_1 (a0 / 8) (by omega)]; omega
  have q4 : bits .and .u8 ((a0 : Int) / 4) 1 = 0 := by rw [show (a0 : Int) / 4 = ((a0 / 4 : Nat) : Int) by omega, m8_1 (a0 / 4) (by omega)]; omega
  have q2 : bits .and .u8 ((a0 : Int) / 2) 1 = 0 := by rw [show (a0 : Int) / 2 = ((a0 / 2 : Nat) : Int) by omega, m8_1 (a0 / 2) (by omega)]; omega
  have q1 : bits .and .u8 (a0 : Int) 1 = 0 := by rw [m8_1 a0 (by omega)]; omega
  have q7 : bits .and .u8 (a0 : Int) 7 = 0 := by rw [m8_7 a0 (by omega)]; omega
  have u0 : IntKind.u64.wrap (m0 : Int) = m0 := IntWalk.u64_in _ (by omega)
  have u1 : IntKind.u64.wrap (a1 : Int) = a1 := IntWalk.u64_in _ (by omega)
  have uz : IntKind.u64.wrap 0 = 0 := IntWalk.u64_in _ (by omega)
  have uo : IntKind.u64.wrap 1 = 1 := IntWalk.u64_in _ (by omega)
  have vn : IntKind.i64.wrap (N2 : Int) = N2 := IntWalk.i64_in _ (by omega)
  have t8 : decide ((n : Int) - 8 < (N2 : Int)) = true := by rw [decide_eq_true_eq]; omega
  have t9 : decide ((N2 : Int) < 65528) = true := by rw [decide_eq_true_eq]; omega
  have jn8 : (8 : Int) ≤ (n : Int) := by omega
  have HE0 := Lib.hid e0
  have HS := Lib.hid hs
  have HPL := Lib.hid hpl
  have HF8 := Lib.hid cf8
  clear hs hpl cs8 cf8 hl e0
  go_enter Tryz.func52, Tryz.ntmps52
  go_wp2_with fail
  obtain ⟨W1, hW1⟩ : ∃ W1, W1 = w.alloc (.cells #[.slice none 0 0, .slice none 0 0, .slice none 0 0, .slice none 0 0] 27) := ⟨_, rfl⟩
  rw [← hW1]
  have hbk : Bk W1 w.heap.size 27 [.slice none 0 0, .slice none 0 0, .slice none 0 0, .slice none 0 0] := by rw [hW1]; exact Bk.new _ _ _
  have hbe1 : Below w.heap.size w W1 := by rw [hW1]; exact (Below.refl _ _).alloc (Nat.le_refl _) _
  have hsz : w.heap.size + 1 ≤ W1.heap.size := by rw [hW1]; simp
  have HBK := Lib.hid hbk
  have HBE := Lib.hid hbe1
  have HS1 := Lib.hid (HS.out.below (hbe1.mono hB0))
  have hgW : g < W1.heap.size := by omega
  have hgb : g ≠ w.heap.size := by omega
  have HXB0 := Lib.hid x0
  have x0 := (low_below (g := g) (i := o) hbe1 hgw).trans x0
  have HXB1 := Lib.hid x1
  have x1 := (low_below (g := g) (i := o + 1) hbe1 hgw).trans x1
  have HM2 := Lib.hid (HM2.out.below (hbe1.mono hB0))
  have HM4 := Lib.hid (HM4.out.below (hbe1.mono hB0))
  clear hW1 hbk hbe1
  go_region_held3 (fun w' => w'.cell? ⟨g, o + 1, none⟩ = some (.int .u8 a1))
    (first | with_reducible exact (y1) | with_reducible exact (low_drew.trans x1) | with_reducible exact ((low_alloc hgW).trans x1) | with_reducible exact ((low_alloc2 hgW).trans x1) | with_reducible exact ((low_alloc0 hg23).trans y1) | exact ((set4_low hgl).trans y1))
    ((first | (go_at_call 46; (first | ((with_reducible refine (num_still _ 2 _ B0 ((xs.drop 2).take 2) _ (by omega) (HM2.out.below (by first | exact (Below.refl _ _).drew | exact ((Below.refl _ _).alloc (by omega) _).drew))).mono ?_); rintro e w' ⟨rfl, rfl⟩; rw [HNN2.out]) | ((with_reducible refine (num_still _ 4 _ B0 ((xs.drop 4).take 4) _ (by omega) (HM4.out.below (by first | exact (Below.refl _ _).drew | exact ((Below.refl _ _).alloc (by omega) _).drew))).mono ?_); rintro e w' ⟨rfl, rfl⟩; rw [HNN4.out]))) | (go_at_call 45; obtain ⟨cs, hcs⟩ : ∃ cs : List Value, cs = [.int .u64 m0, .int .u64 1, .int .u64 0, .int .u64 0, .int .u64 0, .int .u64 0, .int .u64 a1, .int .u64 N2, .int .u64 N4, .int .u64 0, .int .u64 0] := ⟨_, rfl⟩; rw [← hcs]; (with_reducible refine (layer_any _ _ _ _ _ _ _ _ rfl rfl ((W1.alloc (.cells cs.toArray 46)).drew)).mono ?_); rintro e w23 ⟨rfl, hb23⟩; have hg23 : g < w23.heap.size := (by have hq := hb23.size; have hq2 : W1.heap.size + 1 ≤ w23.heap.size := (by simpa using hq); omega); have y1 := (low_below (g := g) (i := o + 1) hb23 (by simp <;> omega)).trans ((low_alloc hgW).trans x1)) | (go_at_call 45; obtain ⟨cs, hcs⟩ : ∃ cs : List Value, cs = [.int .u64 m0, .int .u64 1, .int .u64 0, .int .u64 0, .int .u64 0, .int .u64 0, .int .u64 a1, .int .u64 N2, .int .u64 N4, .int .u64 0, .int .u64 0] := ⟨_, rfl⟩; rw [← hcs]; (with_reducible refine (layer_any _ _ _ _ _ _ _ _ rfl rfl (((W1.alloc (.cells cs.toArray 46)).alloc (.cells #[.slice none 0 0, .slice none 0 0, .slice none 0 0, .slice none 0 0] 27)).drew)).mono ?_); rintro e w23 ⟨rfl, hb23⟩; have hlb := lay_before (m := 11) (nums := [m0, 1, 0, 0, 0, 0, a1, N2, N4, 0, 0]) (P := .slice A8 (n - 8) (c - 8)) (by rw [hcs]; rfl) rfl HBE.out (Nat.le_refl _) (by omega) rfl HBK.out hb23; have p0 := hlb.1.cell 0; have p1 := hlb.1.cell 1; have p2 := hlb.1.cell 2; have p3 := hlb.1.cell 3; have pf0 := hlb.1.frozen 0; have pf1 := hlb.1.frozen 1; have pf2 := hlb.1.frozen 2; have pf3 := hlb.1.frozen 3; simp only [List.getElem?_cons_zero, List.getElem?_cons_succ] at p0 p1 p2 p3; have hgl : g ≠ W1.heap.size + 1 := (by omega); have y1 := (low_below (g := g) (i := o + 1) hb23 (by simp <;> omega)).trans ((low_alloc2 hgW).trans x1)) | (go_at_call 45; obtain ⟨cs, hcs⟩ : ∃ cs : List Value, cs = [.int .u64 m0, .int .u64 1, .int .u64 0, .int .u64 0, .int .u64 0, .int .u64 0, .int .u64 a1, .int .u64 N2, .int .u64 N4, .int .u64 0, .int .u64 0] := ⟨_, rfl⟩; rw [← hcs]; (with_reducible refine (layer_any _ _ _ _ _ _ _ _ rfl rfl (((W1.alloc (.cells #[.slice none 0 0, .slice none 0 0, .slice none 0 0, .slice none 0 0] 27)).alloc (.cells cs.toArray 46)).drew)).mono ?_); rintro e w23 ⟨rfl, hb23⟩; have hlb := lay_first (m := 11) (nums := [m0, 1, 0, 0, 0, 0, a1, N2, N4, 0, 0]) (P := .slice A8 (n - 8) (c - 8)) (by rw [hcs]; rfl) rfl HBE.out (Nat.le_refl _) (by omega) rfl HBK.out hb23; have p0 := hlb.1.cell 0; have p1 := hlb.1.cell 1; have p2 := hlb.1.cell 2; have p3 := hlb.1.cell 3; have pf0 := hlb.1.frozen 0; have pf1 := hlb.1.frozen 1; have pf2 := hlb.1.frozen 2; have pf3 := hlb.1.frozen 3; simp only [List.getElem?_cons_zero, List.getElem?_cons_succ] at p0 p1 p2 p3; have hgl : g ≠ W1.heap.size := (by omega); have y1 := (low_below (g := g) (i := o + 1) hb23 (by simp <;> omega)).trans ((low_alloc2 hgW).trans x1))))
  all_goals
    first
    | (obtain ⟨l, hl⟩ : ∃ l, l = w23.heap.size := ⟨_, rfl⟩
       have hlay := lay_after (m := 11) (nums := [m0, 1, 0, 0, 0, 0, a1, N2, N4, 0, 0]) (P := .slice A8 (n - 8) (c - 8)) (by rw [hcs]; rfl) rfl HBE.out (Nat.le_refl _) (by omega) HBK.out hb23
       obtain ⟨W3, hW3⟩ : ∃ W3, W3 = w23.alloc (.cells #[.slice (some ⟨W1.heap.size, 0, none⟩) 11 11, .slice none 0 0, .slice none 0 0, .slice A8 (n - 8) (c - 8)] 27) := ⟨_, rfl⟩
       obtain ⟨gn, hgn⟩ : ∃ gn, gn = W1.heap.size := ⟨_, rfl⟩
       rw [← hW3, ← hl, ← hgn] at hlay
       rw [← hW3, ← hl]
       try rw [← hgn]
       clear hW3 hl hgn hcs hb23)
    | (obtain ⟨l, hl⟩ : ∃ l, l = W1.heap.size + 1 := ⟨_, rfl⟩
       obtain ⟨gn, hgn⟩ : ∃ gn, gn = W1.heap.size := ⟨_, rfl⟩
       have hlay := hlb.2
       obtain ⟨W3, hW3⟩ : ∃ W3, W3 = set4 w23 (W1.heap.size + 1) (.slice (some ⟨W1.heap.size, 0, none⟩) 11 11) (.slice none 0 0) (.slice none 0 0) (.slice A8 (n - 8) (c - 8)) := ⟨_, rfl⟩
       rw [← hW3, ← hl, ← hgn] at hlay
       rw [show ((((w23.setCell ⟨W1.heap.size + 1, 0, none⟩ (.slice (some ⟨W1.heap.size, 0, none⟩) 11 11)).setCell ⟨W1.heap.size + 1, 1, none⟩ (.slice none 0 0)).setCell ⟨W1.heap.size + 1, 2, none⟩ (.slice none 0 0)).setCell ⟨W1.heap.size + 1, 3, none⟩ (.slice A8 (n - 8) (c - 8))) = W3 from hW3.symm, ← hl]
       try rw [← hgn]
       clear hW3 hl hgn hlb hcs hb23 p0 p1 p2 p3 pf0 pf1 pf2 pf3)
    | (obtain ⟨l, hl⟩ : ∃ l, l = W1.heap.size := ⟨_, rfl⟩
       obtain ⟨gn, hgn⟩ : ∃ gn, gn = W1.heap.size + 1 := ⟨_, rfl⟩
       have hlay := hlb.2
       obtain ⟨W3, hW3⟩ : ∃ W3, W3 = set4 w23 (W1.heap.size) (.slice (some ⟨W1.heap.size + 1, 0, none⟩) 11 11) (.slice none 0 0) (.slice none 0 0) (.slice A8 (n - 8) (c - 8)) := ⟨_, rfl⟩
       rw [← hW3, ← hgn, ← hl] at hlay
       rw [show ((((w23.setCell ⟨W1.heap.size, 0, none⟩ (.slice (some ⟨W1.heap.size + 1, 0, none⟩) 11 11)).setCell ⟨W1.heap.size, 1, none⟩ (.slice none 0 0)).setCell ⟨W1.heap.size, 2, none⟩ (.slice none 0 0)).setCell ⟨W1.heap.size, 3, none⟩ (.slice A8 (n - 8) (c - 8))) = W3 from hW3.symm, ← hl]
       try rw [← hgn]
       clear hW3 hl hgn hlb hcs hb23 p0 p1 p2 p3 pf0 pf1 pf2 pf3)
    have HLAY := Lib.hid hlay
    have l0 := hlay.hl.cell 0
    have l1 := hlay.hl.cell 1
    have l2 := hlay.hl.cell 2
    have l3 := hlay.hl.cell 3
    have lf0 := hlay.hl.frozen 0
    have lf1 := hlay.hl.frozen 1
    have lf2 := hlay.hl.frozen 2
    have lf3 := hlay.hl.frozen 3
    simp only [List.getElem?_cons_zero, List.getElem?_cons_succ] at l0 l1 l2 l3
    have hll := hlay.hl.lt
    have hbl := hlay.bl
    have hwl := hlay.wl
    have hrl := hlay.hr.lt
    have hz3 := hlay.be.size
    clear hlay
    go_wp2_with fail
    refine (num_sl _ 2 _ B0 ((xs.drop 2).take 2) _ (by omega) (HV2.out.below (HLAY.out.be.mono hB0))).mono ?_
    rintro e w9 ⟨rfl, rfl⟩
    rw [HNN2.out]
    obtain ⟨gn', hgn', hNb, hwn, hnl, hbn⟩ := HLAY.out.hN
    cases hgn'
    have HNB := Lib.hid hNb
    have k0 := HLAY.out.hr.cell 0
    have k1 := HLAY.out.hr.cell 1
    have k2 := HLAY.out.hr.cell 2
    have k3 := HLAY.out.hr.cell 3
    have f0 := HLAY.out.hr.frozen 0
    have f1 := HLAY.out.hr.frozen 1
    have f2 := HLAY.out.hr.frozen 2
    have f3 := HLAY.out.hr.frozen 3
    simp only [List.getElem?_cons_zero, List.getElem?_cons_succ] at k0 k1 k2 k3
    clear hNb
    go_wp2_with fail
    obtain ⟨z0, z1, z2, z3⟩ := set4_cells HLAY.out.hr (.slice none 0 0) (.slice none 0 0) (.slice none 0 0) (.slice none 0 0)
    have hfb := set4_below HLAY.out.be w.heap.size (Nat.le_refl _) (.slice none 0 0) (.slice none 0 0) (.slice none 0 0) (.slice none 0 0)
    exact bodyPost_ret (v := .tuple #[.agg #[.slice none 0 0, .slice none 0 0, .slice none 0 0, .slice none 0 0], .bool false, .bool true]) (by simp [results, Tryz.results52, go_sem, z0, z1, z2, z3]) rfl (hR.out _ _ ⟨rfl, hfb⟩)
set_option maxRecDepth 1000000 in
set_option maxHeartbeats 10000000 in
theorem srd_gtp_open (xs : List UInt8) (m0 : Nat) (hm0 : m0 < 8) (e0 : (xs.getD 0 0).toNat = m0 * 32 + 16) (hd : xs.length - 8 < Lib.beNat ((xs.drop 2).take 2)) (hd2 : 65528 ≤ Lib.beNat ((xs.drop 2).take 2)) (h4 : 8 ≤ xs.length) (hn : xs.length ≤ 1000) : SrdOpen 52 xs := by
  intro A n c B0 w hs hB0 hnc
  refine calls_hid fun R hR => ?_
  have hl : xs.length = n := by rw [← bcs_length]; exact hs.1
  rw [hl] at h4 hn
  obtain ⟨g, o, rfl, hg, _⟩ := hs.2 (by omega)
  have hgw : g < w.heap.size := by omega
  have b0 := (xs.getD 0 0).toNat_lt
  have x0 : w.cell? ⟨g, o, none⟩ = some (.int .u8 (xs.getD 0 0).toNat) := hs.byte (k := 0) (by omega)
  have z0 : 0 < n := by omega
  have i0 : (0 : Int) < (n : Int) := by omega
  have b1 := (xs.getD 1 0).toNat_lt
  have x1 : w.cell? ⟨g, o + 1, none⟩ = some (.int .u8 (xs.getD 1 0).toNat) := hs.byte (k := 1) (by omega)
  have z1 : 1 < n := by omega
  have i1 : (1 : Int) < (n : Int) := by omega
  rw [hl] at hd
  obtain ⟨A8, cut8, cs8, cf8⟩ := cut_from g o n c 8 8 rfl (by omega) hnc
  have hpl := cs8 w B0 _ hs
  have hm2 : Sl w B0 (some ⟨g, o + 2, none⟩) 2 (bcs ((xs.drop 2).take 2)) := (hs.drop_ (k := 2) (by omega)).take_ (by omega)
  have HM2 := Lib.hid hm2
  have HV2 := HM2
  clear hm2
  have jz2 : ¬ (c : Int) = 2 := by omega
  have jy2 : ¬ c = 2 := by omega
  have jc4 : (4 : Int) ≤ (c : Int) := by omega
  have hm4 : Sl w B0 (some ⟨g, o + 4, none⟩) 4 (bcs ((xs.drop 4).take 4)) := (hs.drop_ (k := 4) (by omega)).take_ (by omega)
  have HM4 := Lib.hid hm4
  have HV4 := HM4
  clear hm4
  have jz4 : ¬ (c : Int) = 4 := by omega
  have jy4 : ¬ c = 4 := by omega
  have jc8 : (8 : Int) ≤ (c : Int) := by omega
  have hN2 : Lib.beNat ((xs.drop 2).take 2) < 65536 := beNat_take _ 2
  have hN4 : Lib.beNat ((xs.drop 4).take 4) < 4294967296 := beNat_take _ 4
  generalize (xs.getD 0 0).toNat = a0 at *
  generalize (xs.getD 1 0).toNat = a1 at *
  generalize hNN2 : Lib.beNat ((xs.drop 2).take 2) = N2 at *
  have HNN2 := Lib.hid hNN2
  clear hNN2
  generalize hNN4 : Lib.beNat ((xs.drop 4).take 4) = N4 at *
  have HNN4 := Lib.hid hNN4
  clear hNN4
  have d5 : (a0 : Int) / 32 = m0 := by omega
  have q16 : bits .and .u8 ((a0 : Int) / 16) 1 = 1 := by rw [show (a0 : Int) / 16 = ((a0 / 16 : Nat) : Int) by omega, m8_1 (a0 / 16) (by omega)]; omega
  have q8 : bits .and .u8 ((a0 : Int) / 8) 1 = 0 := by rw [show (a0 : Int) / 8 = ((a0 / 8 : Nat) : Int) by omega, m8_1 (a0 / 8) (by omega)]; omega
  have q4 : bits .and .u8 ((a0 : Int) / 4) 1 = 0 := by rw [show (a0 : Int) / 4 = ((a0 / 4 : Nat) : Int) by omega, m8_1 (a0 / 4) (by omega)]; omega
  have q2 : bits .and .u8 ((a0 : Int) / 2) 1 = 0 := by rw [show (a0 : Int) / 2 = ((a0 / 2 : Nat) : Int) by omega, m8_1 (a0 / 2) (by omega)]; omega
  have q1 : bits .and .u8 (a0 : Int) 1 = 0 := by rw [m8_1 a0 (by omega)]; omega
  have q7 : bits .and .u8 (a0 : Int) 7 = 0 := by rw [m8_7 a0 (by omega)]; omega
  have u0 : IntKind.u64.wrap (m0 : Int) = m0 := IntWalk.u64_in _ (by omega)
  have u1 : IntKind.u64.wrap (a1 : Int) = a1 := IntWalk.u64_in _ (by omega)
  have uz : IntKind.u64.wrap 0 = 0 := IntWalk.u64_in _ (by omega)
  have uo : IntKind.u64.wrap 1 = 1 := IntWalk.u64_in _ (by omega)
  have vn : IntKind.i64.wrap (N2 : Int) = N2 := IntWalk.i64_in _ (by omega)
  have t8 : decide ((n : Int) - 8 < (N2 : Int)) = true := by rw [decide_eq_true_eq]; omega
  have t9 : decide ((N2 : Int) < 65528) = false := by rw [decide_eq_false_iff_not]; omega
  have jn8 : (8 : Int) ≤ (n : Int) := by omega
  have HE0 := Lib.hid e0
  have HS := Lib.hid hs
  have HPL := Lib.hid hpl
  have HF8 := Lib.hid cf8
  clear hs hpl cs8 cf8 hl e0
  go_enter Tryz.func52, Tryz.ntmps52
  go_wp2_with fail
  obtain ⟨W1, hW1⟩ : ∃ W1, W1 = w.alloc (.cells #[.slice none 0 0, .slice none 0 0, .slice none 0 0, .slice none 0 0] 27) := ⟨_, rfl⟩
  rw [← hW1]
  have hbk : Bk W1 w.heap.size 27 [.slice none 0 0, .slice none 0 0, .slice none 0 0, .slice none 0 0] := by rw [hW1]; exact Bk.new _ _ _
  have hbe1 : Below w.heap.size w W1 := by rw [hW1]; exact (Below.refl _ _).alloc (Nat.le_refl _) _
  have hsz : w.heap.size + 1 ≤ W1.heap.size := by rw [hW1]; simp
  have HBK := Lib.hid hbk
  have HBE := Lib.hid hbe1
  have HS1 := Lib.hid (HS.out.below (hbe1.mono hB0))
  have hgW : g < W1.heap.size := by omega
  have hgb : g ≠ w.heap.size := by omega
  have HXB0 := Lib.hid x0
  have x0 := (low_below (g := g) (i := o) hbe1 hgw).trans x0
  have HXB1 := Lib.hid x1
  have x1 := (low_below (g := g) (i := o + 1) hbe1 hgw).trans x1
  have HM2 := Lib.hid (HM2.out.below (hbe1.mono hB0))
  have HM4 := Lib.hid (HM4.out.below (hbe1.mono hB0))
  clear hW1 hbk hbe1
  go_region_held3 (fun w' => w'.cell? ⟨g, o + 1, none⟩ = some (.int .u8 a1))
    (first | with_reducible exact (y1) | with_reducible exact (low_drew.trans x1) | with_reducible exact ((low_alloc hgW).trans x1) | with_reducible exact ((low_alloc2 hgW).trans x1) | with_reducible exact ((low_alloc0 hg23).trans y1) | exact ((set4_low hgl).trans y1))
    ((first | (go_at_call 46; (first | ((with_reducible refine (num_still _ 2 _ B0 ((xs.drop 2).take 2) _ (by omega) (HM2.out.below (by first | exact (Below.refl _ _).drew | exact ((Below.refl _ _).alloc (by omega) _).drew))).mono ?_); rintro e w' ⟨rfl, rfl⟩; rw [HNN2.out]) | ((with_reducible refine (num_still _ 4 _ B0 ((xs.drop 4).take 4) _ (by omega) (HM4.out.below (by first | exact (Below.refl _ _).drew | exact ((Below.refl _ _).alloc (by omega) _).drew))).mono ?_); rintro e w' ⟨rfl, rfl⟩; rw [HNN4.out]))) | (go_at_call 45; obtain ⟨cs, hcs⟩ : ∃ cs : List Value, cs = [.int .u64 m0, .int .u64 1, .int .u64 0, .int .u64 0, .int .u64 0, .int .u64 0, .int .u64 a1, .int .u64 N2, .int .u64 N4, .int .u64 0, .int .u64 0] := ⟨_, rfl⟩; rw [← hcs]; (with_reducible refine (layer_any _ _ _ _ _ _ _ _ rfl rfl ((W1.alloc (.cells cs.toArray 46)).drew)).mono ?_); rintro e w23 ⟨rfl, hb23⟩; have hg23 : g < w23.heap.size := (by have hq := hb23.size; have hq2 : W1.heap.size + 1 ≤ w23.heap.size := (by simpa using hq); omega); have y1 := (low_below (g := g) (i := o + 1) hb23 (by simp <;> omega)).trans ((low_alloc hgW).trans x1)) | (go_at_call 45; obtain ⟨cs, hcs⟩ : ∃ cs : List Value, cs = [.int .u64 m0, .int .u64 1, .int .u64 0, .int .u64 0, .int .u64 0, .int .u64 0, .int .u64 a1, .int .u64 N2, .int .u64 N4, .int .u64 0, .int .u64 0] := ⟨_, rfl⟩; rw [← hcs]; (with_reducible refine (layer_any _ _ _ _ _ _ _ _ rfl rfl (((W1.alloc (.cells cs.toArray 46)).alloc (.cells #[.slice none 0 0, .slice none 0 0, .slice none 0 0, .slice none 0 0] 27)).drew)).mono ?_); rintro e w23 ⟨rfl, hb23⟩; have hlb := lay_before (m := 11) (nums := [m0, 1, 0, 0, 0, 0, a1, N2, N4, 0, 0]) (P := .slice A8 (n - 8) (c - 8)) (by rw [hcs]; rfl) rfl HBE.out (Nat.le_refl _) (by omega) rfl HBK.out hb23; have p0 := hlb.1.cell 0; have p1 := hlb.1.cell 1; have p2 := hlb.1.cell 2; have p3 := hlb.1.cell 3; have pf0 := hlb.1.frozen 0; have pf1 := hlb.1.frozen 1; have pf2 := hlb.1.frozen 2; have pf3 := hlb.1.frozen 3; simp only [List.getElem?_cons_zero, List.getElem?_cons_succ] at p0 p1 p2 p3; have hgl : g ≠ W1.heap.size + 1 := (by omega); have y1 := (low_below (g := g) (i := o + 1) hb23 (by simp <;> omega)).trans ((low_alloc2 hgW).trans x1)) | (go_at_call 45; obtain ⟨cs, hcs⟩ : ∃ cs : List Value, cs = [.int .u64 m0, .int .u64 1, .int .u64 0, .int .u64 0, .int .u64 0, .int .u64 0, .int .u64 a1, .int .u64 N2, .int .u64 N4, .int .u64 0, .int .u64 0] := ⟨_, rfl⟩; rw [← hcs]; (with_reducible refine (layer_any _ _ _ _ _ _ _ _ rfl rfl (((W1.alloc (.cells #[.slice none 0 0, .slice none 0 0, .slice none 0 0, .slice none 0 0] 27)).alloc (.cells cs.toArray 46)).drew)).mono ?_); rintro e w23 ⟨rfl, hb23⟩; have hlb := lay_first (m := 11) (nums := [m0, 1, 0, 0, 0, 0, a1, N2, N4, 0, 0]) (P := .slice A8 (n - 8) (c - 8)) (by rw [hcs]; rfl) rfl HBE.out (Nat.le_refl _) (by omega) rfl HBK.out hb23; have p0 := hlb.1.cell 0; have p1 := hlb.1.cell 1; have p2 := hlb.1.cell 2; have p3 := hlb.1.cell 3; have pf0 := hlb.1.frozen 0; have pf1 := hlb.1.frozen 1; have pf2 := hlb.1.frozen 2; have pf3 := hlb.1.frozen 3; simp only [List.getElem?_cons_zero, List.getElem?_cons_succ] at p0 p1 p2 p3; have hgl : g ≠ W1.heap.size := (by omega); have y1 := (low_below (g := g) (i := o + 1) hb23 (by simp <;> omega)).trans ((low_alloc2 hgW).trans x1))))
  all_goals
    first
    | (obtain ⟨l, hl⟩ : ∃ l, l = w23.heap.size := ⟨_, rfl⟩
       have hlay := lay_after (m := 11) (nums := [m0, 1, 0, 0, 0, 0, a1, N2, N4, 0, 0]) (P := .slice A8 (n - 8) (c - 8)) (by rw [hcs]; rfl) rfl HBE.out (Nat.le_refl _) (by omega) HBK.out hb23
       obtain ⟨W3, hW3⟩ : ∃ W3, W3 = w23.alloc (.cells #[.slice (some ⟨W1.heap.size, 0, none⟩) 11 11, .slice none 0 0, .slice none 0 0, .slice A8 (n - 8) (c - 8)] 27) := ⟨_, rfl⟩
       obtain ⟨gn, hgn⟩ : ∃ gn, gn = W1.heap.size := ⟨_, rfl⟩
       rw [← hW3, ← hl, ← hgn] at hlay
       rw [← hW3, ← hl]
       try rw [← hgn]
       clear hW3 hl hgn hcs hb23)
    | (obtain ⟨l, hl⟩ : ∃ l, l = W1.heap.size + 1 := ⟨_, rfl⟩
       obtain ⟨gn, hgn⟩ : ∃ gn, gn = W1.heap.size := ⟨_, rfl⟩
       have hlay := hlb.2
       obtain ⟨W3, hW3⟩ : ∃ W3, W3 = set4 w23 (W1.heap.size + 1) (.slice (some ⟨W1.heap.size, 0, none⟩) 11 11) (.slice none 0 0) (.slice none 0 0) (.slice A8 (n - 8) (c - 8)) := ⟨_, rfl⟩
       rw [← hW3, ← hl, ← hgn] at hlay
       rw [show ((((w23.setCell ⟨W1.heap.size + 1, 0, none⟩ (.slice (some ⟨W1.heap.size, 0, none⟩) 11 11)).setCell ⟨W1.heap.size + 1, 1, none⟩ (.slice none 0 0)).setCell ⟨W1.heap.size + 1, 2, none⟩ (.slice none 0 0)).setCell ⟨W1.heap.size + 1, 3, none⟩ (.slice A8 (n - 8) (c - 8))) = W3 from hW3.symm, ← hl]
       try rw [← hgn]
       clear hW3 hl hgn hlb hcs hb23 p0 p1 p2 p3 pf0 pf1 pf2 pf3)
    | (obtain ⟨l, hl⟩ : ∃ l, l = W1.heap.size := ⟨_, rfl⟩
       obtain ⟨gn, hgn⟩ : ∃ gn, gn = W1.heap.size + 1 := ⟨_, rfl⟩
       have hlay := hlb.2
       obtain ⟨W3, hW3⟩ : ∃ W3, W3 = set4 w23 (W1.heap.size) (.slice (some ⟨W1.heap.size + 1, 0, none⟩) 11 11) (.slice none 0 0) (.slice none 0 0) (.slice A8 (n - 8) (c - 8)) := ⟨_, rfl⟩
       rw [← hW3, ← hgn, ← hl] at hlay
       rw [show ((((w23.setCell ⟨W1.heap.size, 0, none⟩ (.slice (some ⟨W1.heap.size + 1, 0, none⟩) 11 11)).setCell ⟨W1.heap.size, 1, none⟩ (.slice none 0 0)).setCell ⟨W1.heap.size, 2, none⟩ (.slice none 0 0)).setCell ⟨W1.heap.size, 3, none⟩ (.slice A8 (n - 8) (c - 8))) = W3 from hW3.symm, ← hl]
       try rw [← hgn]
       clear hW3 hl hgn hlb hcs hb23 p0 p1 p2 p3 pf0 pf1 pf2 pf3)
    have HLAY := Lib.hid hlay
    have l0 := hlay.hl.cell 0
    have l1 := hlay.hl.cell 1
    have l2 := hlay.hl.cell 2
    have l3 := hlay.hl.cell 3
    have lf0 := hlay.hl.frozen 0
    have lf1 := hlay.hl.frozen 1
    have lf2 := hlay.hl.frozen 2
    have lf3 := hlay.hl.frozen 3
    simp only [List.getElem?_cons_zero, List.getElem?_cons_succ] at l0 l1 l2 l3
    have hll := hlay.hl.lt
    have hbl := hlay.bl
    have hwl := hlay.wl
    have hrl := hlay.hr.lt
    have hz3 := hlay.be.size
    clear hlay
    go_wp2_with fail
    refine (num_sl _ 2 _ B0 ((xs.drop 2).take 2) _ (by omega) (HV2.out.below (HLAY.out.be.mono hB0))).mono ?_
    rintro e w9 ⟨rfl, rfl⟩
    rw [HNN2.out]
    obtain ⟨gn', hgn', hNb, hwn, hnl, hbn⟩ := HLAY.out.hN
    cases hgn'
    have HNB := Lib.hid hNb
    have k0 := HLAY.out.hr.cell 0
    have k1 := HLAY.out.hr.cell 1
    have k2 := HLAY.out.hr.cell 2
    have k3 := HLAY.out.hr.cell 3
    have f0 := HLAY.out.hr.frozen 0
    have f1 := HLAY.out.hr.frozen 1
    have f2 := HLAY.out.hr.frozen 2
    have f3 := HLAY.out.hr.frozen 3
    simp only [List.getElem?_cons_zero, List.getElem?_cons_succ] at k0 k1 k2 k3
    clear hNb
    go_wp2_with fail
    obtain ⟨z0, z1, z2, z3⟩ := set4_cells HLAY.out.hr (.slice none 0 0) (.slice none 0 0) (.slice none 0 0) (.slice none 0 0)
    have hfb := set4_below HLAY.out.be w.heap.size (Nat.le_refl _) (.slice none 0 0) (.slice none 0 0) (.slice none 0 0) (.slice none 0 0)
    exact bodyPost_ret (v := .tuple #[.agg #[.slice none 0 0, .slice none 0 0, .slice none 0 0, .slice none 0 0], .bool false, .bool false]) (by simp [results, Tryz.results52, go_sem, z0, z1, z2, z3]) rfl (hR.out _ _ ⟨_, _, _, _, _, _, _, _, _, _, _, _, _, rfl, hfb⟩)
end Go.Proofs.YtphmklgbbpiafaaGreat
