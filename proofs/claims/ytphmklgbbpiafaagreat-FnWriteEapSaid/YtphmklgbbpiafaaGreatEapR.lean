/-
  EAP: the reference's reader. No condition.
-/
import Derived.Deep.RegionHeld3
import Derived.Deep.Cut
import Derived.Test.YtphmklgbbpiafaaGreatSrdA
import Derived.Test.YtphmklgbbpiafaaGreatLayA
import Derived.Test.YtphmklgbbpiafaaGreatWritB
namespace Go.Proofs.YtphmklgbbpiafaaGreat
open Go Go.RowKit
set_option linter.unusedVariables false
set_option linter.unusedSimpArgs false
attribute [local go_sem] sd_drewN ad_drewN
set_option maxRecDepth 1000000 in
set_option maxHeartbeats 10000000 in
theorem srd_eap (xs : List UInt8) (hN : Lib.beNat ((xs.drop 2).take 2) = xs.length) (h4 : 5 ≤ xs.length) (hn : xs.length ≤ 1000) : Srd 50 xs [(xs.getD 0 0).toNat, (xs.getD 1 0).toNat, xs.length, (xs.getD 4 0).toNat] [xs.drop 5] [] := by
  intro A n c B0 B1 w hs hB0 hB1 hnc
  refine calls_hid fun R hR => ?_
  have hl : xs.length = n := by rw [← bcs_length]; exact hs.1
  rw [hl] at h4 hn
  obtain ⟨g, o, rfl, hg, _⟩ := hs.2 (by omega)
  have hgw : g < w.heap.size := by omega
  have b0 := (xs.getD 0 0).toNat_lt
  have x0 : w.cell? ⟨g, o, none⟩ = some (.int .u8 (xs.getD 0 0).toNat) := hs.byte (k := 0) (by omega)
  have z0 : 0 < n := by omega
  have i0 : (0 : Int) < (n : Int) := by omega
  have b1 := (xs.getD 1 0).toNat_lt
  have x1 : w.cell? ⟨g, o + 1, none⟩ = some (.int .u8 (xs.getD 1 0).toNat) := hs.byte (k := 1) (by omega)
  have z1 : 1 < n := by omega
  have i1 : (1 : Int) < (n : Int) := by omega
  have b4 := (xs.getD 4 0).toNat_lt
  have x4 : w.cell? ⟨g, o + 4, none⟩ = some (.int .u8 (xs.getD 4 0).toNat) := hs.byte (k := 4) (by omega)
  have z4 : 4 < n := by omega
  have i4 : (4 : Int) < (n : Int) := by omega
  rw [hl] at hN hR
  obtain ⟨A5, cut5, cs5, cf5⟩ := cut_from g o n c 5 5 rfl (by omega) hnc
  have hpl := cs5 w B0 _ hs
  have hm2 : Sl w B0 (some ⟨g, o + 2, none⟩) 2 (bcs ((xs.drop 2).take 2)) := (hs.drop_ (k := 2) (by omega)).take_ (by omega)
  have HM2 := Lib.hid hm2
  clear hm2
  have jz2 : ¬ (c : Int) = 2 := by omega
  have jy2 : ¬ c = 2 := by omega
  have jc4 : (4 : Int) ≤ (c : Int) := by omega
  generalize (xs.getD 0 0).toNat = a0 at *
  generalize (xs.getD 1 0).toNat = a1 at *
  generalize (xs.getD 4 0).toNat = a4 at *
  have u0 : IntKind.u64.wrap (a0 : Int) = a0 := IntWalk.u64_in _ (by omega)
  have u1 : IntKind.u64.wrap (a1 : Int) = a1 := IntWalk.u64_in _ (by omega)
  have u4 : IntKind.u64.wrap (a4 : Int) = a4 := IntWalk.u64_in _ (by omega)
  have un : IntKind.u64.wrap (n : Int) = n := IntWalk.u64_in _ (by omega)
  have vn : IntKind.i64.wrap (n : Int) = n := IntWalk.i64_in _ (by omega)
  have tn4 : decide ((n : Int) < 4) = false := by simp; omega
  have tg4 : decide ((4 : Int) < (n : Int)) = true := by simp; omega
  have jc5 : (5 : Int) ≤ (c : Int) := by omega
  have jn5 : (5 : Int) ≤ (n : Int) := by omega
  have HS := Lib.hid hs
  have HPL := Lib.hid hpl
  have HF5 := Lib.hid cf5
  have HN := Lib.hid hN
  have HLN := Lib.hid hl
  clear hs hpl cs5 cf5 hN hl
  go_enter Tryz.func50, Tryz.ntmps50
  go_wp2_with fail
  obtain ⟨W1, hW1⟩ : ∃ W1, W1 = w.alloc (.cells #[.slice none 0 0, .slice none 0 0, .slice none 0 0, .slice none 0 0] 27) := ⟨_, rfl⟩
  rw [← hW1]
  have hbk : Bk W1 w.heap.size 27 [.slice none 0 0, .slice none 0 0, .slice none 0 0, .slice none 0 0] := by rw [hW1]; exact Bk.new _ _ _
  have hbe1 : Below w.heap.size w W1 := by rw [hW1]; exact (Below.refl _ _).alloc (Nat.le_refl _) _
  have hsz : w.heap.size + 1 ≤ W1.heap.size := by rw [hW1]; simp
  have HBK := Lib.hid hbk
  have HBE := Lib.hid hbe1
  have HS1 := Lib.hid (HS.out.below (hbe1.mono hB0))
  have hgW : g < W1.heap.size := by omega
  have hgb : g ≠ w.heap.size := by omega
  have HXB0 := Lib.hid x0
  have x0 := (low_below (g := g) (i := o) hbe1 hgw).trans x0
  have HXB1 := Lib.hid x1
  have x1 := (low_below (g := g) (i := o + 1) hbe1 hgw).trans x1
  have HXB4 := Lib.hid x4
  have x4 := (low_below (g := g) (i := o + 4) hbe1 hgw).trans x4
  have HM2 := Lib.hid (HM2.out.below (hbe1.mono hB0))
  clear hW1 hbk hbe1
  refine (num_sl _ 2 _ B0 ((xs.drop 2).take 2) _ (by omega) HM2.out).mono ?_
  rintro e w1 ⟨rfl, rfl⟩
  rw [HN.out]
  go_wp2_with fail
  go_region_held3 (fun w' => w'.cell? ⟨g, o, none⟩ = some (.int .u8 a0) ∧ w'.cell? ⟨g, o + 1, none⟩ = some (.int .u8 a1))
    (first | with_reducible exact ⟨y0, y1⟩ | with_reducible exact ⟨low_drew.trans x0, low_drew.trans x1⟩ | with_reducible exact ⟨(low_alloc hgW).trans x0, (low_alloc hgW).trans x1⟩ | with_reducible exact ⟨(low_alloc2 hgW).trans x0, (low_alloc2 hgW).trans x1⟩ | with_reducible exact ⟨(low_alloc0 hg23).trans y0, (low_alloc0 hg23).trans y1⟩ | exact ⟨(set4_low hgl).trans y0, (set4_low hgl).trans y1⟩)
    ((first | (go_at_call 45; obtain ⟨cs, hcs⟩ : ∃ cs : List Value, cs = [.int .u64 a0, .int .u64 a1, .int .u64 n, .int .u64 0] := ⟨_, rfl⟩; rw [← hcs]; (with_reducible refine (layer_any _ _ _ _ _ _ _ _ rfl rfl ((W1.alloc (.cells cs.toArray 46)).drew)).mono ?_); rintro e w23 ⟨rfl, hb23⟩; have hg23 : g < w23.heap.size := (by have hq := hb23.size; have hq2 : W1.heap.size + 1 ≤ w23.heap.size := (by simpa using hq); omega); have y0 := (low_below (g := g) (i := o) hb23 (by simp <;> omega)).trans ((low_alloc hgW).trans x0); have y1 := (low_below (g := g) (i := o + 1) hb23 (by simp <;> omega)).trans ((low_alloc hgW).trans x1)) | (go_at_call 45; obtain ⟨cs, hcs⟩ : ∃ cs : List Value, cs = [.int .u64 a0, .int .u64 a1, .int .u64 n, .int .u64 0] := ⟨_, rfl⟩; rw [← hcs]; (with_reducible refine (layer_any _ _ _ _ _ _ _ _ rfl rfl (((W1.alloc (.cells cs.toArray 46)).alloc (.cells #[.slice none 0 0, .slice none 0 0, .slice none 0 0, .slice none 0 0] 27)).drew)).mono ?_); rintro e w23 ⟨rfl, hb23⟩; have hlb := lay_before (m := 4) (nums := [a0, a1, n, 0]) (P := .slice none 0 0) (by rw [hcs]; rfl) rfl HBE.out (Nat.le_refl _) (by omega) rfl HBK.out hb23; have p0 := hlb.1.cell 0; have p1 := hlb.1.cell 1; have p2 := hlb.1.cell 2; have p3 := hlb.1.cell 3; have pf0 := hlb.1.frozen 0; have pf1 := hlb.1.frozen 1; have pf2 := hlb.1.frozen 2; have pf3 := hlb.1.frozen 3; simp only [List.getElem?_cons_zero, List.getElem?_cons_succ] at p0 p1 p2 p3; have hgl : g ≠ W1.heap.size + 1 := (by omega); have y0 := (low_below (g := g) (i := o) hb23 (by simp <;> omega)).trans ((low_alloc2 hgW).trans x0); have y1 := (low_below (g := g) (i := o + 1) hb23 (by simp <;> omega)).trans ((low_alloc2 hgW).trans x1)) | (go_at_call 45; obtain ⟨cs, hcs⟩ : ∃ cs : List Value, cs = [.int .u64 a0, .int .u64 a1, .int .u64 n, .int .u64 0] := ⟨_, rfl⟩; rw [← hcs]; (with_reducible refine (layer_any _ _ _ _ _ _ _ _ rfl rfl (((W1.alloc (.cells #[.slice none 0 0, .slice none 0 0, .slice none 0 0, .slice none 0 0] 27)).alloc (.cells cs.toArray 46)).drew)).mono ?_); rintro e w23 ⟨rfl, hb23⟩; have hlb := lay_first (m := 4) (nums := [a0, a1, n, 0]) (P := .slice none 0 0) (by rw [hcs]; rfl) rfl HBE.out (Nat.le_refl _) (by omega) rfl HBK.out hb23; have p0 := hlb.1.cell 0; have p1 := hlb.1.cell 1; have p2 := hlb.1.cell 2; have p3 := hlb.1.cell 3; have pf0 := hlb.1.frozen 0; have pf1 := hlb.1.frozen 1; have pf2 := hlb.1.frozen 2; have pf3 := hlb.1.frozen 3; simp only [List.getElem?_cons_zero, List.getElem?_cons_succ] at p0 p1 p2 p3; have hgl : g ≠ W1.heap.size := (by omega); have y0 := (low_below (g := g) (i := o) hb23 (by simp <;> omega)).trans ((low_alloc2 hgW).trans x0); have y1 := (low_below (g := g) (i := o + 1) hb23 (by simp <;> omega)).trans ((low_alloc2 hgW).trans x1))))
  all_goals
    first
    | (obtain ⟨l, hl⟩ : ∃ l, l = w23.heap.size := ⟨_, rfl⟩
       have hlay := lay_after (m := 4) (nums := [a0, a1, n, 0]) (P := .slice none 0 0) (by rw [hcs]; rfl) rfl HBE.out (Nat.le_refl _) (by omega) HBK.out hb23
       obtain ⟨W3, hW3⟩ : ∃ W3, W3 = w23.alloc (.cells #[.slice (some ⟨W1.heap.size, 0, none⟩) 4 4, .slice none 0 0, .slice none 0 0, .slice none 0 0] 27) := ⟨_, rfl⟩
       obtain ⟨gn, hgn⟩ : ∃ gn, gn = W1.heap.size := ⟨_, rfl⟩
       rw [← hW3, ← hl, ← hgn] at hlay
       rw [← hW3, ← hl]
       try rw [← hgn]
       clear hW3 hl hgn hcs hb23)
    | (obtain ⟨l, hl⟩ : ∃ l, l = W1.heap.size + 1 := ⟨_, rfl⟩
       obtain ⟨gn, hgn⟩ : ∃ gn, gn = W1.heap.size := ⟨_, rfl⟩
       have hlay := hlb.2
       obtain ⟨W3, hW3⟩ : ∃ W3, W3 = set4 w23 (W1.heap.size + 1) (.slice (some ⟨W1.heap.size, 0, none⟩) 4 4) (.slice none 0 0) (.slice none 0 0) (.slice none 0 0) := ⟨_, rfl⟩
       rw [← hW3, ← hl, ← hgn] at hlay
       rw [show ((((w23.setCell ⟨W1.heap.size + 1, 0, none⟩ (.slice (some ⟨W1.heap.size, 0, none⟩) 4 4)).setCell ⟨W1.heap.size + 1, 1, none⟩ (.slice none 0 0)).setCell ⟨W1.heap.size + 1, 2, none⟩ (.slice none 0 0)).setCell ⟨W1.heap.size + 1, 3, none⟩ (.slice none 0 0)) = W3 from hW3.symm, ← hl]
       try rw [← hgn]
       clear hW3 hl hgn hlb hcs hb23 p0 p1 p2 p3 pf0 pf1 pf2 pf3)
    | (obtain ⟨l, hl⟩ : ∃ l, l = W1.heap.size := ⟨_, rfl⟩
       obtain ⟨gn, hgn⟩ : ∃ gn, gn = W1.heap.size + 1 := ⟨_, rfl⟩
       have hlay := hlb.2
       obtain ⟨W3, hW3⟩ : ∃ W3, W3 = set4 w23 (W1.heap.size) (.slice (some ⟨W1.heap.size + 1, 0, none⟩) 4 4) (.slice none 0 0) (.slice none 0 0) (.slice none 0 0) := ⟨_, rfl⟩
       rw [← hW3, ← hgn, ← hl] at hlay
       rw [show ((((w23.setCell ⟨W1.heap.size, 0, none⟩ (.slice (some ⟨W1.heap.size + 1, 0, none⟩) 4 4)).setCell ⟨W1.heap.size, 1, none⟩ (.slice none 0 0)).setCell ⟨W1.heap.size, 2, none⟩ (.slice none 0 0)).setCell ⟨W1.heap.size, 3, none⟩ (.slice none 0 0)) = W3 from hW3.symm, ← hl]
       try rw [← hgn]
       clear hW3 hl hgn hlb hcs hb23 p0 p1 p2 p3 pf0 pf1 pf2 pf3)
    have HLAY := Lib.hid hlay
    have l0 := hlay.hl.cell 0
    have l1 := hlay.hl.cell 1
    have l2 := hlay.hl.cell 2
    have l3 := hlay.hl.cell 3
    have m0 := hlay.hl.frozen 0
    have m1 := hlay.hl.frozen 1
    have m2 := hlay.hl.frozen 2
    have m3 := hlay.hl.frozen 3
    simp only [List.getElem?_cons_zero, List.getElem?_cons_succ] at l0 l1 l2 l3
    have hll := hlay.hl.lt
    have hbl := hlay.bl
    have hwl := hlay.wl
    have hrl := hlay.hr.lt
    have hz3 := hlay.be.size
    clear hlay
    go_upto_region 9 with fail
    obtain ⟨dv, hdv⟩ : ∃ dv : List Value, dv = [.slice none 0 0] := ⟨_, rfl⟩
    rw [← hdv]
    obtain ⟨gd, hgd⟩ : ∃ gd, gd = W3.heap.size := ⟨_, rfl⟩
    obtain ⟨W4, hW4⟩ : ∃ W4, W4 = (W3.setCell ⟨l, 1, none⟩ (.slice (some ⟨W3.heap.size, 0, none⟩) 1 1)).alloc (.cells dv.toArray 25) := ⟨_, rfl⟩
    rw [← hW4]
    obtain ⟨gn', hgn', hNb, hwn, hnl, hbn⟩ := HLAY.out.hN
    cases hgn'
    have hgr := only_alloc (only_set (p := ⟨l, 1, none⟩) (grownBy_refl' W3 (some l)) (.inl rfl) (.slice (some ⟨W3.heap.size, 0, none⟩) 1 1)) (.cells dv.toArray 25)
    have hl4 : Bk W4 l 27 [.slice (some ⟨gn, 0, none⟩) 4 4, .slice (some ⟨gd, 0, none⟩) 1 1, .slice none 0 0, .slice none 0 0] := by rw [hW4, hgd]; exact (HLAY.out.hl.set_ 1 _).alloc _
    have hr4 : Bk W4 w.heap.size 27 [.slice none 0 0, .slice none 0 0, .slice none 0 0, .slice none 0 0] := by rw [hW4]; exact HLAY.out.hr.grown hgr (by simp; omega)
    have hb4 : Below w.heap.size w W4 := by rw [hW4]; exact HLAY.out.be.trans (grown_below' hgr hz3 (by omega))
    have hN4 : Bk W4 gn 46 (ncs [a0, a1, n, 0]) := by rw [hW4]; exact hNb.grown hgr (by simp; omega)
    have hD4 : Bk W4 gd 25 [.slice none 0 0] := by rw [hW4, hgd, ← hdv]; have := Bk.new (W3.setCell ⟨l, 1, none⟩ (.slice (some ⟨W3.heap.size, 0, none⟩) 1 1)) 25 dv; simpa using this
    have hgd2 : w.heap.size < gd := by omega
    have hgdl : gd ≠ l := by omega
    have hgdn : gd ≠ gn := by have := hNb.lt; omega
    rw [← hgd]
    clear hgd
    have l0 := hl4.cell 0
    have l1 := hl4.cell 1
    have nc3 := hN4.cell 3
    have nf3 := hN4.frozen 3
    have x4 := (low_below (g := g) (i := o + 4) hb4 hgw).trans HXB4.out
    simp only [ncs, List.map_cons, List.map_nil, List.getElem?_cons_zero, List.getElem?_cons_succ] at l0 l1 nc3
    have HL4 := Lib.hid hl4
    have HR4 := Lib.hid hr4
    have HB4 := Lib.hid hb4
    have HN4 := Lib.hid hN4
    have HD4 := Lib.hid hD4
    clear hW4 hl4 hr4 hb4 hN4 hD4 hdv hgr hNb m0 m1 m2 m3 l2 l3
    refine wp_region_tail 7 (by kernel_rfl) (by kernel_rfl) ?_
    simp only [List.take_succ_cons, List.take_zero, List.drop_succ_cons, List.drop_zero]
    repeat still_step
    refine wpStill_nil ?_
    go_wp2_with fail
    obtain ⟨W5, hW5⟩ : ∃ W5, W5 = (W4.setCell ⟨gn, 3, none⟩ (.int .u64 a4)).drew := ⟨_, rfl⟩
    rw [← hW5]
    have hg5 : W4.grownBy W5 (some gn) := by rw [hW5]; exact only_drewN (only_set (p := ⟨gn, 3, none⟩) (grownBy_refl' W4 (some gn)) (.inl rfl) _) 1
    have hl5 := HL4.out.grown hg5 (by simp; omega)
    have hr5 := HR4.out.grown hg5 (by simp; omega)
    have hb5 : Below w.heap.size w W5 := HB4.out.trans (grown_below' hg5 HB4.out.size (by omega))
    have hN5 : Bk W5 gn 46 (ncs [a0, a1, n, a4]) := by rw [hW5]; exact (HN4.out.set_ 3 _).drew
    have hD5 := HD4.out.grown hg5 (by simp; omega)
    have l0 := hl5.cell 0
    have l1 := hl5.cell 1
    have d0 := hD5.cell 0
    have df0 := hD5.frozen 0
    simp only [List.getElem?_cons_zero, List.getElem?_cons_succ] at l0 l1 d0
    have HL5 := Lib.hid hl5
    have HR5 := Lib.hid hr5
    have HB5 := Lib.hid hb5
    have HN5 := Lib.hid hN5
    have HD5 := Lib.hid hD5
    clear hW5 hg5 hl5 hr5 hb5 hN5 hD5 nc3 nf3 x4
    refine wp_region_tail 5 (by kernel_rfl) (by kernel_rfl) ?_
    simp only [List.take_succ_cons, List.take_zero, List.drop_succ_cons, List.drop_zero]
    repeat still_step
    refine wpStill_nil ?_
    go_upto_region 11 with fail
    obtain ⟨W6, hW6⟩ : ∃ W6, W6 = (W5.setCell ⟨gd, 0, none⟩ (.slice A5 (n - 5) (c - 5))).drew := ⟨_, rfl⟩
    rw [← hW6]
    have hg6 : W5.grownBy W6 (some gd) := by rw [hW6]; exact only_drewN (only_set (p := ⟨gd, 0, none⟩) (grownBy_refl' W5 (some gd)) (.inl rfl) _) 1
    have hl6 := HL5.out.grown hg6 (by simp; omega)
    have hr6 := HR5.out.grown hg6 (by simp; omega)
    have hb6 : Below w.heap.size w W6 := HB5.out.trans (grown_below' hg6 HB5.out.size (by omega))
    have hN6 := HN5.out.grown hg6 (by simp; omega)
    have hD6 : Bk W6 gd 25 [.slice A5 (n - 5) (c - 5)] := by rw [hW6]; exact (HD5.out.set_ 0 _).drew
    have k0 := hr6.cell 0
    have f0 := hr6.frozen 0
    have k1 := hr6.cell 1
    have f1 := hr6.frozen 1
    have k2 := hr6.cell 2
    have f2 := hr6.frozen 2
    have k3 := hr6.cell 3
    have f3 := hr6.frozen 3
    have l0 := hl6.cell 0
    have l1 := hl6.cell 1
    have l2 := hl6.cell 2
    have l3 := hl6.cell 3
    simp only [List.getElem?_cons_zero, List.getElem?_cons_succ] at l0 l1 l2 l3 k0 k1 k2 k3
    have HR6 := Lib.hid hr6
    have HB6 := Lib.hid hb6
    have HN6 := Lib.hid hN6
    have HD6 := Lib.hid hD6
    clear hW6 hg6 hl6 hr6 hb6 hN6 hD6 d0 df0
    go_wp2_with fail
    have hz6 := HB6.out.size
    have hsb := HPL.out.below (HB6.out.mono hB0)
    have e5 : (xs.drop 5).length = n - 5 := by have := HLN.out; rw [List.length_drop]; omega
    have hE := EachF.cons (c := c - 5) (EachF.nil W6 W6.heap.size B0 (w.heap.size + 1)) (show Sl W6 W6.heap.size A5 (xs.drop 5).length (bcs (xs.drop 5)) by rw [e5]; exact hsb.more (by omega)) (cut_fr hg HF5.out)
    rw [e5] at hE
    have hLL := LyrF.mk (w := W6) (B := W6.heap.size) (B0 := B0) (B1 := w.heap.size + 1) (nums := [a0, a1, n, a4]) (data := [xs.drop 5]) (pay := []) (cN := 4) (cD := 1) (AP := none) (cP := 0) (cB := 0)
      (HN6.out.sl HN6.out.lt rfl (fun j u hu => by rw [Nat.zero_add]; exact hu))
      (HD6.out.sl HD6.out.lt rfl (fun j u hu => by rw [Nat.zero_add]; exact hu))
      hE (Sl.none_ W6 W6.heap.size none) (Fr2.new (by omega)) (Fr2.new (by omega)) (Fr2.nil _ _)
    have hfin := read_end (w := w) hLL HB6.out hB0 (Nat.lt_succ_self _) (Nat.le_refl _)
    obtain ⟨z0, z1, z2, z3⟩ := set4_cells HR6.out (.slice (some ⟨gn, 0, none⟩) 4 4) (.slice (some ⟨gd, 0, none⟩) 1 1) (.slice none 0 0) (.slice none 0 0)
    exact bodyPost_ret (v := .tuple #[.agg #[.slice (some ⟨gn, 0, none⟩) 4 4, .slice (some ⟨gd, 0, none⟩) 1 1, .slice none 0 0, .slice none 0 0], .bool true, .bool true]) (by simp [results, Tryz.results50, go_sem, z0, z1, z2, z3]) rfl (hR.out _ _ ⟨_, rfl, hfin.1, hfin.2.more (Nat.le_refl _) (Nat.le_refl _) (by omega)⟩)
end Go.Proofs.YtphmklgbbpiafaaGreat
