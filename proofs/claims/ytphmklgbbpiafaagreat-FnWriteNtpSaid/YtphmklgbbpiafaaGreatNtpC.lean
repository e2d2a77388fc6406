/-
  NTP: what the reference reads. No condition.
-/
import Derived.Deep.Cut
import Derived.Deep.RegionHeld3
import Derived.Test.YtphmklgbbpiafaaGreatRdA
import Derived.Test.YtphmklgbbpiafaaGreatCutB
import Derived.Test.YtphmklgbbpiafaaGreatLayA
import Derived.Test.YtphmklgbbpiafaaGreatWritB
import Derived.Test.YtphmklgbbpiafaaGreatMskA
namespace Go.Proofs.YtphmklgbbpiafaaGreat
open Go Go.RowKit
set_option linter.unusedVariables false
set_option linter.unusedSimpArgs false
attribute [local go_sem] sd_drewN ad_drewN

set_option maxRecDepth 1000000 in
set_option maxHeartbeats 20000000 in
theorem sread_ntp (xs : List UInt8) (A : Option Addr) (n c : Nat) (w : World) (hs : Sl w w.heap.size A n (bcs xs)) (h4 : 48 ≤ n) (hnc : n ≤ c) (hn : n ≤ 1000) :
    Calls Tryz.prog 33 #[.string k_ntp, .slice A n c] w fun e w' => ∃ v, e = .returned (.tuple #[v, .bool true, .bool true]) ∧ Below w.heap.size w w' ∧ Lyr w' w'.heap.size v [(xs.getD 0 0).toNat / 64, (xs.getD 0 0).toNat / 8 % 8, (xs.getD 0 0).toNat % 8, (xs.getD 1 0).toNat, (xs.getD 2 0).toNat, (xs.getD 3 0).toNat, Lib.beNat ((xs.drop 4).take 4), Lib.beNat ((xs.drop 8).take 4), Lib.beNat ((xs.drop 12).take 4), Lib.beNat ((xs.drop 16).take 8), Lib.beNat ((xs.drop 24).take 8), Lib.beNat ((xs.drop 32).take 8), Lib.beNat ((xs.drop 40).take 8)] [xs.drop 48] [] := by
  refine calls_hid fun R hR => ?_
  have HS := Lib.hid hs
  obtain ⟨g, o, rfl, hg, _⟩ := hs.2 (by omega)
  clear hs
  obtain ⟨A48, cut48, cs48, cf48⟩ := cut_from g o n c 48 48 rfl (by omega) hnc
  have HC48 := Lib.hid cs48
  have HF48 := Lib.hid cf48
  clear cs48 cf48
  have hmm := @run_makeMap Tryz.prog
  obtain ⟨w1, w2, w3, w4, w5, w6, w7, w8, w9, w10, w11, w12, w13, w14, w15, w16, w17, w18, w19, w20, w21, r1, r2, r3, r4, r5, r6, r7, r8, r9, r10, r11, r12, r13, r14, r15, r16, r17, r18, r19, r20, r21, hmp, hgm⟩ := tab_laid ((w.alloc (.cells #[.slice none 0 0, .slice none 0 0, .slice none 0 0, .slice none 0 0] 27)).alloc (.map #[] 0)) (w.heap.size + 1) (by simpa using Mp.new (w.alloc (.cells #[.slice none 0 0, .slice none 0 0, .slice none 0 0, .slice none 0 0] 27)))
  have hlk := look_ntp w21 _ hmp
  have HGM := Lib.hid hgm
  clear hmp hgm
  have tl : decide ((n : Int) < 48) = false := by simp; omega
  go_enter Tryz.func33, Tryz.ntmps33
  go_wp2_with fail
  have hl : xs.length = n := by rw [← bcs_length]; exact HS.out.1
  have hbe : Below w.heap.size w w21 := (((Below.refl _ w).alloc (Nat.le_refl _) _).alloc (by simp) _).trans (below_of_some HGM.out (by simp; omega) (by omega))
  have hsz : w.heap.size + 2 ≤ w21.heap.size := by have := HGM.out.size; simpa using this
  have hbk : Bk w21 w.heap.size 27 [.slice none 0 0, .slice none 0 0, .slice none 0 0, .slice none 0 0] := ((Bk.new w 27 _).alloc _).grown HGM.out (by simp)
  have HS1 := Lib.hid (HS.out.below hbe)
  have HBE := Lib.hid hbe
  have HL := Lib.hid hl
  have HBK := Lib.hid hbk
  clear hlk r1 r2 r3 r4 r5 r6 r7 r8 r9 r10 r11 r12 r13 r14 r15 r16 r17 r18 r19 r20 r21 hmm hbe hl hbk
  have hgw : g < w21.heap.size := by omega
  have hgW : g < w21.heap.size := hgw
  have hm4 : Sl w21 w.heap.size (some ⟨g, o + 4, none⟩) 4 (bcs ((xs.drop 4).take 4)) := (HS1.out.drop_ (k := 4) (by omega)).take_ (by omega)
  have HM4 := Lib.hid hm4
  clear hm4
  have jz4 : ¬ (c : Int) = 4 := by omega
  have jy4 : ¬ c = 4 := by omega
  have jc8 : (8 : Int) ≤ (c : Int) := by omega
  have hm8 : Sl w21 w.heap.size (some ⟨g, o + 8, none⟩) 4 (bcs ((xs.drop 8).take 4)) := (HS1.out.drop_ (k := 8) (by omega)).take_ (by omega)
  have HM8 := Lib.hid hm8
  clear hm8
  have jz8 : ¬ (c : Int) = 8 := by omega
  have jy8 : ¬ c = 8 := by omega
  have jc12 : (12 : Int) ≤ (c : Int) := by omega
  have hm12 : Sl w21 w.heap.size (some ⟨g, o + 12, none⟩) 4 (bcs ((xs.drop 12).take 4)) := (HS1.out.drop_ (k := 12) (by omega)).take_ (by omega)
  have HM12 := Lib.hid hm12
  clear hm12
  have jz12 : ¬ (c : Int) = 12 := by omega
  have jy12 : ¬ c = 12 := by omega
  have jc16 : (16 : Int) ≤ (c : Int) := by omega
  have hm16 : Sl w21 w.heap.size (some ⟨g, o + 16, none⟩) 8 (bcs ((xs.drop 16).take 8)) := (HS1.out.drop_ (k := 16) (by omega)).take_ (by omega)
  have HM16 := Lib.hid hm16
  clear hm16
  have jz16 : ¬ (c : Int) = 16 := by omega
  have jy16 : ¬ c = 16 := by omega
  have jc24 : (24 : Int) ≤ (c : Int) := by omega
  have hm24 : Sl w21 w.heap.size (some ⟨g, o + 24, none⟩) 8 (bcs ((xs.drop 24).take 8)) := (HS1.out.drop_ (k := 24) (by omega)).take_ (by omega)
  have HM24 := Lib.hid hm24
  clear hm24
  have jz24 : ¬ (c : Int) = 24 := by omega
  have jy24 : ¬ c = 24 := by omega
  have jc32 : (32 : Int) ≤ (c : Int) := by omega
  have hm32 : Sl w21 w.heap.size (some ⟨g, o + 32, none⟩) 8 (bcs ((xs.drop 32).take 8)) := (HS1.out.drop_ (k := 32) (by omega)).take_ (by omega)
  have HM32 := Lib.hid hm32
  clear hm32
  have jz32 : ¬ (c : Int) = 32 := by omega
  have jy32 : ¬ c = 32 := by omega
  have jc40 : (40 : Int) ≤ (c : Int) := by omega
  have hm40 : Sl w21 w.heap.size (some ⟨g, o + 40, none⟩) 8 (bcs ((xs.drop 40).take 8)) := (HS1.out.drop_ (k := 40) (by omega)).take_ (by omega)
  have HM40 := Lib.hid hm40
  clear hm40
  have jz40 : ¬ (c : Int) = 40 := by omega
  have jy40 : ¬ c = 40 := by omega
  have jc48 : (48 : Int) ≤ (c : Int) := by omega
  have x0 : w21.cell? ⟨g, o, none⟩ = some (.int .u8 (xs.getD 0 0).toNat) := HS1.out.byte (k := 0) (by omega)
  have z0 : 0 < n := by omega
  have i0 : (0 : Int) < (n : Int) := by omega
  have hb0 := (xs.getD 0 0).toNat_lt
  generalize (xs.getD 0 0).toNat = a0 at *
  have x1 : w21.cell? ⟨g, o + 1, none⟩ = some (.int .u8 (xs.getD 1 0).toNat) := HS1.out.byte (k := 1) (by omega)
  have z1 : 1 < n := by omega
  have i1 : (1 : Int) < (n : Int) := by omega
  have hb1 := (xs.getD 1 0).toNat_lt
  generalize (xs.getD 1 0).toNat = a1 at *
  have x2 : w21.cell? ⟨g, o + 2, none⟩ = some (.int .u8 (xs.getD 2 0).toNat) := HS1.out.byte (k := 2) (by omega)
  have z2 : 2 < n := by omega
  have i2 : (2 : Int) < (n : Int) := by omega
  have hb2 := (xs.getD 2 0).toNat_lt
  generalize (xs.getD 2 0).toNat = a2 at *
  have x3 : w21.cell? ⟨g, o + 3, none⟩ = some (.int .u8 (xs.getD 3 0).toNat) := HS1.out.byte (k := 3) (by omega)
  have z3 : 3 < n := by omega
  have i3 : (3 : Int) < (n : Int) := by omega
  have hb3 := (xs.getD 3 0).toNat_lt
  generalize (xs.getD 3 0).toNat = a3 at *
  generalize hNN4 : Lib.beNat ((xs.drop 4).take 4) = N4 at *
  have HNN4 := Lib.hid hNN4
  clear hNN4
  generalize hNN8 : Lib.beNat ((xs.drop 8).take 4) = N8 at *
  have HNN8 := Lib.hid hNN8
  clear hNN8
  generalize hNN12 : Lib.beNat ((xs.drop 12).take 4) = N12 at *
  have HNN12 := Lib.hid hNN12
  clear hNN12
  generalize hNN16 : Lib.beNat ((xs.drop 16).take 8) = N16 at *
  have HNN16 := Lib.hid hNN16
  clear hNN16
  generalize hNN24 : Lib.beNat ((xs.drop 24).take 8) = N24 at *
  have HNN24 := Lib.hid hNN24
  clear hNN24
  generalize hNN32 : Lib.beNat ((xs.drop 32).take 8) = N32 at *
  have HNN32 := Lib.hid hNN32
  clear hNN32
  generalize hNN40 : Lib.beNat ((xs.drop 40).take 8) = N40 at *
  have HNN40 := Lib.hid hNN40
  clear hNN40
  have jn48 : (48 : Int) ≤ (n : Int) := by omega
  have q3 : bits .and .u8 ((a0 : Int) / 8) 7 = ((a0 / 8 % 8 : Nat) : Int) := by rw [show (a0 : Int) / 8 = ((a0 / 8 : Nat) : Int) by omega, m8_7 (a0 / 8) (by omega)]
  have q7 := m8_7 a0 (by omega)
  have e6 : (a0 : Int) / 64 = ((a0 / 64 : Nat) : Int) := by omega
  have p0 : a0 / 64 < 256 := by omega
  have p1 : a0 / 8 % 8 < 256 := by omega
  have p2 : a0 % 8 < 256 := by omega
  generalize a0 / 64 = m0 at *
  generalize a0 / 8 % 8 = m1 at *
  generalize a0 % 8 = m2 at *
  have u0 : IntKind.u64.wrap (m0 : Int) = m0 := IntWalk.u64_in _ (by omega)
  have u1 : IntKind.u64.wrap (m1 : Int) = m1 := IntWalk.u64_in _ (by omega)
  have u2 : IntKind.u64.wrap (m2 : Int) = m2 := IntWalk.u64_in _ (by omega)
  have u3 : IntKind.u64.wrap (a1 : Int) = a1 := IntWalk.u64_in _ (by omega)
  have u4 : IntKind.u64.wrap (a2 : Int) = a2 := IntWalk.u64_in _ (by omega)
  have u5 : IntKind.u64.wrap (a3 : Int) = a3 := IntWalk.u64_in _ (by omega)
  go_region_held3 (fun w' => w'.cell? ⟨g, o, none⟩ = some (.int .u8 a0) ∧ w'.cell? ⟨g, o + 1, none⟩ = some (.int .u8 a1) ∧ w'.cell? ⟨g, o + 2, none⟩ = some (.int .u8 a2) ∧ w'.cell? ⟨g, o + 3, none⟩ = some (.int .u8 a3))
    (first | with_reducible exact ⟨y0, y1, y2, y3⟩ | with_reducible exact ⟨low_drew.trans x0, low_drew.trans x1, low_drew.trans x2, low_drew.trans x3⟩ | with_reducible exact ⟨(low_alloc hgW).trans x0, (low_alloc hgW).trans x1, (low_alloc hgW).trans x2, (low_alloc hgW).trans x3⟩ | with_reducible exact ⟨(low_alloc2 hgW).trans x0, (low_alloc2 hgW).trans x1, (low_alloc2 hgW).trans x2, (low_alloc2 hgW).trans x3⟩ | with_reducible exact ⟨(low_alloc0 hg23).trans y0, (low_alloc0 hg23).trans y1, (low_alloc0 hg23).trans y2, (low_alloc0 hg23).trans y3⟩ | exact ⟨(set4_low hgl).trans y0, (set4_low hgl).trans y1, (set4_low hgl).trans y2, (set4_low hgl).trans y3⟩)
    ((first | (go_at_call 46; (first | ((with_reducible refine (num_still _ 4 _ w.heap.size ((xs.drop 4).take 4) _ (by omega) (HM4.out.below (by first | exact (Below.refl _ _).drew | exact ((Below.refl _ _).alloc (by omega) _).drew))).mono ?_); rintro e w' ⟨rfl, rfl⟩; rw [HNN4.out]) | ((with_reducible refine (num_still _ 4 _ w.heap.size ((xs.drop 8).take 4) _ (by omega) (HM8.out.below (by first | exact (Below.refl _ _).drew | exact ((Below.refl _ _).alloc (by omega) _).drew))).mono ?_); rintro e w' ⟨rfl, rfl⟩; rw [HNN8.out]) | ((with_reducible refine (num_still _ 4 _ w.heap.size ((xs.drop 12).take 4) _ (by omega) (HM12.out.below (by first | exact (Below.refl _ _).drew | exact ((Below.refl _ _).alloc (by omega) _).drew))).mono ?_); rintro e w' ⟨rfl, rfl⟩; rw [HNN12.out]) | ((with_reducible refine (num_still _ 8 _ w.heap.size ((xs.drop 16).take 8) _ (by omega) (HM16.out.below (by first | exact (Below.refl _ _).drew | exact ((Below.refl _ _).alloc (by omega) _).drew))).mono ?_); rintro e w' ⟨rfl, rfl⟩; rw [HNN16.out]) | ((with_reducible refine (num_still _ 8 _ w.heap.size ((xs.drop 24).take 8) _ (by omega) (HM24.out.below (by first | exact (Below.refl _ _).drew | exact ((Below.refl _ _).alloc (by omega) _).drew))).mono ?_); rintro e w' ⟨rfl, rfl⟩; rw [HNN24.out]) | ((with_reducible refine (num_still _ 8 _ w.heap.size ((xs.drop 32).take 8) _ (by omega) (HM32.out.below (by first | exact (Below.refl _ _).drew | exact ((Below.refl _ _).alloc (by omega) _).drew))).mono ?_); rintro e w' ⟨rfl, rfl⟩; rw [HNN32.out]) | ((with_reducible refine (num_still _ 8 _ w.heap.size ((xs.drop 40).take 8) _ (by omega) (HM40.out.below (by first | exact (Below.refl _ _).drew | exact ((Below.refl _ _).alloc (by omega) _).drew))).mono ?_); rintro e w' ⟨rfl, rfl⟩; rw [HNN40.out]))) | (go_at_call 45; obtain ⟨cs, hcs⟩ : ∃ cs : List Value, cs = [.int .u64 m0, .int .u64 m1, .int .u64 m2, .int .u64 a1, .int .u64 a2, .int .u64 a3, .int .u64 N4, .int .u64 N8, .int .u64 N12, .int .u64 N16, .int .u64 N24, .int .u64 N32, .int .u64 N40] := ⟨_, rfl⟩; rw [← hcs]; (with_reducible refine (layer_any _ _ _ _ _ _ _ _ rfl rfl ((w21.alloc (.cells cs.toArray 46)).drew)).mono ?_); rintro e w23 ⟨rfl, hb23⟩; have hg23 : g < w23.heap.size := (by have hq := hb23.size; have hq2 : w21.heap.size + 1 ≤ w23.heap.size := (by simpa using hq); omega); have y0 := (low_below (g := g) (i := o) hb23 (by simp <;> omega)).trans ((low_alloc hgW).trans x0); have y1 := (low_below (g := g) (i := o + 1) hb23 (by simp <;> omega)).trans ((low_alloc hgW).trans x1); have y2 := (low_below (g := g) (i := o + 2) hb23 (by simp <;> omega)).trans ((low_alloc hgW).trans x2); have y3 := (low_below (g := g) (i := o + 3) hb23 (by simp <;> omega)).trans ((low_alloc hgW).trans x3)) | (go_at_call 45; obtain ⟨cs, hcs⟩ : ∃ cs : List Value, cs = [.int .u64 m0, .int .u64 m1, .int .u64 m2, .int .u64 a1, .int .u64 a2, .int .u64 a3, .int .u64 N4, .int .u64 N8, .int .u64 N12, .int .u64 N16, .int .u64 N24, .int .u64 N32, .int .u64 N40] := ⟨_, rfl⟩; rw [← hcs]; (with_reducible refine (layer_any _ _ _ _ _ _ _ _ rfl rfl (((w21.alloc (.cells cs.toArray 46)).alloc (.cells #[.slice none 0 0, .slice none 0 0, .slice none 0 0, .slice none 0 0] 27)).drew)).mono ?_); rintro e w23 ⟨rfl, hb23⟩; have hlb := lay_before (m := 13) (nums := [m0, m1, m2, a1, a2, a3, N4, N8, N12, N16, N24, N32, N40]) (P := .slice none 0 0) (by rw [hcs]; rfl) rfl HBE.out (Nat.le_refl _) (by omega) rfl HBK.out hb23; have p0 := hlb.1.cell 0; have p1 := hlb.1.cell 1; have p2 := hlb.1.cell 2; have p3 := hlb.1.cell 3; have pf0 := hlb.1.frozen 0; have pf1 := hlb.1.frozen 1; have pf2 := hlb.1.frozen 2; have pf3 := hlb.1.frozen 3; simp only [List.getElem?_cons_zero, List.getElem?_cons_succ] at p0 p1 p2 p3; have hgl : g ≠ w21.heap.size + 1 := (by omega); have y0 := (low_below (g := g) (i := o) hb23 (by simp <;> omega)).trans ((low_alloc2 hgW).trans x0); have y1 := (low_below (g := g) (i := o + 1) hb23 (by simp <;> omega)).trans ((low_alloc2 hgW).trans x1); have y2 := (low_below (g := g) (i := o + 2) hb23 (by simp <;> omega)).trans ((low_alloc2 hgW).trans x2); have y3 := (low_below (g := g) (i := o + 3) hb23 (by simp <;> omega)).trans ((low_alloc2 hgW).trans x3)) | (go_at_call 45; obtain ⟨cs, hcs⟩ : ∃ cs : List Value, cs = [.int .u64 m0, .int .u64 m1, .int .u64 m2, .int .u64 a1, .int .u64 a2, .int .u64 a3, .int .u64 N4, .int .u64 N8, .int .u64 N12, .int .u64 N16, .int .u64 N24, .int .u64 N32, .int .u64 N40] := ⟨_, rfl⟩; rw [← hcs]; (with_reducible refine (layer_any _ _ _ _ _ _ _ _ rfl rfl (((w21.alloc (.cells #[.slice none 0 0, .slice none 0 0, .slice none 0 0, .slice none 0 0] 27)).alloc (.cells cs.toArray 46)).drew)).mono ?_); rintro e w23 ⟨rfl, hb23⟩; have hlb := lay_first (m := 13) (nums := [m0, m1, m2, a1, a2, a3, N4, N8, N12, N16, N24, N32, N40]) (P := .slice none 0 0) (by rw [hcs]; rfl) rfl HBE.out (Nat.le_refl _) (by omega) rfl HBK.out hb23; have p0 := hlb.1.cell 0; have p1 := hlb.1.cell 1; have p2 := hlb.1.cell 2; have p3 := hlb.1.cell 3; have pf0 := hlb.1.frozen 0; have pf1 := hlb.1.frozen 1; have pf2 := hlb.1.frozen 2; have pf3 := hlb.1.frozen 3; simp only [List.getElem?_cons_zero, List.getElem?_cons_succ] at p0 p1 p2 p3; have hgl : g ≠ w21.heap.size := (by omega); have y0 := (low_below (g := g) (i := o) hb23 (by simp <;> omega)).trans ((low_alloc2 hgW).trans x0); have y1 := (low_below (g := g) (i := o + 1) hb23 (by simp <;> omega)).trans ((low_alloc2 hgW).trans x1); have y2 := (low_below (g := g) (i := o + 2) hb23 (by simp <;> omega)).trans ((low_alloc2 hgW).trans x2); have y3 := (low_below (g := g) (i := o + 3) hb23 (by simp <;> omega)).trans ((low_alloc2 hgW).trans x3))))
  all_goals
    first
    | (obtain ⟨l, hl⟩ : ∃ l, l = w23.heap.size := ⟨_, rfl⟩
       have hlay := lay_after (m := 13) (nums := [m0, m1, m2, a1, a2, a3, N4, N8, N12, N16, N24, N32, N40]) (P := .slice none 0 0) (by rw [hcs]; rfl) rfl HBE.out (Nat.le_refl _) (by omega) HBK.out hb23
       obtain ⟨W3, hW3⟩ : ∃ W3, W3 = w23.alloc (.cells #[.slice (some ⟨w21.heap.size, 0, none⟩) 13 13, .slice none 0 0, .slice none 0 0, .slice none 0 0] 27) := ⟨_, rfl⟩
       obtain ⟨gn, hgn⟩ : ∃ gn, gn = w21.heap.size := ⟨_, rfl⟩
       rw [← hW3, ← hl, ← hgn] at hlay
       rw [← hW3, ← hl]
       try rw [← hgn]
       clear hW3 hl hgn hcs hb23)
    | (obtain ⟨l, hl⟩ : ∃ l, l = w21.heap.size + 1 := ⟨_, rfl⟩
       obtain ⟨gn, hgn⟩ : ∃ gn, gn = w21.heap.size := ⟨_, rfl⟩
       have hlay := hlb.2
       obtain ⟨W3, hW3⟩ : ∃ W3, W3 = set4 w23 (w21.heap.size + 1) (.slice (some ⟨w21.heap.size, 0, none⟩) 13 13) (.slice none 0 0) (.slice none 0 0) (.slice none 0 0) := ⟨_, rfl⟩
       rw [← hW3, ← hl, ← hgn] at hlay
       rw [show ((((w23.setCell ⟨w21.heap.size + 1, 0, none⟩ (.slice (some ⟨w21.heap.size, 0, none⟩) 13 13)).setCell ⟨w21.heap.size + 1, 1, none⟩ (.slice none 0 0)).setCell ⟨w21.heap.size + 1, 2, none⟩ (.slice none 0 0)).setCell ⟨w21.heap.size + 1, 3, none⟩ (.slice none 0 0)) = W3 from hW3.symm, ← hl]
       try rw [← hgn]
       clear hW3 hl hgn hlb hcs hb23 p0 p1 p2 p3 pf0 pf1 pf2 pf3)
    | (obtain ⟨l, hl⟩ : ∃ l, l = w21.heap.size := ⟨_, rfl⟩
       obtain ⟨gn, hgn⟩ : ∃ gn, gn = w21.heap.size + 1 := ⟨_, rfl⟩
       have hlay := hlb.2
       obtain ⟨W3, hW3⟩ : ∃ W3, W3 = set4 w23 (w21.heap.size) (.slice (some ⟨w21.heap.size + 1, 0, none⟩) 13 13) (.slice none 0 0) (.slice none 0 0) (.slice none 0 0) := ⟨_, rfl⟩
       rw [← hW3, ← hgn, ← hl] at hlay
       rw [show ((((w23.setCell ⟨w21.heap.size, 0, none⟩ (.slice (some ⟨w21.heap.size + 1, 0, none⟩) 13 13)).setCell ⟨w21.heap.size, 1, none⟩ (.slice none 0 0)).setCell ⟨w21.heap.size, 2, none⟩ (.slice none 0 0)).setCell ⟨w21.heap.size, 3, none⟩ (.slice none 0 0)) = W3 from hW3.symm, ← hl]
       try rw [← hgn]
       clear hW3 hl hgn hlb hcs hb23 p0 p1 p2 p3 pf0 pf1 pf2 pf3)
    as_aux_lemma =>
      have HLAY := Lib.hid hlay
      have l0 := hlay.hl.cell 0
      have l1 := hlay.hl.cell 1
      have l2 := hlay.hl.cell 2
      have l3 := hlay.hl.cell 3
      have lf0 := hlay.hl.frozen 0
      have lf1 := hlay.hl.frozen 1
      have lf2 := hlay.hl.frozen 2
      have lf3 := hlay.hl.frozen 3
      simp only [List.getElem?_cons_zero, List.getElem?_cons_succ] at l0 l1 l2 l3
      have hll := hlay.hl.lt
      have hbl := hlay.bl
      have hwl := hlay.wl
      have hrl := hlay.hr.lt
      have hz3 := hlay.be.size
      clear hlay
      go_upto_region 44 with fail
      obtain ⟨dv, hdv⟩ : ∃ dv : List Value, dv = [.slice A48 (n - 48) (c - 48)] := ⟨_, rfl⟩
      rw [← hdv]
      obtain ⟨W4, hW4⟩ : ∃ W4, W4 = (W3.setCell ⟨l, 1, none⟩ (.slice (some ⟨W3.heap.size, 0, none⟩) 1 1)).alloc (.cells dv.toArray 25) := ⟨_, rfl⟩
      rw [← hW4]
      obtain ⟨gn', hgn', hNb, hwn, hnl, hbn⟩ := HLAY.out.hN
      cases hgn'
      have hgr := only_alloc (only_set (p := ⟨l, 1, none⟩) (grownBy_refl' W3 (some l)) (.inl rfl) (.slice (some ⟨W3.heap.size, 0, none⟩) 1 1)) (.cells dv.toArray 25)
      have hl4 : Bk W4 l 27 [.slice (some ⟨gn, 0, none⟩) 13 13, .slice (some ⟨W3.heap.size, 0, none⟩) 1 1, .slice none 0 0, .slice none 0 0] := by rw [hW4]; exact (HLAY.out.hl.set_ 1 _).alloc _
      have hr4 : Bk W4 w.heap.size 27 [.slice none 0 0, .slice none 0 0, .slice none 0 0, .slice none 0 0] := by rw [hW4]; exact HLAY.out.hr.grown hgr (by simp; omega)
      have hb4 : Below w.heap.size w W4 := by rw [hW4]; exact HLAY.out.be.trans (grown_below' hgr hz3 (by omega))
      have hN4 : Bk W4 gn 46 (ncs [m0, m1, m2, a1, a2, a3, N4, N8, N12, N16, N24, N32, N40]) := by rw [hW4]; exact hNb.grown hgr (by simp; omega)
      have hD4 : Bk W4 W3.heap.size 25 dv := by rw [hW4]; have := Bk.new (W3.setCell ⟨l, 1, none⟩ (.slice (some ⟨W3.heap.size, 0, none⟩) 1 1)) 25 dv; simpa using this
      have l0 := hl4.cell 0
      have l1 := hl4.cell 1
      have l2 := hl4.cell 2
      have l3 := hl4.cell 3
      have k0 := hr4.cell 0
      have k1 := hr4.cell 1
      have k2 := hr4.cell 2
      have k3 := hr4.cell 3
      have f0 := hr4.frozen 0
      have f1 := hr4.frozen 1
      have f2 := hr4.frozen 2
      have f3 := hr4.frozen 3
      simp only [List.getElem?_cons_zero, List.getElem?_cons_succ] at l0 l1 l2 l3 k0 k1 k2 k3
      have HR4 := Lib.hid hr4
      have HB4 := Lib.hid hb4
      have HN4 := Lib.hid hN4
      have HD4 := Lib.hid hD4
      have HDV := Lib.hid hdv
      clear hW4 hl4 hr4 hb4 hN4 hD4 hdv hgr hNb lf0 lf1 lf2 lf3
      go_wp2_with fail
      have hz4 := HB4.out.size
      have e3 : (xs.drop 48).length = n - 48 := by have := HL.out; rw [List.length_drop]; omega
      have hq : Sl W4 W4.heap.size A48 (xs.drop 48).length (bcs (xs.drop 48)) := by rw [e3]; exact ((HC48.out w _ xs HS.out).below HB4.out).more hz4
      have hE := EachF.cons (c := c - 48) (EachF.nil W4 W4.heap.size w.heap.size (w.heap.size + 1)) hq (cut_fr hg HF48.out)
      rw [e3] at hE
      have hLL := LyrF.mk (w := W4) (B := W4.heap.size) (B0 := w.heap.size) (B1 := w.heap.size + 1) (nums := [m0, m1, m2, a1, a2, a3, N4, N8, N12, N16, N24, N32, N40]) (data := [xs.drop 48]) (pay := []) (ds := dv) (cN := 13) (cD := 1) (AP := none) (cP := 0) (cB := 0)
        (HN4.out.sl HN4.out.lt rfl (fun j u hu => by rw [Nat.zero_add]; exact hu))
        (HD4.out.sl HD4.out.lt (by rw [HDV.out]) (fun j u hu => by rw [Nat.zero_add]; exact hu))
        (by rw [HDV.out]; exact hE) (Sl.none_ W4 W4.heap.size none) (Fr2.new (by omega)) (Fr2.new (by omega)) (Fr2.nil _ _)
      have hfin := read_end (w := w) hLL HB4.out (Nat.le_refl _) (Nat.lt_succ_self _) (Nat.le_refl _)
      obtain ⟨z0, z1, z2, z3⟩ := set4_cells HR4.out (.slice (some ⟨gn, 0, none⟩) 13 13) (.slice (some ⟨W3.heap.size, 0, none⟩) 1 1) (.slice none 0 0) (.slice none 0 0)
      exact bodyPost_ret (v := .tuple #[.agg #[.slice (some ⟨gn, 0, none⟩) 13 13, .slice (some ⟨W3.heap.size, 0, none⟩) 1 1, .slice none 0 0, .slice none 0 0], .bool true, .bool true]) (by simp [results, Tryz.results33, go_sem, z0, z1, z2, z3]) rfl (hR.out _ _ ⟨_, rfl, hfin.1, hfin.2.lyr⟩)
end Go.Proofs.YtphmklgbbpiafaaGreat
