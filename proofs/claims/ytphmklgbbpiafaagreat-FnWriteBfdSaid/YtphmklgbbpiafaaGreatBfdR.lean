/-
  BFD: the reference's reader. No condition.
-/
import Derived.Deep.RegionHeld3
import Derived.Deep.Cut
import Derived.Deep.CutRange
import Derived.Test.YtphmklgbbpiafaaGreatSrdA
import Derived.Test.YtphmklgbbpiafaaGreatLayA
import Derived.Test.YtphmklgbbpiafaaGreatWritB
import Derived.Test.YtphmklgbbpiafaaGreatBitA
namespace Go.Proofs.YtphmklgbbpiafaaGreat
open Go Go.RowKit
set_option linter.unusedVariables false
set_option linter.unusedSimpArgs false
attribute [local go_sem] sd_drewN ad_drewN
set_option maxRecDepth 1000000 in
set_option maxHeartbeats 100000000 in
theorem srd_bfd (xs : List UInt8) (hN : (xs.getD 3 0).toNat = xs.length) (hz2 : (xs.getD 1 0).toNat / 4 % 2 = 0) (h4 : 24 ≤ xs.length) (hn : xs.length ≤ 1000) : Srd 53 xs [(xs.getD 0 0).toNat / 32, (xs.getD 0 0).toNat % 32, (xs.getD 1 0).toNat / 64, (xs.getD 1 0).toNat / 32 % 2, (xs.getD 1 0).toNat / 16 % 2, (xs.getD 1 0).toNat / 8 % 2, 0, (xs.getD 1 0).toNat / 2 % 2, (xs.getD 1 0).toNat % 2, (xs.getD 2 0).toNat, Lib.beNat ((xs.drop 4).take 4), Lib.beNat ((xs.drop 8).take 4), Lib.beNat ((xs.drop 12).take 4), Lib.beNat ((xs.drop 16).take 4), Lib.beNat ((xs.drop 20).take 4)] [] [] := by
  intro A n c B0 B1 w hs hB0 hB1 hnc
  refine calls_hid fun R hR => ?_
  have hl : xs.length = n := by rw [← bcs_length]; exact hs.1
  rw [hl] at h4 hn
  obtain ⟨g, o, rfl, hg, _⟩ := hs.2 (by omega)
  have hgw : g < w.heap.size := by omega
  have b0 := (xs.getD 0 0).toNat_lt
  have x0 : w.cell? ⟨g, o, none⟩ = some (.int .u8 (xs.getD 0 0).toNat) := hs.byte (k := 0) (by omega)
  have z0 : 0 < n := by omega
  have i0 : (0 : Int) < (n : Int) := by omega
  have b1 := (xs.getD 1 0).toNat_lt
  have x1 : w.cell? ⟨g, o + 1, none⟩ = some (.int .u8 (xs.getD 1 0).toNat) := hs.byte (k := 1) (by omega)
  have z1 : 1 < n := by omega
  have i1 : (1 : Int) < (n : Int) := by omega
  have b2 := (xs.getD 2 0).toNat_lt
  have x2 : w.cell? ⟨g, o + 2, none⟩ = some (.int .u8 (xs.getD 2 0).toNat) := hs.byte (k := 2) (by omega)
  have z2 : 2 < n := by omega
  have i2 : (2 : Int) < (n : Int) := by omega
  have b3 := (xs.getD 3 0).toNat_lt
  have x3 : w.cell? ⟨g, o + 3, none⟩ = some (.int .u8 (xs.getD 3 0).toNat) := hs.byte (k := 3) (by omega)
  have z3 : 3 < n := by omega
  have i3 : (3 : Int) < (n : Int) := by omega
  rw [hl] at hN
  have hm4 : Sl w B0 (some ⟨g, o + 4, none⟩) 4 (bcs ((xs.drop 4).take 4)) := (hs.drop_ (k := 4) (by omega)).take_ (by omega)
  have HM4 := Lib.hid hm4
  have HV4 := HM4
  clear hm4
  have jz4 : ¬ (c : Int) = 4 := by omega
  have jy4 : ¬ c = 4 := by omega
  have jc8 : (8 : Int) ≤ (c : Int) := by omega
  have hm8 : Sl w B0 (some ⟨g, o + 8, none⟩) 4 (bcs ((xs.drop 8).take 4)) := (hs.drop_ (k := 8) (by omega)).take_ (by omega)
  have HM8 := Lib.hid hm8
  have HV8 := HM8
  clear hm8
  have jz8 : ¬ (c : Int) = 8 := by omega
  have jy8 : ¬ c = 8 := by omega
  have jc12 : (12 : Int) ≤ (c : Int) := by omega
  have hm12 : Sl w B0 (some ⟨g, o + 12, none⟩) 4 (bcs ((xs.drop 12).take 4)) := (hs.drop_ (k := 12) (by omega)).take_ (by omega)
  have HM12 := Lib.hid hm12
  have HV12 := HM12
  clear hm12
  have jz12 : ¬ (c : Int) = 12 := by omega
  have jy12 : ¬ c = 12 := by omega
  have jc16 : (16 : Int) ≤ (c : Int) := by omega
  have hm16 : Sl w B0 (some ⟨g, o + 16, none⟩) 4 (bcs ((xs.drop 16).take 4)) := (hs.drop_ (k := 16) (by omega)).take_ (by omega)
  have HM16 := Lib.hid hm16
  have HV16 := HM16
  clear hm16
  have jz16 : ¬ (c : Int) = 16 := by omega
  have jy16 : ¬ c = 16 := by omega
  have jc20 : (20 : Int) ≤ (c : Int) := by omega
  have hm20 : Sl w B0 (some ⟨g, o + 20, none⟩) 4 (bcs ((xs.drop 20).take 4)) := (hs.drop_ (k := 20) (by omega)).take_ (by omega)
  have HM20 := Lib.hid hm20
  have HV20 := HM20
  clear hm20
  have jz20 : ¬ (c : Int) = 20 := by omega
  have jy20 : ¬ c = 20 := by omega
  have jc24 : (24 : Int) ≤ (c : Int) := by omega
  generalize hNN4 : Lib.beNat ((xs.drop 4).take 4) = N4 at *
  have HNN4 := Lib.hid hNN4
  clear hNN4
  generalize hNN8 : Lib.beNat ((xs.drop 8).take 4) = N8 at *
  have HNN8 := Lib.hid hNN8
  clear hNN8
  generalize hNN12 : Lib.beNat ((xs.drop 12).take 4) = N12 at *
  have HNN12 := Lib.hid hNN12
  clear hNN12
  generalize hNN16 : Lib.beNat ((xs.drop 16).take 4) = N16 at *
  have HNN16 := Lib.hid hNN16
  clear hNN16
  generalize hNN20 : Lib.beNat ((xs.drop 20).take 4) = N20 at *
  have HNN20 := Lib.hid hNN20
  clear hNN20
  rw [hN] at x3
  generalize (xs.getD 0 0).toNat = a0 at *
  generalize (xs.getD 1 0).toNat = a1 at *
  generalize (xs.getD 2 0).toNat = a2 at *
  clear b3
  have lt5 : a1 / 32 % 2 < 2 := by omega
  generalize hr5 : a1 / 32 % 2 = r5 at *
  have R5 := Lib.hid hr5
  have lt4 : a1 / 16 % 2 < 2 := by omega
  generalize hr4 : a1 / 16 % 2 = r4 at *
  have R4 := Lib.hid hr4
  have lt3 : a1 / 8 % 2 < 2 := by omega
  generalize hr3 : a1 / 8 % 2 = r3 at *
  have R3 := Lib.hid hr3
  have lt1 : a1 / 2 % 2 < 2 := by omega
  generalize hr1 : a1 / 2 % 2 = r1 at *
  have R1 := Lib.hid hr1
  have lt0 : a1 % 2 < 2 := by omega
  generalize hr0 : a1 % 2 = r0 at *
  have R0 := Lib.hid hr0
  obtain ⟨r2, hr2⟩ : ∃ r : Nat, r = 0 := ⟨_, rfl⟩
  have R2 := Lib.hid (hz2.trans hr2.symm)
  have R20 := Lib.hid hr2
  have p0 : a0 / 32 < 256 := by omega
  have p1 : a0 % 32 < 256 := by omega
  have p2 : a1 / 64 < 256 := by omega
  have q31 := m8_31 a0 (by omega)
  have e5 : (a0 : Int) / 32 = ((a0 / 32 : Nat) : Int) := by omega
  have e6 : (a1 : Int) / 64 = ((a1 / 64 : Nat) : Int) := by omega
  clear hz2 hr0 hr1 hr3 hr4 hr5
  generalize a0 / 32 = m0 at *
  generalize a0 % 32 = m1 at *
  generalize a1 / 64 = m2 at *
  have u0 : IntKind.u64.wrap (m0 : Int) = m0 := IntWalk.u64_in _ (by omega)
  have u1 : IntKind.u64.wrap (m1 : Int) = m1 := IntWalk.u64_in _ (by omega)
  have u2 : IntKind.u64.wrap (m2 : Int) = m2 := IntWalk.u64_in _ (by omega)
  have u3 : IntKind.u64.wrap (a2 : Int) = a2 := IntWalk.u64_in _ (by omega)
  have vn : IntKind.i64.wrap (n : Int) = n := IntWalk.i64_in _ (by omega)
  have hmf : ∀ (fn : Fn) (first cap : Array Value) (w : World), (Instr.makeFunc fn first cap).run Tryz.prog w = .ok (.func fn first cap) w := fun _ _ _ _ => rfl
  have HNN := Lib.hid hN
  have HS := Lib.hid hs
  have HLN := Lib.hid hl
  clear hs hl hN hr2
  go_enter Tryz.func53, Tryz.ntmps53
  go_upto_region 5 with fail
  obtain ⟨gf, hgf⟩ : ∃ gf, gf = w.heap.size + 1 := ⟨_, rfl⟩
  obtain ⟨W1, hW1⟩ : ∃ W1, W1 = (w.alloc (.cells #[.slice none 0 0, .slice none 0 0, .slice none 0 0, .slice none 0 0] 27)).alloc (.cells #[.int .u8 a1] 5) := ⟨_, rfl⟩
  rw [← hW1, ← hgf]
  have hbk : Bk W1 w.heap.size 27 [.slice none 0 0, .slice none 0 0, .slice none 0 0, .slice none 0 0] := by rw [hW1]; exact (Bk.new _ _ _).alloc _
  have hfk : Bk W1 gf 5 [.int .u8 a1] := by rw [hW1, hgf]; have := Bk.new (w.alloc (.cells #[.slice none 0 0, .slice none 0 0, .slice none 0 0, .slice none 0 0] 27)) 5 [.int .u8 a1]; simpa using this
  have hbe1 : Below w.heap.size w W1 := by rw [hW1]; exact ((Below.refl _ _).alloc (Nat.le_refl _) _).alloc (by simp) _
  have hsz : w.heap.size + 1 ≤ W1.heap.size := by rw [hW1]; simp
  have hfW : gf < W1.heap.size := hfk.lt
  have xf := hfk.cell 0
  simp only [List.getElem?_cons_zero] at xf
  have HBK := Lib.hid hbk
  have HBE := Lib.hid hbe1
  have HS1 := Lib.hid (HS.out.below (hbe1.mono hB0))
  have hgW : g < W1.heap.size := by omega
  have hgb : g ≠ w.heap.size := by omega
  have HXB0 := Lib.hid x0
  have x0 := (low_below (g := g) (i := o) hbe1 hgw).trans x0
  have HXB2 := Lib.hid x2
  have x2 := (low_below (g := g) (i := o + 2) hbe1 hgw).trans x2
  have HM4 := Lib.hid (HM4.out.below (hbe1.mono hB0))
  have HM8 := Lib.hid (HM8.out.below (hbe1.mono hB0))
  have HM12 := Lib.hid (HM12.out.below (hbe1.mono hB0))
  have HM16 := Lib.hid (HM16.out.below (hbe1.mono hB0))
  have HM20 := Lib.hid (HM20.out.below (hbe1.mono hB0))
  clear hW1 hgf hbk hfk hbe1
  go_cut [7] from 21 to 66 (fun v wc => ∃ l gn, v = .pointer (some ⟨l, 0, none⟩) ∧ wc.cell? ⟨gf, 0, none⟩ = some (.int .u8 a1) ∧ gf < l ∧ Lay w wc w.heap.size l 0 (some ⟨gn, 0, none⟩) 15 [m0, m1, m2, r5, r4, r3, r2, r1, r0, a2, N4, N8, N12, N16, N20] (.slice none 0 0))
  case first =>
    go_region_held3 (fun w' => w'.cell? ⟨g, o, none⟩ = some (.int .u8 a0) ∧ w'.cell? ⟨g, o + 2, none⟩ = some (.int .u8 a2) ∧ w'.cell? ⟨gf, 0, none⟩ = some (.int .u8 a1))
      (first | with_reducible exact ⟨y0, y2, yf⟩ | with_reducible exact ⟨low_drew.trans x0, low_drew.trans x2, low_drew.trans xf⟩ | with_reducible exact ⟨(low_alloc hgW).trans x0, (low_alloc hgW).trans x2, (low_alloc hfW).trans xf⟩ | with_reducible exact ⟨(low_alloc2 hgW).trans x0, (low_alloc2 hgW).trans x2, (low_alloc2 hfW).trans xf⟩ | with_reducible exact ⟨(low_alloc0 hg23).trans y0, (low_alloc0 hg23).trans y2, (low_alloc0 hf23).trans yf⟩ | exact ⟨(set4_low hgl).trans y0, (set4_low hgl).trans y2, (set4_low hfl).trans yf⟩)
      ((first | (go_at_call 46; (first | ((with_reducible refine (num_still _ 4 _ B0 ((xs.drop 4).take 4) _ (by omega) (HM4.out.below (by first | exact (Below.refl _ _).drew | exact ((Below.refl _ _).alloc (by omega) _).drew))).mono ?_); rintro e w' ⟨rfl, rfl⟩; rw [HNN4.out]) | ((with_reducible refine (num_still _ 4 _ B0 ((xs.drop 8).take 4) _ (by omega) (HM8.out.below (by first | exact (Below.refl _ _).drew | exact ((Below.refl _ _).alloc (by omega) _).drew))).mono ?_); rintro e w' ⟨rfl, rfl⟩; rw [HNN8.out]) | ((with_reducible refine (num_still _ 4 _ B0 ((xs.drop 12).take 4) _ (by omega) (HM12.out.below (by first | exact (Below.refl _ _).drew | exact ((Below.refl _ _).alloc (by omega) _).drew))).mono ?_); rintro e w' ⟨rfl, rfl⟩; rw [HNN12.out]) | ((with_reducible refine (num_still _ 4 _ B0 ((xs.drop 16).take 4) _ (by omega) (HM16.out.below (by first | exact (Below.refl _ _).drew | exact ((Below.refl _ _).alloc (by omega) _).drew))).mono ?_); rintro e w' ⟨rfl, rfl⟩; rw [HNN16.out]) | ((with_reducible refine (num_still _ 4 _ B0 ((xs.drop 20).take 4) _ (by omega) (HM20.out.below (by first | exact (Below.refl _ _).drew | exact ((Below.refl _ _).alloc (by omega) _).drew))).mono ?_); rintro e w' ⟨rfl, rfl⟩; rw [HNN20.out]))) | (go_at_call 66; (first | ((with_reducible refine (bitb5 a1 r5 gf _ (by omega) R5.out (by first | exact low_drew.trans xf | exact (low_alloc hfW).trans xf)).mono ?_); rintro e w' ⟨rfl, rfl⟩) | ((with_reducible refine (bitb4 a1 r4 gf _ (by omega) R4.out (by first | exact low_drew.trans xf | exact (low_alloc hfW).trans xf)).mono ?_); rintro e w' ⟨rfl, rfl⟩) | ((with_reducible refine (bitb3 a1 r3 gf _ (by omega) R3.out (by first | exact low_drew.trans xf | exact (low_alloc hfW).trans xf)).mono ?_); rintro e w' ⟨rfl, rfl⟩) | ((with_reducible refine (bitb2 a1 r2 gf _ (by omega) R2.out (by first | exact low_drew.trans xf | exact (low_alloc hfW).trans xf)).mono ?_); rintro e w' ⟨rfl, rfl⟩) | ((with_reducible refine (bitb1 a1 r1 gf _ (by omega) R1.out (by first | exact low_drew.trans xf | exact (low_alloc hfW).trans xf)).mono ?_); rintro e w' ⟨rfl, rfl⟩) | ((with_reducible refine (bitb0 a1 r0 gf _ (by omega) R0.out (by first | exact low_drew.trans xf | exact (low_alloc hfW).trans xf)).mono ?_); rintro e w' ⟨rfl, rfl⟩))) | (go_at_call 45; obtain ⟨cs, hcs⟩ : ∃ cs : List Value, cs = [.int .u64 m0, .int .u64 m1, .int .u64 m2, .int .u64 r5, .int .u64 r4, .int .u64 r3, .int .u64 r2, .int .u64 r1, .int .u64 r0, .int .u64 a2, .int .u64 N4, .int .u64 N8, .int .u64 N12, .int .u64 N16, .int .u64 N20] := ⟨_, rfl⟩; rw [← hcs]; (with_reducible refine (layer_any _ _ _ _ _ _ _ _ rfl rfl ((W1.alloc (.cells cs.toArray 46)).drew)).mono ?_); rintro e w23 ⟨rfl, hb23⟩; have mk1 : True := trivial; have hg23 : g < w23.heap.size := (by have hq := hb23.size; have hq2 : W1.heap.size + 1 ≤ w23.heap.size := (by simpa using hq); omega); have hf23 : gf < w23.heap.size := (by have hq := hb23.size; have hq2 : W1.heap.size + 1 ≤ w23.heap.size := (by simpa using hq); omega); have y0 := (low_below (g := g) (i := o) hb23 (by simp <;> omega)).trans ((low_alloc hgW).trans x0); have y2 := (low_below (g := g) (i := o + 2) hb23 (by simp <;> omega)).trans ((low_alloc hgW).trans x2); have yf := (low_below (g := gf) (i := 0) hb23 (by simp <;> omega)).trans ((low_alloc hfW).trans xf)) | (go_at_call 45; obtain ⟨cs, hcs⟩ : ∃ cs : List Value, cs = [.int .u64 m0, .int .u64 m1, .int .u64 m2, .int .u64 r5, .int .u64 r4, .int .u64 r3, .int .u64 r2, .int .u64 r1, .int .u64 r0, .int .u64 a2, .int .u64 N4, .int .u64 N8, .int .u64 N12, .int .u64 N16, .int .u64 N20] := ⟨_, rfl⟩; rw [← hcs]; (with_reducible refine (layer_any _ _ _ _ _ _ _ _ rfl rfl (((W1.alloc (.cells cs.toArray 46)).alloc (.cells #[.slice none 0 0, .slice none 0 0, .slice none 0 0, .slice none 0 0] 27)).drew)).mono ?_); rintro e w23 ⟨rfl, hb23⟩; have hlb := lay_before (m := 15) (nums := [m0, m1, m2, r5, r4, r3, r2, r1, r0, a2, N4, N8, N12, N16, N20]) (P := .slice none 0 0) (by rw [hcs]; rfl) rfl HBE.out (Nat.le_refl _) (by omega) rfl HBK.out hb23; have p0 := hlb.1.cell 0; have p1 := hlb.1.cell 1; have p2 := hlb.1.cell 2; have p3 := hlb.1.cell 3; have pf0 := hlb.1.frozen 0; have pf1 := hlb.1.frozen 1; have pf2 := hlb.1.frozen 2; have pf3 := hlb.1.frozen 3; simp only [List.getElem?_cons_zero, List.getElem?_cons_succ] at p0 p1 p2 p3; have mk2 : True := trivial; have hgl : g ≠ W1.heap.size + 1 := (by omega); have hfl : gf ≠ W1.heap.size + 1 := (by omega); have y0 := (low_below (g := g) (i := o) hb23 (by simp <;> omega)).trans ((low_alloc2 hgW).trans x0); have y2 := (low_below (g := g) (i := o + 2) hb23 (by simp <;> omega)).trans ((low_alloc2 hgW).trans x2); have yf := (low_below (g := gf) (i := 0) hb23 (by simp <;> omega)).trans ((low_alloc2 hfW).trans xf)) | (go_at_call 45; obtain ⟨cs, hcs⟩ : ∃ cs : List Value, cs = [.int .u64 m0, .int .u64 m1, .int .u64 m2, .int .u64 r5, .int .u64 r4, .int .u64 r3, .int .u64 r2, .int .u64 r1, .int .u64 r0, .int .u64 a2, .int .u64 N4, .int .u64 N8, .int .u64 N12, .int .u64 N16, .int .u64 N20] := ⟨_, rfl⟩; rw [← hcs]; (with_reducible refine (layer_any _ _ _ _ _ _ _ _ rfl rfl (((W1.alloc (.cells #[.slice none 0 0, .slice none 0 0, .slice none 0 0, .slice none 0 0] 27)).alloc (.cells cs.toArray 46)).drew)).mono ?_); rintro e w23 ⟨rfl, hb23⟩; have hlb := lay_first (m := 15) (nums := [m0, m1, m2, r5, r4, r3, r2, r1, r0, a2, N4, N8, N12, N16, N20]) (P := .slice none 0 0) (by rw [hcs]; rfl) rfl HBE.out (Nat.le_refl _) (by omega) rfl HBK.out hb23; have p0 := hlb.1.cell 0; have p1 := hlb.1.cell 1; have p2 := hlb.1.cell 2; have p3 := hlb.1.cell 3; have pf0 := hlb.1.frozen 0; have pf1 := hlb.1.frozen 1; have pf2 := hlb.1.frozen 2; have pf3 := hlb.1.frozen 3; simp only [List.getElem?_cons_zero, List.getElem?_cons_succ] at p0 p1 p2 p3; have mk3 : True := trivial; have hgl : g ≠ W1.heap.size := (by omega); have hfl : gf ≠ W1.heap.size := (by omega); have y0 := (low_below (g := g) (i := o) hb23 (by simp <;> omega)).trans ((low_alloc2 hgW).trans x0); have y2 := (low_below (g := g) (i := o + 2) hb23 (by simp <;> omega)).trans ((low_alloc2 hgW).trans x2); have yf := (low_below (g := gf) (i := 0) hb23 (by simp <;> omega)).trans ((low_alloc2 hfW).trans xf))))
    all_goals
      first
      | (clear mk1
         obtain ⟨l, hl⟩ : ∃ l, l = w23.heap.size := ⟨_, rfl⟩
         have hlay := lay_after (m := 15) (nums := [m0, m1, m2, r5, r4, r3, r2, r1, r0, a2, N4, N8, N12, N16, N20]) (P := .slice none 0 0) (by rw [hcs]; rfl) rfl HBE.out (Nat.le_refl _) (by omega) HBK.out hb23
         obtain ⟨W3, hW3⟩ : ∃ W3, W3 = w23.alloc (.cells #[.slice (some ⟨W1.heap.size, 0, none⟩) 15 15, .slice none 0 0, .slice none 0 0, .slice none 0 0] 27) := ⟨_, rfl⟩
         have hgl : gf < l := by omega
         have yz : W3.cell? ⟨gf, 0, none⟩ = some (.int .u8 a1) := by rw [hW3]; exact (low_alloc0 hf23).trans yf
         obtain ⟨gn, hgn⟩ : ∃ gn, gn = W1.heap.size := ⟨_, rfl⟩
         rw [← hW3, ← hl, ← hgn] at hlay
         rw [← hW3, ← hl]
         try rw [← hgn]
         clear hW3 hl hgn hcs hb23)
      | (clear mk2
         obtain ⟨l, hl⟩ : ∃ l, l = W1.heap.size + 1 := ⟨_, rfl⟩
         obtain ⟨gn, hgn⟩ : ∃ gn, gn = W1.heap.size := ⟨_, rfl⟩
         have hlay := hlb.2
         obtain ⟨W3, hW3⟩ : ∃ W3, W3 = set4 w23 (W1.heap.size + 1) (.slice (some ⟨W1.heap.size, 0, none⟩) 15 15) (.slice none 0 0) (.slice none 0 0) (.slice none 0 0) := ⟨_, rfl⟩
         have hgl : gf < l := by omega
         have yz : W3.cell? ⟨gf, 0, none⟩ = some (.int .u8 a1) := by rw [hW3]; exact (set4_low hfl).trans yf
         rw [← hW3, ← hl, ← hgn] at hlay
         rw [show ((((w23.setCell ⟨W1.heap.size + 1, 0, none⟩ (.slice (some ⟨W1.heap.size, 0, none⟩) 15 15)).setCell ⟨W1.heap.size + 1, 1, none⟩ (.slice none 0 0)).setCell ⟨W1.heap.size + 1, 2, none⟩ (.slice none 0 0)).setCell ⟨W1.heap.size + 1, 3, none⟩ (.slice none 0 0)) = W3 from hW3.symm, ← hl]
         try rw [← hgn]
         clear hW3 hl hgn hlb hcs hb23 p0 p1 p2 p3 pf0 pf1 pf2 pf3)
      | (clear mk3
         obtain ⟨l, hl⟩ : ∃ l, l = W1.heap.size := ⟨_, rfl⟩
         obtain ⟨gn, hgn⟩ : ∃ gn, gn = W1.heap.size + 1 := ⟨_, rfl⟩
         have hlay := hlb.2
         obtain ⟨W3, hW3⟩ : ∃ W3, W3 = set4 w23 (W1.heap.size) (.slice (some ⟨W1.heap.size + 1, 0, none⟩) 15 15) (.slice none 0 0) (.slice none 0 0) (.slice none 0 0) := ⟨_, rfl⟩
         have hgl : gf < l := by omega
         have yz : W3.cell? ⟨gf, 0, none⟩ = some (.int .u8 a1) := by rw [hW3]; exact (set4_low hfl).trans yf
         rw [← hW3, ← hgn, ← hl] at hlay
         rw [show ((((w23.setCell ⟨W1.heap.size, 0, none⟩ (.slice (some ⟨W1.heap.size + 1, 0, none⟩) 15 15)).setCell ⟨W1.heap.size, 1, none⟩ (.slice none 0 0)).setCell ⟨W1.heap.size, 2, none⟩ (.slice none 0 0)).setCell ⟨W1.heap.size, 3, none⟩ (.slice none 0 0)) = W3 from hW3.symm, ← hl]
         try rw [← hgn]
         clear hW3 hl hgn hlb hcs hb23 p0 p1 p2 p3 pf0 pf1 pf2 pf3)
      go_wp2_with fail
      go_meet
      case rel => exact ⟨l, gn, rfl, yz, hgl, hlay⟩
  case rest =>
  obtain ⟨W3, eW3⟩ : ∃ W3, W3 = wc := ⟨_, rfl⟩
  subst eW3
  obtain ⟨l, gn, rfl, yz, hgl, hlay⟩ := hcut
  have HLAY := Lib.hid hlay
  have l0 := hlay.hl.cell 0
  have l1 := hlay.hl.cell 1
  have l2 := hlay.hl.cell 2
  have l3 := hlay.hl.cell 3
  have lf0 := hlay.hl.frozen 0
  have lf1 := hlay.hl.frozen 1
  have lf2 := hlay.hl.frozen 2
  have lf3 := hlay.hl.frozen 3
  simp only [List.getElem?_cons_zero, List.getElem?_cons_succ] at l0 l1 l2 l3
  have hll := hlay.hl.lt
  have hbl := hlay.bl
  have hwl := hlay.wl
  have hrl := hlay.hr.lt
  have hz3 := hlay.be.size
  clear hlay
  go_wp2_with fail
  refine (bitb2 a1 r2 gf _ (by omega) R2.out yz).mono ?_
  rintro e w9 ⟨rfl, hw9⟩
  rw [hw9, R20.out]
  clear hw9
  obtain ⟨gn', hgn', hNb, hwn, hnl, hbn⟩ := HLAY.out.hN
  cases hgn'
  have HNB := Lib.hid hNb
  have k0 := HLAY.out.hr.cell 0
  have k1 := HLAY.out.hr.cell 1
  have k2 := HLAY.out.hr.cell 2
  have k3 := HLAY.out.hr.cell 3
  have f0 := HLAY.out.hr.frozen 0
  have f1 := HLAY.out.hr.frozen 1
  have f2 := HLAY.out.hr.frozen 2
  have f3 := HLAY.out.hr.frozen 3
  simp only [List.getElem?_cons_zero, List.getElem?_cons_succ] at k0 k1 k2 k3
  clear hNb
  go_wp2_with fail
  have hr20 := R20.out
  have hLL := LyrF.mk (w := W3) (B := W3.heap.size) (B0 := B0) (B1 := w.heap.size + 1) (nums := [m0, m1, m2, r5, r4, r3, r2, r1, r0, a2, N4, N8, N12, N16, N20]) (data := []) (ds := []) (pay := []) (AD := none) (cN := 15) (cD := 0) (AP := none) (cP := 0) (cB := 0)
    (HNB.out.sl HNB.out.lt rfl (fun j u hu => by rw [Nat.zero_add]; exact hu))
    (Sl.none_ _ _ _) (EachF.nil _ _ _ _) (Sl.none_ W3 W3.heap.size none) (Fr2.new (by omega)) (Fr2.nil _ _) (Fr2.nil _ _)
  have hfin := read_end (w := w) hLL HLAY.out.be hB0 (Nat.lt_succ_self _) (Nat.le_refl _)
  obtain ⟨z0, z1, z2, z3⟩ := set4_cells HLAY.out.hr (.slice (some ⟨gn, 0, none⟩) 15 15) (.slice none 0 0) (.slice none 0 0) (.slice none 0 0)
  subst hr20
  exact bodyPost_ret (v := .tuple #[.agg #[.slice (some ⟨gn, 0, none⟩) 15 15, .slice none 0 0, .slice none 0 0, .slice none 0 0], .bool true, .bool true]) (by simp [results, Tryz.results53, go_sem, z0, z1, z2, z3]) rfl (hR.out _ _ ⟨_, rfl, hfin.1, hfin.2.more (Nat.le_refl _) (Nat.le_refl _) (by omega)⟩)
end Go.Proofs.YtphmklgbbpiafaaGreat
