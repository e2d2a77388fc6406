/-
  SNAP: what the reference reads. No condition.
-/
import Derived.Deep.Cut
import Derived.Deep.RegionHeld3
import Derived.Test.YtphmklgbbpiafaaGreatRdA
import Derived.Test.YtphmklgbbpiafaaGreatCutB
import Derived.Test.YtphmklgbbpiafaaGreatLayA
import Derived.Test.YtphmklgbbpiafaaGreatWritB
namespace Go.Proofs.YtphmklgbbpiafaaGreat
open Go Go.RowKit
set_option linter.unusedVariables false
set_option linter.unusedSimpArgs false
attribute [local go_sem] sd_drewN ad_drewN

set_option maxRecDepth 1000000 in
set_option maxHeartbeats 10000000 in
theorem sread_snap (xs : List UInt8) (A : Option Addr) (n c : Nat) (w : World) (hs : Sl w w.heap.size A n (bcs xs)) (h4 : 5 ≤ n) (hnc : n ≤ c) (hn : n ≤ 1000) :
    Calls Tryz.prog 33 #[.string k_snap, .slice A n c] w fun e w' => ∃ v, e = .returned (.tuple #[v, .bool true, .bool true]) ∧ Below w.heap.size w w' ∧ Lyr w' w'.heap.size v [Lib.beNat ((xs.drop 3).take 2)] [xs.take 3] (xs.drop 5) := by
  refine calls_hid fun R hR => ?_
  have HS := Lib.hid hs
  obtain ⟨g, o, rfl, hg, _⟩ := hs.2 (by omega)
  clear hs
  obtain ⟨A5, cut5, cs5, cf5⟩ := cut_from g o n c 5 5 rfl (by omega) hnc
  have HC5 := Lib.hid cs5
  have HF5 := Lib.hid cf5
  clear cs5 cf5
  have hmm := @run_makeMap Tryz.prog
  obtain ⟨w1, w2, w3, w4, w5, w6, w7, w8, w9, w10, w11, w12, w13, w14, w15, w16, w17, w18, w19, w20, w21, r1, r2, r3, r4, r5, r6, r7, r8, r9, r10, r11, r12, r13, r14, r15, r16, r17, r18, r19, r20, r21, hmp, hgm⟩ := tab_laid ((w.alloc (.cells #[.slice none 0 0, .slice none 0 0, .slice none 0 0, .slice none 0 0] 27)).alloc (.map #[] 0)) (w.heap.size + 1) (by simpa using Mp.new (w.alloc (.cells #[.slice none 0 0, .slice none 0 0, .slice none 0 0, .slice none 0 0] 27)))
  have hlk := look_snap w21 _ hmp
  have HGM := Lib.hid hgm
  clear hmp hgm
  have tl : decide ((n : Int) < 5) = false := by simp; omega
  go_enter Tryz.func33, Tryz.ntmps33
  go_wp2_with fail
  have hl : xs.length = n := by rw [← bcs_length]; exact HS.out.1
  have hbe : Below w.heap.size w w21 := (((Below.refl _ w).alloc (Nat.le_refl _) _).alloc (by simp) _).trans (below_of_some HGM.out (by simp; omega) (by omega))
  have hsz : w.heap.size + 2 ≤ w21.heap.size := by have := HGM.out.size; simpa using this
  have hbk : Bk w21 w.heap.size 27 [.slice none 0 0, .slice none 0 0, .slice none 0 0, .slice none 0 0] := ((Bk.new w 27 _).alloc _).grown HGM.out (by simp)
  have HS1 := Lib.hid (HS.out.below hbe)
  have HBE := Lib.hid hbe
  have HL := Lib.hid hl
  have HBK := Lib.hid hbk
  clear hlk r1 r2 r3 r4 r5 r6 r7 r8 r9 r10 r11 r12 r13 r14 r15 r16 r17 r18 r19 r20 r21 hmm hbe hl hbk
  have hm3 : Sl w21 w.heap.size (some ⟨g, o + 3, none⟩) 2 (bcs ((xs.drop 3).take 2)) := (HS1.out.drop_ (k := 3) (by omega)).take_ (by omega)
  have HM3 := Lib.hid hm3
  clear hm3
  have jz3 : ¬ (c : Int) = 3 := by omega
  have jy3 : ¬ c = 3 := by omega
  have jc : (5 : Int) ≤ (c : Int) := by omega
  have jn : (5 : Int) ≤ (n : Int) := by omega
  have jc3 : (3 : Int) ≤ (c : Int) := by omega
  generalize hNN3 : Lib.beNat ((xs.drop 3).take 2) = N3 at *
  have HNN3 := Lib.hid hNN3
  clear hNN3
  go_region_held3 (fun w' => True)
    (trivial)
    ((first | (go_at_call 46; (first | ((with_reducible refine (num_still _ 2 _ w.heap.size ((xs.drop 3).take 2) _ (by omega) (HM3.out.below (by first | exact (Below.refl _ _).drew | exact ((Below.refl _ _).alloc (by omega) _).drew))).mono ?_); rintro e w' ⟨rfl, rfl⟩; rw [HNN3.out]))) | (go_at_call 45; obtain ⟨cs, hcs⟩ : ∃ cs : List Value, cs = [.int .u64 N3] := ⟨_, rfl⟩; rw [← hcs]; (with_reducible refine (layer_any _ _ _ _ _ _ _ _ rfl rfl ((w21.alloc (.cells cs.toArray 46)).drew)).mono ?_); rintro e w23 ⟨rfl, hb23⟩) | (go_at_call 45; obtain ⟨cs, hcs⟩ : ∃ cs : List Value, cs = [.int .u64 N3] := ⟨_, rfl⟩; rw [← hcs]; (with_reducible refine (layer_any _ _ _ _ _ _ _ _ rfl rfl (((w21.alloc (.cells cs.toArray 46)).alloc (.cells #[.slice none 0 0, .slice none 0 0, .slice none 0 0, .slice none 0 0] 27)).drew)).mono ?_); rintro e w23 ⟨rfl, hb23⟩; have hlb := lay_before (m := 1) (nums := [N3]) (P := .slice A5 (n - 5) (c - 5)) (by rw [hcs]; rfl) rfl HBE.out (Nat.le_refl _) (by omega) rfl HBK.out hb23; have p0 := hlb.1.cell 0; have p1 := hlb.1.cell 1; have p2 := hlb.1.cell 2; have p3 := hlb.1.cell 3; have pf0 := hlb.1.frozen 0; have pf1 := hlb.1.frozen 1; have pf2 := hlb.1.frozen 2; have pf3 := hlb.1.frozen 3; simp only [List.getElem?_cons_zero, List.getElem?_cons_succ] at p0 p1 p2 p3) | (go_at_call 45; obtain ⟨cs, hcs⟩ : ∃ cs : List Value, cs = [.int .u64 N3] := ⟨_, rfl⟩; rw [← hcs]; (with_reducible refine (layer_any _ _ _ _ _ _ _ _ rfl rfl (((w21.alloc (.cells #[.slice none 0 0, .slice none 0 0, .slice none 0 0, .slice none 0 0] 27)).alloc (.cells cs.toArray 46)).drew)).mono ?_); rintro e w23 ⟨rfl, hb23⟩; have hlb := lay_first (m := 1) (nums := [N3]) (P := .slice A5 (n - 5) (c - 5)) (by rw [hcs]; rfl) rfl HBE.out (Nat.le_refl _) (by omega) rfl HBK.out hb23; have p0 := hlb.1.cell 0; have p1 := hlb.1.cell 1; have p2 := hlb.1.cell 2; have p3 := hlb.1.cell 3; have pf0 := hlb.1.frozen 0; have pf1 := hlb.1.frozen 1; have pf2 := hlb.1.frozen 2; have pf3 := hlb.1.frozen 3; simp only [List.getElem?_cons_zero, List.getElem?_cons_succ] at p0 p1 p2 p3)))
  all_goals
    first
    | (obtain ⟨l, hl⟩ : ∃ l, l = w23.heap.size := ⟨_, rfl⟩
       have hlay := lay_after (m := 1) (nums := [N3]) (P := .slice A5 (n - 5) (c - 5)) (by rw [hcs]; rfl) rfl HBE.out (Nat.le_refl _) (by omega) HBK.out hb23
       obtain ⟨W3, hW3⟩ : ∃ W3, W3 = w23.alloc (.cells #[.slice (some ⟨w21.heap.size, 0, none⟩) 1 1, .slice none 0 0, .slice none 0 0, .slice A5 (n - 5) (c - 5)] 27) := ⟨_, rfl⟩
       obtain ⟨gn, hgn⟩ : ∃ gn, gn = w21.heap.size := ⟨_, rfl⟩
       rw [← hW3, ← hl, ← hgn] at hlay
       rw [← hW3, ← hl]
       try rw [← hgn]
       clear hW3 hl hgn hcs hb23)
    | (obtain ⟨l, hl⟩ : ∃ l, l = w21.heap.size + 1 := ⟨_, rfl⟩
       obtain ⟨gn, hgn⟩ : ∃ gn, gn = w21.heap.size := ⟨_, rfl⟩
       have hlay := hlb.2
       obtain ⟨W3, hW3⟩ : ∃ W3, W3 = set4 w23 (w21.heap.size + 1) (.slice (some ⟨w21.heap.size, 0, none⟩) 1 1) (.slice none 0 0) (.slice none 0 0) (.slice A5 (n - 5) (c - 5)) := ⟨_, rfl⟩
       rw [← hW3, ← hl, ← hgn] at hlay
       rw [show ((((w23.setCell ⟨w21.heap.size + 1, 0, none⟩ (.slice (some ⟨w21.heap.size, 0, none⟩) 1 1)).setCell ⟨w21.heap.size + 1, 1, none⟩ (.slice none 0 0)).setCell ⟨w21.heap.size + 1, 2, none⟩ (.slice none 0 0)).setCell ⟨w21.heap.size + 1, 3, none⟩ (.slice A5 (n - 5) (c - 5))) = W3 from hW3.symm, ← hl]
       try rw [← hgn]
       clear hW3 hl hgn hlb hcs hb23 p0 p1 p2 p3 pf0 pf1 pf2 pf3)
    | (obtain ⟨l, hl⟩ : ∃ l, l = w21.heap.size := ⟨_, rfl⟩
       obtain ⟨gn, hgn⟩ : ∃ gn, gn = w21.heap.size + 1 := ⟨_, rfl⟩
       have hlay := hlb.2
       obtain ⟨W3, hW3⟩ : ∃ W3, W3 = set4 w23 (w21.heap.size) (.slice (some ⟨w21.heap.size + 1, 0, none⟩) 1 1) (.slice none 0 0) (.slice none 0 0) (.slice A5 (n - 5) (c - 5)) := ⟨_, rfl⟩
       rw [← hW3, ← hgn, ← hl] at hlay
       rw [show ((((w23.setCell ⟨w21.heap.size, 0, none⟩ (.slice (some ⟨w21.heap.size + 1, 0, none⟩) 1 1)).setCell ⟨w21.heap.size, 1, none⟩ (.slice none 0 0)).setCell ⟨w21.heap.size, 2, none⟩ (.slice none 0 0)).setCell ⟨w21.heap.size, 3, none⟩ (.slice A5 (n - 5) (c - 5))) = W3 from hW3.symm, ← hl]
       try rw [← hgn]
       clear hW3 hl hgn hlb hcs hb23 p0 p1 p2 p3 pf0 pf1 pf2 pf3)
    have HLAY := Lib.hid hlay
    have l0 := hlay.hl.cell 0
    have l1 := hlay.hl.cell 1
    have l2 := hlay.hl.cell 2
    have l3 := hlay.hl.cell 3
    have m0 := hlay.hl.frozen 0
    have m1 := hlay.hl.frozen 1
    have m2 := hlay.hl.frozen 2
    have m3 := hlay.hl.frozen 3
    simp only [List.getElem?_cons_zero, List.getElem?_cons_succ] at l0 l1 l2 l3
    have hll := hlay.hl.lt
    have hbl := hlay.bl
    have hwl := hlay.wl
    have hrl := hlay.hr.lt
    have hz3 := hlay.be.size
    clear hlay
    go_upto_region 14 with fail
    obtain ⟨dv, hdv⟩ : ∃ dv : List Value, dv = [.slice (some ⟨g, o, none⟩) 3 c] := ⟨_, rfl⟩
    rw [← hdv]
    obtain ⟨W4, hW4⟩ : ∃ W4, W4 = (W3.setCell ⟨l, 1, none⟩ (.slice (some ⟨W3.heap.size, 0, none⟩) 1 1)).alloc (.cells dv.toArray 25) := ⟨_, rfl⟩
    rw [← hW4]
    obtain ⟨gn', hgn', hNb, hwn, hnl, hbn⟩ := HLAY.out.hN
    cases hgn'
    have hgr := only_alloc (only_set (p := ⟨l, 1, none⟩) (grownBy_refl' W3 (some l)) (.inl rfl) (.slice (some ⟨W3.heap.size, 0, none⟩) 1 1)) (.cells dv.toArray 25)
    have hl4 : Bk W4 l 27 [.slice (some ⟨gn, 0, none⟩) 1 1, .slice (some ⟨W3.heap.size, 0, none⟩) 1 1, .slice none 0 0, .slice A5 (n - 5) (c - 5)] := by rw [hW4]; exact (HLAY.out.hl.set_ 1 _).alloc _
    have hr4 : Bk W4 w.heap.size 27 [.slice none 0 0, .slice none 0 0, .slice none 0 0, .slice none 0 0] := by rw [hW4]; exact HLAY.out.hr.grown hgr (by simp; omega)
    have hb4 : Below w.heap.size w W4 := by rw [hW4]; exact HLAY.out.be.trans (grown_below' hgr hz3 (by omega))
    have hN4 : Bk W4 gn 46 (ncs [N3]) := by rw [hW4]; exact hNb.grown hgr (by simp; omega)
    have hD4 : Bk W4 W3.heap.size 25 dv := by rw [hW4]; have := Bk.new (W3.setCell ⟨l, 1, none⟩ (.slice (some ⟨W3.heap.size, 0, none⟩) 1 1)) 25 dv; simpa using this
    have l0 := hl4.cell 0
    have l1 := hl4.cell 1
    have l2 := hl4.cell 2
    have l3 := hl4.cell 3
    have k0 := hr4.cell 0
    have k1 := hr4.cell 1
    have k2 := hr4.cell 2
    have k3 := hr4.cell 3
    have f0 := hr4.frozen 0
    have f1 := hr4.frozen 1
    have f2 := hr4.frozen 2
    have f3 := hr4.frozen 3
    simp only [List.getElem?_cons_zero, List.getElem?_cons_succ] at l0 l1 l2 l3 k0 k1 k2 k3
    have HR4 := Lib.hid hr4
    have HB4 := Lib.hid hb4
    have HN4 := Lib.hid hN4
    have HD4 := Lib.hid hD4
    have HDV := Lib.hid hdv
    clear hW4 hl4 hr4 hb4 hN4 hD4 hdv hgr hNb m0 m1 m2 m3
    go_wp2_with fail
    have hz4 := HB4.out.size
    have hsb := HS.out.below HB4.out
    have e3 : (xs.take 3).length = 3 := by have := HL.out; rw [List.length_take]; omega
    have hq : Sl W4 W4.heap.size (some ⟨g, o, none⟩) (xs.take 3).length (bcs (xs.take 3)) := by rw [e3]; exact (hsb.take_ (k := 3) (by omega)).more hz4
    have hE := EachF.cons (c := c) (EachF.nil W4 W4.heap.size w.heap.size (w.heap.size + 1)) hq (Fr2.old hg)
    rw [e3] at hE
    have hLL := LyrF.mk (w := W4) (B := W4.heap.size) (B0 := w.heap.size) (B1 := w.heap.size + 1) (nums := [N3]) (data := [xs.take 3]) (pay := xs.drop 5) (ds := dv) (cN := 1) (cD := 1) (AP := none) (cP := 0) (cB := c - 5)
      (HN4.out.sl HN4.out.lt rfl (fun j u hu => by rw [Nat.zero_add]; exact hu))
      (HD4.out.sl HD4.out.lt (by rw [HDV.out]) (fun j u hu => by rw [Nat.zero_add]; exact hu))
      (by rw [HDV.out]; exact hE)
      (((HC5.out w _ xs HS.out).below HB4.out).more hz4) (Fr2.new (by omega)) (Fr2.new (by omega)) (cut_fr hg HF5.out)
    have hfin := read_end (w := w) hLL HB4.out (Nat.le_refl _) (Nat.lt_succ_self _) (Nat.le_refl _)
    obtain ⟨z0, z1, z2, z3⟩ := set4_cells HR4.out (.slice (some ⟨gn, 0, none⟩) 1 1) (.slice (some ⟨W3.heap.size, 0, none⟩) 1 1) (.slice none 0 0) (.slice A5 (n - 5) (c - 5))
    exact bodyPost_ret (v := .tuple #[.agg #[.slice (some ⟨gn, 0, none⟩) 1 1, .slice (some ⟨W3.heap.size, 0, none⟩) 1 1, .slice none 0 0, .slice A5 (n - 5) (c - 5)], .bool true, .bool true]) (by simp [results, Tryz.results33, go_sem, z0, z1, z2, z3]) rfl (hR.out _ _ ⟨_, rfl, hfin.1, hfin.2.lyr⟩)
end Go.Proofs.YtphmklgbbpiafaaGreat
