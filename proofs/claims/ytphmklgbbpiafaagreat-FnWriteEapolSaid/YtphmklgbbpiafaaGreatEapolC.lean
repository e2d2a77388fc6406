/-
  EAPOL: what the reference reads. No condition.
-/
import Derived.Deep.RegionHeld3
import Derived.Test.YtphmklgbbpiafaaGreatRdA
import Derived.Test.YtphmklgbbpiafaaGreatCutB
namespace Go.Proofs.YtphmklgbbpiafaaGreat
open Go Go.RowKit
set_option linter.unusedVariables false
set_option linter.unusedSimpArgs false
attribute [local go_sem] sd_drewN ad_drewN

/-- what is read of Eapol's bytes -/
def rdEapol (xs : List UInt8) : List Nat := [(xs.getD 0 0).toNat, (xs.getD 1 0).toNat, Lib.beNat ((xs.drop 2).take 2)]
set_option maxRecDepth 1000000 in
set_option maxHeartbeats 10000000 in
theorem sread_eapol (xs : List UInt8) (A : Option Addr) (n c : Nat) (w : World) (hs : Sl w w.heap.size A n (bcs xs)) (h4 : 4 ≤ n) (hnc : n ≤ c) (hn : n ≤ 1000) :
    Calls Tryz.prog 33 #[.string k_eapol, .slice A n c] w fun e w' => ∃ v, e = .returned (.tuple #[v, .bool true, .bool true]) ∧ Below w.heap.size w w' ∧ Lyr w' w'.heap.size v (rdEapol xs) [] (xs.drop 4) := by
  refine calls_hid fun R hR => ?_
  have HS := Lib.hid hs
  obtain ⟨g, o, rfl, hg, _⟩ := hs.2 (by omega)
  clear hs
  obtain ⟨A4, cut4, cs4, cf4⟩ := cut_from g o n c 4 4 rfl (by omega) hnc
  have HC4 := Lib.hid cs4
  have HF4 := Lib.hid cf4
  clear cs4 cf4
  have hmm := @run_makeMap Tryz.prog
  obtain ⟨w1, w2, w3, w4, w5, w6, w7, w8, w9, w10, w11, w12, w13, w14, w15, w16, w17, w18, w19, w20, w21, r1, r2, r3, r4, r5, r6, r7, r8, r9, r10, r11, r12, r13, r14, r15, r16, r17, r18, r19, r20, r21, hmp, hgm⟩ := tab_laid ((w.alloc (.cells #[.slice none 0 0, .slice none 0 0, .slice none 0 0, .slice none 0 0] 27)).alloc (.map #[] 0)) (w.heap.size + 1) (by simpa using Mp.new (w.alloc (.cells #[.slice none 0 0, .slice none 0 0, .slice none 0 0, .slice none 0 0] 27)))
  have hlk := look_eapol w21 _ hmp
  have HGM := Lib.hid hgm
  clear hmp hgm
  have tl : decide ((n : Int) < 4) = false := by simp; omega
  go_enter Tryz.func33, Tryz.ntmps33
  go_wp2_with fail
  have hl : xs.length = n := by rw [← bcs_length]; exact HS.out.1
  have hbe : Below w.heap.size w w21 := (((Below.refl _ w).alloc (Nat.le_refl _) _).alloc (by simp) _).trans (below_of_some HGM.out (by simp; omega) (by omega))
  have hsz : w.heap.size + 2 ≤ w21.heap.size := by have := HGM.out.size; simpa using this
  have hbk : Bk w21 w.heap.size 27 [.slice none 0 0, .slice none 0 0, .slice none 0 0, .slice none 0 0] := ((Bk.new w 27 _).alloc _).grown HGM.out (by simp)
  have HS1 := Lib.hid (HS.out.below hbe)
  have HBE := Lib.hid hbe
  have HL := Lib.hid hl
  have HBK := Lib.hid hbk
  clear hlk r1 r2 r3 r4 r5 r6 r7 r8 r9 r10 r11 r12 r13 r14 r15 r16 r17 r18 r19 r20 r21 hmm hbe hl hbk
  have hgw : g < w21.heap.size := by omega
  have hgb : g ≠ w.heap.size := by omega
  have hm2 : Sl w21 w.heap.size (some ⟨g, o + 2, none⟩) 2 (bcs ((xs.drop 2).take 2)) := (HS1.out.drop_ (k := 2) (by omega)).take_ (by omega)
  have HM2 := Lib.hid hm2
  clear hm2
  have jz2 : ¬ (c : Int) = 2 := by omega
  have jy2 : ¬ c = 2 := by omega
  have x0 : w21.cell? ⟨g, o + 0, none⟩ = some (.int .u8 (xs.getD 0 0).toNat) := HS1.out.byte (by omega)
  have jn0 : 0 < n := by omega
  have ji0 : (0 : Int) < (n : Int) := by omega
  have x1 : w21.cell? ⟨g, o + 1, none⟩ = some (.int .u8 (xs.getD 1 0).toNat) := HS1.out.byte (by omega)
  have jn1 : 1 < n := by omega
  have ji1 : (1 : Int) < (n : Int) := by omega
  simp only [Nat.add_zero] at x0
  have jc : (4 : Int) ≤ (c : Int) := by omega
  have jn : (4 : Int) ≤ (n : Int) := by omega
  have hN2 : Lib.beNat ((xs.drop 2).take 2) < 65536 := beNat_take _ 2
  have hb0 := (xs.getD 0 0).toNat_lt
  have hb1 := (xs.getD 1 0).toNat_lt
  unfold rdEapol at hR
  generalize hNN2 : Lib.beNat ((xs.drop 2).take 2) = N2 at *
  have HNN2 := Lib.hid hNN2
  clear hNN2
  generalize (xs.getD 0 0).toNat = a0 at *
  have hu0 : IntKind.u64.wrap (a0 : Int) = a0 := IntWalk.u64_in _ (by omega)
  generalize (xs.getD 1 0).toNat = a1 at *
  have hu1 : IntKind.u64.wrap (a1 : Int) = a1 := IntWalk.u64_in _ (by omega)
  go_region_held3 (fun w' => w'.cell? ⟨g, o, none⟩ = some (.int .u8 a0) ∧ w'.cell? ⟨g, o + 1, none⟩ = some (.int .u8 a1))
    (first | with_reducible exact ⟨y0, y1⟩ | with_reducible exact ⟨low_drew.trans x0, low_drew.trans x1⟩ | with_reducible exact ⟨(low_alloc hgw).trans x0, (low_alloc hgw).trans x1⟩ | exact ⟨(set4_low hgb).trans y0, (set4_low hgb).trans y1⟩)
    ((first | (go_at_call 46; (first | (refine (num_still _ 2 _ w.heap.size ((xs.drop 2).take 2) _ (by omega) (HM2.out.below (Below.refl _ _).drew)).mono ?_; rintro e w' ⟨rfl, rfl⟩; rw [HNN2.out]))) | (go_at_call 45; obtain ⟨cs, hcs⟩ : ∃ cs : List Value, cs = [.int .u64 a0, .int .u64 a1, .int .u64 N2] := ⟨_, rfl⟩; rw [← hcs]; refine (layer_any _ _ _ _ _ _ _ _ rfl rfl _).mono ?_; rintro e w23 ⟨rfl, hb23⟩; have hbk2 := (HBK.out.alloc (.cells cs.toArray 46)).drew.below hb23 (by simp; omega); have k0 := hbk2.cell 0; have k1 := hbk2.cell 1; have k2 := hbk2.cell 2; have k3 := hbk2.cell 3; simp only [List.getElem?_cons_zero, List.getElem?_cons_succ] at k0 k1 k2 k3; have f0 := hbk2.frozen 0; have f1 := hbk2.frozen 1; have f2 := hbk2.frozen 2; have f3 := hbk2.frozen 3; have y0 := (low_below (g := g) (i := o) hb23 (by simp; omega)).trans ((low_alloc hgw).trans x0); have y1 := (low_below (g := g) (i := o + 1) hb23 (by simp; omega)).trans ((low_alloc hgw).trans x1))))
  have HB23 := Lib.hid hb23
  have HCS := Lib.hid hcs
  have HBK2 := Lib.hid hbk2
  clear hbk2 hb23 hcs
  go_wp2_with fail
  have hlA : Below w.heap.size w (w21.alloc (.cells cs.toArray 46)).drew := (HBE.out.alloc (by omega) _).drew
  have hl23 : Below w.heap.size w w23 := hlA.trans (HB23.out.mono hlA.size)
  have hN3 : Sl w23 w23.heap.size (some ⟨w21.heap.size, 0, none⟩) 3 (ncs [a0, a1, N2]) := (((Sl.new (w := w21) (t := 46) (cs := cs) (n := 3) (by rw [HCS.out]; rfl)).keep (fun _ _ => rfl) : Sl (w21.alloc (.cells cs.toArray 46)).drew _ _ _ _).below (HB23.out.mono (by simp))).more (by have := HB23.out.size; simpa using this) |>.cast (by rw [HCS.out]; simp [ncs])
  have hP3 : Sl w23 w23.heap.size A4 (n - 4) (bcs (xs.drop 4)) := ((HC4.out w _ xs HS.out).below hl23).more hl23.size
  have hLL := LyrF.plain (B0 := w.heap.size) (B1 := w.heap.size + 1) (cN := 3) (cB := c - 4) hN3 hP3 (Fr2.new (by omega)) (cut_fr hg HF4.out)
  have hfin := read_end (w := w) hLL hl23 (Nat.le_refl _) (Nat.lt_succ_self _) (Nat.le_refl _)
  obtain ⟨z0, z1, z2, z3⟩ := set4_cells HBK2.out (.slice (some ⟨w21.heap.size, 0, none⟩) 3 3) (.slice none 0 0) (.slice none 0 0) (.slice A4 (n - 4) (c - 4))
  exact bodyPost_ret (v := .tuple #[.agg #[.slice (some ⟨w21.heap.size, 0, none⟩) 3 3, .slice none 0 0, .slice none 0 0, .slice A4 (n - 4) (c - 4)], .bool true, .bool true]) (by simp [results, Tryz.results33, go_sem, z0, z1, z2, z3]) rfl (hR.out _ _ ⟨_, rfl, hfin.1, hfin.2.lyr⟩)
end Go.Proofs.YtphmklgbbpiafaaGreat
