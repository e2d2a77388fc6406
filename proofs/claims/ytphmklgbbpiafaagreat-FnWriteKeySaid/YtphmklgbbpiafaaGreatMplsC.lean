/-
  MPLS: what the reference reads. No condition.
-/
import Derived.Test.YtphmklgbbpiafaaGreatRdA
namespace Go.Proofs.YtphmklgbbpiafaaGreat
open Go Go.RowKit
set_option linter.unusedVariables false
set_option linter.unusedSimpArgs false
attribute [local go_sem] sd_drewN ad_drewN

/-- what is read of MPLS's bytes -/
def rdMpls (xs : List UInt8) : List Nat := [Lib.beNat (xs.take 4) / 4096, Lib.beNat (xs.take 4) / 512 % 8, Lib.beNat (xs.take 4) / 256 % 2, Lib.beNat (xs.take 4) % 256]
set_option maxRecDepth 1000000 in
set_option maxHeartbeats 10000000 in
theorem sread_mpls (xs : List UInt8) (A : Option Addr) (n c : Nat) (w : World) (hs : Sl w w.heap.size A n (bcs xs)) (h4 : 4 ≤ n) (hnc : n ≤ c) (hn : n ≤ 1000) :
    Calls Tryz.prog 33 #[.string k_mpls, .slice A n c] w fun e w' => ∃ v, e = .returned (.tuple #[v, .bool true, .bool true]) ∧ Below w.heap.size w w' ∧ Lyr w' w'.heap.size v (rdMpls xs) [] (xs.drop 4) := by
  refine calls_hid fun R hR => ?_
  have HS := Lib.hid hs
  obtain ⟨g, o, rfl, hg, _⟩ := hs.2 (by omega)
  clear hs
  obtain ⟨A4, cut4, cs4, cf4⟩ := cut_from g o n c 4 4 rfl (by omega) hnc
  have HC4 := Lib.hid cs4
  have HF4 := Lib.hid cf4
  clear cs4 cf4
  have hmm := @run_makeMap Tryz.prog
  obtain ⟨w1, w2, w3, w4, w5, w6, w7, w8, w9, w10, w11, w12, w13, w14, w15, w16, w17, w18, w19, w20, w21, r1, r2, r3, r4, r5, r6, r7, r8, r9, r10, r11, r12, r13, r14, r15, r16, r17, r18, r19, r20, r21, hmp, hgm⟩ := tab_laid ((w.alloc (.cells #[.slice none 0 0, .slice none 0 0, .slice none 0 0, .slice none 0 0] 27)).alloc (.map #[] 0)) (w.heap.size + 1) (by simpa using Mp.new (w.alloc (.cells #[.slice none 0 0, .slice none 0 0, .slice none 0 0, .slice none 0 0] 27)))
  have hlk := look_mpls w21 _ hmp
  have HGM := Lib.hid hgm
  clear hmp hgm
  have tl : decide ((n : Int) < 4) = false := by simp; omega
  go_enter Tryz.func33, Tryz.ntmps33
  go_wp2_with fail
  have hl : xs.length = n := by rw [← bcs_length]; exact HS.out.1
  have hbe : Below w.heap.size w w21 := (((Below.refl _ w).alloc (Nat.le_refl _) _).alloc (by simp) _).trans (below_of_some HGM.out (by simp; omega) (by omega))
  have hsz : w.heap.size + 2 ≤ w21.heap.size := by have := HGM.out.size; simpa using this
  have hbk : Bk w21 w.heap.size 27 [.slice none 0 0, .slice none 0 0, .slice none 0 0, .slice none 0 0] := ((Bk.new w 27 _).alloc _).grown HGM.out (by simp)
  have HS1 := Lib.hid (HS.out.below hbe)
  have HBE := Lib.hid hbe
  have HL := Lib.hid hl
  have HBK := Lib.hid hbk
  clear hlk r1 r2 r3 r4 r5 r6 r7 r8 r9 r10 r11 r12 r13 r14 r15 r16 r17 r18 r19 r20 r21 hmm hbe hl hbk
  refine (num_sl _ 4 c w.heap.size (xs.take 4) w21 (by omega) (HS1.out.take_ (by omega))).mono ?_
  rintro e w22 ⟨rfl, rfl⟩
  have hN2 : Lib.beNat (xs.take 4) < 4294967296 := beNat_take xs 4
  unfold rdMpls at hR
  generalize Lib.beNat (xs.take 4) = N at *
  go_wp2_with fail
  simp (disch := omega) only [and64_7, and64_1, and64_255]
  obtain ⟨cs, hcs⟩ : ∃ cs : List Value, cs = [.int .u64 ((N : Int) / 4096), .int .u64 ((N : Int) / 512 % 8), .int .u64 ((N : Int) / 256 % 2), .int .u64 ((N : Int) % 256)] := ⟨_, rfl⟩
  rw [← hcs]
  refine (layer_any _ _ _ _ _ _ _ _ rfl rfl _).mono ?_
  rintro e w23 ⟨rfl, hb23⟩
  have hbk2 := (HBK.out.alloc (.cells cs.toArray 46)).below hb23 (by simp; omega)
  have k0 := hbk2.cell 0
  have k1 := hbk2.cell 1
  have k2 := hbk2.cell 2
  have k3 := hbk2.cell 3
  simp only [List.getElem?_cons_zero, List.getElem?_cons_succ] at k0 k1 k2 k3
  have f0 := hbk2.frozen 0
  have f1 := hbk2.frozen 1
  have f2 := hbk2.frozen 2
  have f3 := hbk2.frozen 3
  have HB23 := Lib.hid hb23
  have HCS := Lib.hid hcs
  have HBK2 := Lib.hid hbk2
  clear hbk2 hb23 hcs
  go_wp2_with fail
  have hlA : Below w.heap.size w (w21.alloc (.cells cs.toArray 46)) := HBE.out.alloc (by omega) _
  have hl23 : Below w.heap.size w w23 := hlA.trans (HB23.out.mono hlA.size)
  have hN3 : Sl w23 w23.heap.size (some ⟨w21.heap.size, 0, none⟩) 4 (ncs [N / 4096, N / 512 % 8, N / 256 % 2, N % 256]) := ((Sl.new (w := w21) (t := 46) (cs := cs) (n := 4) (by rw [HCS.out]; rfl)).below (HB23.out.mono (by simp))).more (by have := HB23.out.size; simpa using this) |>.cast (by rw [HCS.out]; simp [ncs])
  have hP3 : Sl w23 w23.heap.size A4 (n - 4) (bcs (xs.drop 4)) := ((HC4.out w _ xs HS.out).below hl23).more hl23.size
  have hLL := LyrF.plain (B0 := w.heap.size) (B1 := w.heap.size + 1) (cN := 4) (cB := c - 4) hN3 hP3 (Fr2.new (by omega)) (cut_fr hg HF4.out)
  have hfin := read_end (w := w) hLL hl23 (Nat.le_refl _) (Nat.lt_succ_self _) (Nat.le_refl _)
  obtain ⟨z0, z1, z2, z3⟩ := set4_cells HBK2.out (.slice (some ⟨w21.heap.size, 0, none⟩) 4 4) (.slice none 0 0) (.slice none 0 0) (.slice A4 (n - 4) (c - 4))
  exact bodyPost_ret (v := .tuple #[.agg #[.slice (some ⟨w21.heap.size, 0, none⟩) 4 4, .slice none 0 0, .slice none 0 0, .slice A4 (n - 4) (c - 4)], .bool true, .bool true]) (by simp [results, Tryz.results33, go_sem, z0, z1, z2, z3]) rfl (hR.out _ _ ⟨_, rfl, hfin.1, hfin.2.lyr⟩)
end Go.Proofs.YtphmklgbbpiafaaGreat
