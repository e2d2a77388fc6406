/-
  Bfd: what the reference reads. No condition.
-/
import Derived.Deep.RegionHeld3
import Derived.Test.YtphmklgbbpiafaaGreatRdA
import Derived.Test.YtphmklgbbpiafaaGreatSrdA
namespace Go.Proofs.YtphmklgbbpiafaaGreat
open Go Go.RowKit
set_option linter.unusedVariables false
set_option linter.unusedSimpArgs false
attribute [local go_sem] sd_drewN ad_drewN

set_option maxRecDepth 1000000 in
set_option maxHeartbeats 10000000 in
theorem sread_bfd (xs : List UInt8) (nums : List Nat) (data : List (List UInt8)) (pay : List UInt8) (hF : Srd 53 xs nums data pay) (A : Option Addr) (n c : Nat) (w : World) (hs : Sl w w.heap.size A n (bcs xs)) (h4 : 24 ≤ n) (hnc : n ≤ c) (hn : n ≤ 1000) :
    Calls Tryz.prog 33 #[.string k_bfd, .slice A n c] w fun e w' => ∃ v, e = .returned (.tuple #[v, .bool true, .bool true]) ∧ Below w.heap.size w w' ∧ Lyr w' w'.heap.size v nums data pay := by
  refine calls_hid fun R hR => ?_
  have HS := Lib.hid hs
  have HFN := Lib.hid hF
  clear hF
  clear hs
  have hmm := @run_makeMap Tryz.prog
  obtain ⟨w1, w2, w3, w4, w5, w6, w7, w8, w9, w10, w11, w12, w13, w14, w15, w16, w17, w18, w19, w20, w21, r1, r2, r3, r4, r5, r6, r7, r8, r9, r10, r11, r12, r13, r14, r15, r16, r17, r18, r19, r20, r21, hmp, hgm⟩ := tab_laid ((w.alloc (.cells #[.slice none 0 0, .slice none 0 0, .slice none 0 0, .slice none 0 0] 27)).alloc (.map #[] 0)) (w.heap.size + 1) (by simpa using Mp.new (w.alloc (.cells #[.slice none 0 0, .slice none 0 0, .slice none 0 0, .slice none 0 0] 27)))
  have hlk := look_bfd w21 _ hmp
  have HGM := Lib.hid hgm
  clear hmp hgm
  have tl : decide ((n : Int) < 24) = false := by simp; omega
  go_enter Tryz.func33, Tryz.ntmps33
  go_wp2_with fail
  have hl : xs.length = n := by rw [← bcs_length]; exact HS.out.1
  have hbe : Below w.heap.size w w21 := (((Below.refl _ w).alloc (Nat.le_refl _) _).alloc (by simp) _).trans (below_of_some HGM.out (by simp; omega) (by omega))
  have hsz : w.heap.size + 2 ≤ w21.heap.size := by have := HGM.out.size; simpa using this
  have hbk : Bk w21 w.heap.size 27 [.slice none 0 0, .slice none 0 0, .slice none 0 0, .slice none 0 0] := ((Bk.new w 27 _).alloc _).grown HGM.out (by simp)
  have HS1 := Lib.hid (HS.out.below hbe)
  have HBE := Lib.hid hbe
  have HL := Lib.hid hl
  have HBK := Lib.hid hbk
  clear hlk r1 r2 r3 r4 r5 r6 r7 r8 r9 r10 r11 r12 r13 r14 r15 r16 r17 r18 r19 r20 r21 hmm hbe hl hbk
  refine (HFN.out A n c w.heap.size (w.heap.size + 1) w21 HS1.out (by omega) (by omega) hnc).mono ?_
  rintro e w3 ⟨v, rfl, hb3, hL3⟩
  obtain ⟨AN, aN, cN, AD, aD, cD, AP, cP, AB, aB, cB, hv⟩ : ∃ AN aN cN AD aD cD AP cP AB aB cB, v = .agg #[.slice AN aN cN, .slice AD aD cD, .slice AP 0 cP, .slice AB aB cB] := by
    obtain ⟨AN, cN, AD, cD, AP, cP, AB, cB, ds, hv, _⟩ := hL3
    exact ⟨_, _, _, _, _, _, _, _, _, _, _, hv⟩
  subst hv
  have hr3 := HBK.out.below hb3 (by omega)
  have k0 := hr3.cell 0
  have k1 := hr3.cell 1
  have k2 := hr3.cell 2
  have k3 := hr3.cell 3
  have f0 := hr3.frozen 0
  have f1 := hr3.frozen 1
  have f2 := hr3.frozen 2
  have f3 := hr3.frozen 3
  simp only [List.getElem?_cons_zero, List.getElem?_cons_succ] at k0 k1 k2 k3
  have HR3 := Lib.hid hr3
  have HB3 := Lib.hid hb3
  have HL3 := Lib.hid hL3
  clear hr3 hb3 hL3
  go_wp2_with fail
  have hfin := read_end (w := w) HL3.out (HBE.out.trans (HB3.out.mono (by omega))) (Nat.le_refl _) (Nat.lt_succ_self _) (Nat.le_refl _)
  obtain ⟨z0, z1, z2, z3⟩ := set4_cells HR3.out (.slice AN aN cN) (.slice AD aD cD) (.slice AP 0 cP) (.slice AB aB cB)
  exact bodyPost_ret (v := .tuple #[.agg #[.slice AN aN cN, .slice AD aD cD, .slice AP 0 cP, .slice AB aB cB], .bool true, .bool true]) (by simp [results, Tryz.results33, go_sem, z0, z1, z2, z3]) rfl (hR.out _ _ ⟨_, rfl, hfin.1, hfin.2.lyr⟩)
end Go.Proofs.YtphmklgbbpiafaaGreat
