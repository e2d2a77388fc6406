/-
  bfd: what impl.made makes of its numbers and bytes. No condition.
-/
import Derived.Test.YtphmklgbbpiafaaGreatTakA
import Derived.Test.YtphmklgbbpiafaaGreatBfdA
namespace Go.Proofs.YtphmklgbbpiafaaGreat
open Go Go.RowKit
set_option linter.unusedVariables false
set_option linter.unusedSimpArgs false
attribute [local go_sem] sd_drewN ad_drewN

set_option maxRecDepth 1000000 in
set_option maxHeartbeats 4000000 in
theorem made_bfd (n0 n1 n2 n3 n4 n5 n7 n8 n9 n10 n11 n12 n13 n14 : Nat) (h0 : n0 < 8) (h1 : n1 < 32) (h2 : n2 < 4) (h3 : n3 < 2) (h4 : n4 < 2) (h5 : n5 < 2) (h7 : n7 < 2) (h8 : n8 < 2) (h9 : n9 < 256) (h10 : n10 < 4294967296) (h11 : n11 < 4294967296) (h12 : n12 < 4294967296) (h13 : n13 < 4294967296) (h14 : n14 < 4294967296) (v : Value) (pay : List UInt8) (w : World) (hv : Lyr w w.heap.size v [n0, n1, n2, n3, n4, n5, 0, n7, n8, n9, n10, n11, n12, n13, n14] [] pay) :
    Calls Tryz.prog 30 #[.string k_bfd, v] w fun e w' => ∃ gx, e = .returned (.iface 125 (.pointer (some ⟨gx, 0, none⟩))) ∧ Below w.heap.size w w' ∧ w.heap.size ≤ gx ∧ ∀ w2 gb, Below w'.heap.size w' w2 → w'.heap.size ≤ gb → MBfd n0 n1 n2 n3 n4 n5 n7 n8 n9 n10 n11 n12 n13 n14 w2 gx gb := by
  refine calls_hid fun R hR => ?_
  obtain ⟨AN, cN, AD, cD, AP, cP, AB, cB, ds, rfl, hN, hD, hE, hP⟩ := hv
  have HN := Lib.hid hN
  have HD := Lib.hid hD
  have HE := Lib.hid hE
  clear hN hD hE hP
  simp only [List.length_cons, List.length_nil, Nat.zero_add, Nat.reduceAdd] at HN HD ⊢
  have hT0 := Tak.start w 134 AN AD AP AB 15 cN 0 cD cP pay.length cB [.slice AN 15 cN, .slice AD 0 cD, .slice AP 0 cP, .slice AB pay.length cB] [.slice none 0 0, .slice none 0 0, .int .u8 0, .int .u8 0, .int .u8 0, .bool false, .bool false, .bool false, .bool false, .bool false, .bool false, .int .u8 0, .int .u32 0, .int .u32 0, .int .u32 0, .int .u32 0, .int .u32 0, .pointer none]
  have HT0 := Lib.hid hT0
  clear hT0
  go_enter Tryz.func30, Tryz.ntmps30
  go_wp2_with fail
  refine (Tak.number HT0.out HN.out (n0) _ rfl (by omega) (by omega) (by omega) (by omega) (by simp; omega)).mono ?_
  rintro e w1 ⟨rfl, hT1⟩
  have c2 := hT1.bx.cell 2
  have f2 := hT1.bx.frozen 2
  simp only [List.getElem?_cons_zero, List.getElem?_cons_succ, List.set_cons_zero, List.set_cons_succ] at c2
  have HT1 := Lib.hid hT1
  clear hT1
  go_wp2_with fail
  clear c2 f2
  refine (Tak.number (HT1.out.store 2 (.int .u8 n0)) HN.out (n1) _ rfl (by omega) (by omega) (by omega) (by omega) (by simp; omega)).mono ?_
  rintro e w2 ⟨rfl, hT2⟩
  have c3 := hT2.bx.cell 3
  have f3 := hT2.bx.frozen 3
  simp only [List.getElem?_cons_zero, List.getElem?_cons_succ, List.set_cons_zero, List.set_cons_succ] at c3
  have HT2 := Lib.hid hT2
  clear hT2
  go_wp2_with fail
  clear c3 f3
  refine (Tak.number (HT2.out.store 3 (.int .u8 n1)) HN.out (n2) _ rfl (by omega) (by omega) (by omega) (by omega) (by simp; omega)).mono ?_
  rintro e w3 ⟨rfl, hT3⟩
  have c4 := hT3.bx.cell 4
  have f4 := hT3.bx.frozen 4
  simp only [List.getElem?_cons_zero, List.getElem?_cons_succ, List.set_cons_zero, List.set_cons_succ] at c4
  have HT3 := Lib.hid hT3
  clear hT3
  go_wp2_with fail
  clear c4 f4
  refine (Tak.truth (HT3.out.store 4 (.int .u8 n2)) HN.out (n3) rfl (by omega) (by omega) (by omega)).mono ?_
  rintro e w4 ⟨rfl, hT4⟩
  have c5 := hT4.bx.cell 5
  have f5 := hT4.bx.frozen 5
  simp only [List.getElem?_cons_zero, List.getElem?_cons_succ, List.set_cons_zero, List.set_cons_succ] at c5
  have HT4 := Lib.hid hT4
  clear hT4
  go_wp2_with fail
  clear c5 f5
  refine (Tak.truth (HT4.out.store 5 (.bool (bt n3))) HN.out (n4) rfl (by omega) (by omega) (by omega)).mono ?_
  rintro e w5 ⟨rfl, hT5⟩
  have c6 := hT5.bx.cell 6
  have f6 := hT5.bx.frozen 6
  simp only [List.getElem?_cons_zero, List.getElem?_cons_succ, List.set_cons_zero, List.set_cons_succ] at c6
  have HT5 := Lib.hid hT5
  clear hT5
  go_wp2_with fail
  clear c6 f6
  refine (Tak.truth (HT5.out.store 6 (.bool (bt n4))) HN.out (n5) rfl (by omega) (by omega) (by omega)).mono ?_
  rintro e w6 ⟨rfl, hT6⟩
  have c7 := hT6.bx.cell 7
  have f7 := hT6.bx.frozen 7
  simp only [List.getElem?_cons_zero, List.getElem?_cons_succ, List.set_cons_zero, List.set_cons_succ] at c7
  have HT6 := Lib.hid hT6
  clear hT6
  go_wp2_with fail
  clear c7 f7
  refine (Tak.truth (HT6.out.store 7 (.bool (bt n5))) HN.out (0) rfl (by omega) (by omega) (by omega)).mono ?_
  rintro e w7 ⟨rfl, hT7⟩
  have c8 := hT7.bx.cell 8
  have f8 := hT7.bx.frozen 8
  simp only [List.getElem?_cons_zero, List.getElem?_cons_succ, List.set_cons_zero, List.set_cons_succ] at c8
  have HT7 := Lib.hid hT7
  clear hT7
  go_wp2_with fail
  clear c8 f8
  refine (Tak.truth (HT7.out.store 8 (.bool (bt 0))) HN.out (n7) rfl (by omega) (by omega) (by omega)).mono ?_
  rintro e w8 ⟨rfl, hT8⟩
  have c9 := hT8.bx.cell 9
  have f9 := hT8.bx.frozen 9
  simp only [List.getElem?_cons_zero, List.getElem?_cons_succ, List.set_cons_zero, List.set_cons_succ] at c9
  have HT8 := Lib.hid hT8
  clear hT8
  go_wp2_with fail
  clear c9 f9
  refine (Tak.truth (HT8.out.store 9 (.bool (bt n7))) HN.out (n8) rfl (by omega) (by omega) (by omega)).mono ?_
  rintro e w9 ⟨rfl, hT9⟩
  have c10 := hT9.bx.cell 10
  have f10 := hT9.bx.frozen 10
  simp only [List.getElem?_cons_zero, List.getElem?_cons_succ, List.set_cons_zero, List.set_cons_succ] at c10
  have HT9 := Lib.hid hT9
  clear hT9
  go_wp2_with fail
  clear c10 f10
  refine (Tak.number (HT9.out.store 10 (.bool (bt n8))) HN.out (n9) _ rfl (by omega) (by omega) (by omega) (by omega) (by simp; omega)).mono ?_
  rintro e w10 ⟨rfl, hT10⟩
  have c11 := hT10.bx.cell 11
  have f11 := hT10.bx.frozen 11
  simp only [List.getElem?_cons_zero, List.getElem?_cons_succ, List.set_cons_zero, List.set_cons_succ] at c11
  have HT10 := Lib.hid hT10
  clear hT10
  go_wp2_with fail
  clear c11 f11
  refine (Tak.number (HT10.out.store 11 (.int .u8 n9)) HN.out (n10) _ rfl (by omega) (by omega) (by omega) (by omega) (by simp; omega)).mono ?_
  rintro e w11 ⟨rfl, hT11⟩
  have c12 := hT11.bx.cell 12
  have f12 := hT11.bx.frozen 12
  simp only [List.getElem?_cons_zero, List.getElem?_cons_succ, List.set_cons_zero, List.set_cons_succ] at c12
  have HT11 := Lib.hid hT11
  clear hT11
  go_wp2_with fail
  clear c12 f12
  refine (Tak.number (HT11.out.store 12 (.int .u32 n10)) HN.out (n11) _ rfl (by omega) (by omega) (by omega) (by omega) (by simp; omega)).mono ?_
  rintro e w12 ⟨rfl, hT12⟩
  have c13 := hT12.bx.cell 13
  have f13 := hT12.bx.frozen 13
  simp only [List.getElem?_cons_zero, List.getElem?_cons_succ, List.set_cons_zero, List.set_cons_succ] at c13
  have HT12 := Lib.hid hT12
  clear hT12
  go_wp2_with fail
  clear c13 f13
  refine (Tak.number (HT12.out.store 13 (.int .u32 n11)) HN.out (n12) _ rfl (by omega) (by omega) (by omega) (by omega) (by simp; omega)).mono ?_
  rintro e w13 ⟨rfl, hT13⟩
  have c14 := hT13.bx.cell 14
  have f14 := hT13.bx.frozen 14
  simp only [List.getElem?_cons_zero, List.getElem?_cons_succ, List.set_cons_zero, List.set_cons_succ] at c14
  have HT13 := Lib.hid hT13
  clear hT13
  go_wp2_with fail
  clear c14 f14
  refine (Tak.number (HT13.out.store 14 (.int .u32 n12)) HN.out (n13) _ rfl (by omega) (by omega) (by omega) (by omega) (by simp; omega)).mono ?_
  rintro e w14 ⟨rfl, hT14⟩
  have c15 := hT14.bx.cell 15
  have f15 := hT14.bx.frozen 15
  simp only [List.getElem?_cons_zero, List.getElem?_cons_succ, List.set_cons_zero, List.set_cons_succ] at c15
  have HT14 := Lib.hid hT14
  clear hT14
  go_wp2_with fail
  clear c15 f15
  refine (Tak.number (HT14.out.store 15 (.int .u32 n13)) HN.out (n14) _ rfl (by omega) (by omega) (by omega) (by omega) (by simp; omega)).mono ?_
  rintro e w15 ⟨rfl, hT15⟩
  have c16 := hT15.bx.cell 16
  have f16 := hT15.bx.frozen 16
  simp only [List.getElem?_cons_zero, List.getElem?_cons_succ, List.set_cons_zero, List.set_cons_succ] at c16
  have HT15 := Lib.hid hT15
  clear hT15
  go_wp2_with fail
  clear c16 f16
  refine (Tak.parts (HT15.out.store 16 (.int .u32 n14))).mono ?_
  rintro e w16 ⟨rfl, hT16⟩
  have HT16 := Lib.hid hT16
  clear hT16
  go_wp2_with fail
  refine wp_loop_rounds 1 ?_
  rw [rounds_succ]
  go_wp2_with fail
  refine (Tak.whole HT16.out rfl rfl (by omega) (by omega)).mono ?_
  rintro e wz ⟨rfl, hTz⟩
  have HTz := Lib.hid hTz
  clear hTz
  go_wp2_with fail
  exact hR.out _ _ ⟨_, rfl, HTz.out.be, HTz.out.lx, fun w2 gb hb hg => ⟨_, _, HTz.out.bx.below hb HTz.out.bx.lt⟩⟩
end Go.Proofs.YtphmklgbbpiafaaGreat
