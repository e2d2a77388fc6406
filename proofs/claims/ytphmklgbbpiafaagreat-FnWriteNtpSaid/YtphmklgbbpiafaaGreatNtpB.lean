/-
  ntp: what impl.made makes of its numbers and bytes. No condition.
-/
import Derived.Test.YtphmklgbbpiafaaGreatTakA
import Derived.Test.YtphmklgbbpiafaaGreatNtpA
namespace Go.Proofs.YtphmklgbbpiafaaGreat
open Go Go.RowKit
set_option linter.unusedVariables false
set_option linter.unusedSimpArgs false
attribute [local go_sem] sd_drewN ad_drewN

set_option maxRecDepth 1000000 in
set_option maxHeartbeats 4000000 in
theorem made_ntp (n0 n1 n2 n3 n4 n5 n6 n7 n8 n9 n10 n11 n12 : Nat) (h0 : n0 < 4) (h1 : n1 < 8) (h2 : n2 < 8) (h3 : n3 < 256) (h4 : n4 < 256) (h5 : n5 < 256) (h6 : n6 < 4294967296) (h7 : n7 < 4294967296) (h8 : n8 < 4294967296) (h9 : n9 < 18446744073709551616) (h10 : n10 < 18446744073709551616) (h11 : n11 < 18446744073709551616) (h12 : n12 < 18446744073709551616) (d0 : List UInt8) (hd : d0.length ≤ 300) (v : Value) (pay : List UInt8) (w : World) (hv : Lyr w w.heap.size v [n0, n1, n2, n3, n4, n5, n6, n7, n8, n9, n10, n11, n12] [d0] pay) :
    Calls Tryz.prog 30 #[.string k_ntp, v] w fun e w' => ∃ gx, e = .returned (.iface 141 (.pointer (some ⟨gx, 0, none⟩))) ∧ Below w.heap.size w w' ∧ w.heap.size ≤ gx ∧ ∀ w2 gb, Below w'.heap.size w' w2 → w'.heap.size ≤ gb → MNtp n0 n1 n2 n3 n4 n5 n6 n7 n8 n9 n10 n11 n12 d0 w2 gx gb := by
  refine calls_hid fun R hR => ?_
  obtain ⟨AN, cN, AD, cD, AP, cP, AB, cB, ds, rfl, hN, hD, hE, hP⟩ := hv
  have HN := Lib.hid hN
  have HD := Lib.hid hD
  have HE := Lib.hid hE
  clear hN hD hE hP
  simp only [List.length_cons, List.length_nil, Nat.zero_add, Nat.reduceAdd] at HN HD ⊢
  have hT0 := Tak.start w 152 AN AD AP AB 13 cN 1 cD cP pay.length cB [.slice AN 13 cN, .slice AD 1 cD, .slice AP 0 cP, .slice AB pay.length cB] [.slice none 0 0, .slice none 0 0, .int .u8 0, .int .u8 0, .int .u8 0, .int .u8 0, .int .i8 0, .int .i8 0, .int .u32 0, .int .u32 0, .int .u32 0, .int .u64 0, .int .u64 0, .int .u64 0, .int .u64 0, .slice none 0 0]
  have HT0 := Lib.hid hT0
  clear hT0
  go_enter Tryz.func30, Tryz.ntmps30
  go_wp2_with fail
  refine (Tak.number HT0.out HN.out (n0) _ rfl (by omega) (by omega) (by omega) (by omega) (by simp; omega)).mono ?_
  rintro e w1 ⟨rfl, hT1⟩
  have c2 := hT1.bx.cell 2
  have f2 := hT1.bx.frozen 2
  simp only [List.getElem?_cons_zero, List.getElem?_cons_succ, List.set_cons_zero, List.set_cons_succ] at c2
  have HT1 := Lib.hid hT1
  clear hT1
  go_wp2_with fail
  clear c2 f2
  refine (Tak.number (HT1.out.store 2 (.int .u8 n0)) HN.out (n1) _ rfl (by omega) (by omega) (by omega) (by omega) (by simp; omega)).mono ?_
  rintro e w2 ⟨rfl, hT2⟩
  have c3 := hT2.bx.cell 3
  have f3 := hT2.bx.frozen 3
  simp only [List.getElem?_cons_zero, List.getElem?_cons_succ, List.set_cons_zero, List.set_cons_succ] at c3
  have HT2 := Lib.hid hT2
  clear hT2
  go_wp2_with fail
  clear c3 f3
  refine (Tak.number (HT2.out.store 3 (.int .u8 n1)) HN.out (n2) _ rfl (by omega) (by omega) (by omega) (by omega) (by simp; omega)).mono ?_
  rintro e w3 ⟨rfl, hT3⟩
  have c4 := hT3.bx.cell 4
  have f4 := hT3.bx.frozen 4
  simp only [List.getElem?_cons_zero, List.getElem?_cons_succ, List.set_cons_zero, List.set_cons_succ] at c4
  have HT3 := Lib.hid hT3
  clear hT3
  go_wp2_with fail
  clear c4 f4
  refine (Tak.number (HT3.out.store 4 (.int .u8 n2)) HN.out (n3) _ rfl (by omega) (by omega) (by omega) (by omega) (by simp; omega)).mono ?_
  rintro e w4 ⟨rfl, hT4⟩
  have c5 := hT4.bx.cell 5
  have f5 := hT4.bx.frozen 5
  simp only [List.getElem?_cons_zero, List.getElem?_cons_succ, List.set_cons_zero, List.set_cons_succ] at c5
  have HT4 := Lib.hid hT4
  clear hT4
  go_wp2_with fail
  clear c5 f5
  refine (Tak.number (HT4.out.store 5 (.int .u8 n3)) HN.out (n4) _ rfl (by omega) (by omega) (by omega) (by omega) (by simp; omega)).mono ?_
  rintro e w5 ⟨rfl, hT5⟩
  have c6 := hT5.bx.cell 6
  have f6 := hT5.bx.frozen 6
  simp only [List.getElem?_cons_zero, List.getElem?_cons_succ, List.set_cons_zero, List.set_cons_succ] at c6
  have HT5 := Lib.hid hT5
  clear hT5
  go_wp2_with fail
  clear c6 f6
  refine (Tak.number (HT5.out.store 6 (.int .i8 (s8 n4))) HN.out (n5) _ rfl (by omega) (by omega) (by omega) (by omega) (by simp; omega)).mono ?_
  rintro e w6 ⟨rfl, hT6⟩
  have c7 := hT6.bx.cell 7
  have f7 := hT6.bx.frozen 7
  simp only [List.getElem?_cons_zero, List.getElem?_cons_succ, List.set_cons_zero, List.set_cons_succ] at c7
  have HT6 := Lib.hid hT6
  clear hT6
  go_wp2_with fail
  clear c7 f7
  refine (Tak.number (HT6.out.store 7 (.int .i8 (s8 n5))) HN.out (n6) _ rfl (by omega) (by omega) (by omega) (by omega) (by simp; omega)).mono ?_
  rintro e w7 ⟨rfl, hT7⟩
  have c8 := hT7.bx.cell 8
  have f8 := hT7.bx.frozen 8
  simp only [List.getElem?_cons_zero, List.getElem?_cons_succ, List.set_cons_zero, List.set_cons_succ] at c8
  have HT7 := Lib.hid hT7
  clear hT7
  go_wp2_with fail
  clear c8 f8
  refine (Tak.number (HT7.out.store 8 (.int .u32 n6)) HN.out (n7) _ rfl (by omega) (by omega) (by omega) (by omega) (by simp; omega)).mono ?_
  rintro e w8 ⟨rfl, hT8⟩
  have c9 := hT8.bx.cell 9
  have f9 := hT8.bx.frozen 9
  simp only [List.getElem?_cons_zero, List.getElem?_cons_succ, List.set_cons_zero, List.set_cons_succ] at c9
  have HT8 := Lib.hid hT8
  clear hT8
  go_wp2_with fail
  clear c9 f9
  refine (Tak.number (HT8.out.store 9 (.int .u32 n7)) HN.out (n8) _ rfl (by omega) (by omega) (by omega) (by omega) (by simp; omega)).mono ?_
  rintro e w9 ⟨rfl, hT9⟩
  have c10 := hT9.bx.cell 10
  have f10 := hT9.bx.frozen 10
  simp only [List.getElem?_cons_zero, List.getElem?_cons_succ, List.set_cons_zero, List.set_cons_succ] at c10
  have HT9 := Lib.hid hT9
  clear hT9
  go_wp2_with fail
  clear c10 f10
  refine (Tak.number64 (HT9.out.store 10 (.int .u32 n8)) HN.out (n9) rfl (by omega) (by omega)).mono ?_
  rintro e w10 ⟨rfl, hT10⟩
  have c11 := hT10.bx.cell 11
  have f11 := hT10.bx.frozen 11
  simp only [List.getElem?_cons_zero, List.getElem?_cons_succ, List.set_cons_zero, List.set_cons_succ] at c11
  have HT10 := Lib.hid hT10
  clear hT10
  go_wp2_with fail
  clear c11 f11
  refine (Tak.number64 (HT10.out.store 11 (.int .u64 n9)) HN.out (n10) rfl (by omega) (by omega)).mono ?_
  rintro e w11 ⟨rfl, hT11⟩
  have c12 := hT11.bx.cell 12
  have f12 := hT11.bx.frozen 12
  simp only [List.getElem?_cons_zero, List.getElem?_cons_succ, List.set_cons_zero, List.set_cons_succ] at c12
  have HT11 := Lib.hid hT11
  clear hT11
  go_wp2_with fail
  clear c12 f12
  refine (Tak.number64 (HT11.out.store 12 (.int .u64 n10)) HN.out (n11) rfl (by omega) (by omega)).mono ?_
  rintro e w12 ⟨rfl, hT12⟩
  have c13 := hT12.bx.cell 13
  have f13 := hT12.bx.frozen 13
  simp only [List.getElem?_cons_zero, List.getElem?_cons_succ, List.set_cons_zero, List.set_cons_succ] at c13
  have HT12 := Lib.hid hT12
  clear hT12
  go_wp2_with fail
  clear c13 f13
  refine (Tak.number64 (HT12.out.store 13 (.int .u64 n11)) HN.out (n12) rfl (by omega) (by omega)).mono ?_
  rintro e w13 ⟨rfl, hT13⟩
  have c14 := hT13.bx.cell 14
  have f14 := hT13.bx.frozen 14
  simp only [List.getElem?_cons_zero, List.getElem?_cons_succ, List.set_cons_zero, List.set_cons_succ] at c14
  have HT13 := Lib.hid hT13
  clear hT13
  go_wp2_with fail
  clear c14 f14
  refine (Tak.bytes (HT13.out.store 14 (.int .u64 n12)) HD.out HE.out (d0) rfl (by omega) rfl (by omega) (by omega)).mono ?_
  rintro e w14 ⟨Q0, q0, rfl, hT14⟩
  have c15 := hT14.bx.cell 15
  have f15 := hT14.bx.frozen 15
  simp only [List.getElem?_cons_zero, List.getElem?_cons_succ, List.set_cons_zero, List.set_cons_succ] at c15
  have HT14 := Lib.hid hT14
  clear hT14
  go_wp2_with fail
  clear c15 f15
  refine (Tak.whole (HT14.out.store 15 (.slice Q0 d0.length q0)) rfl rfl (by omega) (by omega)).mono ?_
  rintro e wz ⟨rfl, hTz⟩
  have HTz := Lib.hid hTz
  clear hTz
  go_wp2_with fail
  exact hR.out _ _ ⟨_, rfl, HTz.out.be, HTz.out.lx, fun w2 gb hb hg => ⟨_, _, Q0, q0, HTz.out.bx.below hb HTz.out.bx.lt, ((HTz.out.sl (Q0, d0) (by simp)).1.below hb).more hg⟩⟩
end Go.Proofs.YtphmklgbbpiafaaGreat
