/-
  key: what impl.made makes of its numbers and bytes. No condition.
-/
import Derived.Test.YtphmklgbbpiafaaGreatTakA
import Derived.Test.YtphmklgbbpiafaaGreatKeyA
namespace Go.Proofs.YtphmklgbbpiafaaGreat
open Go Go.RowKit
set_option linter.unusedVariables false
set_option linter.unusedSimpArgs false
attribute [local go_sem] sd_drewN ad_drewN

set_option maxRecDepth 1000000 in
set_option maxHeartbeats 30000000 in
theorem made_key (n0 n1 n2 n3 n4 n5 n6 n7 n8 n9 n10 n11 n12 n13 n14 n15 n16 : Nat) (h0 : n0 < 256) (h1 : n1 < 8) (h2 : n2 < 2) (h3 : n3 < 4) (h4 : n4 < 2) (h5 : n5 < 2) (h6 : n6 < 2) (h7 : n7 < 2) (h8 : n8 < 2) (h9 : n9 < 2) (h10 : n10 < 2) (h11 : n11 < 2) (h12 : n12 < 65536) (h13 : n13 < 18446744073709551616) (h14 : n14 < 18446744073709551616) (h15 : n15 < 18446744073709551616) (h16 : n16 < 65536) (d0 d1 d2 d3 : List UInt8) (hd0 : d0.length = 32) (hd1 : d1.length = 16) (hd2 : d2.length = 16) (hd3 : d3.length ≤ 300) (v : Value) (pay : List UInt8) (w : World) (hv : Lyr w w.heap.size v [n0, n1, n2, n3, n4, n5, n6, n7, n8, n9, n10, n11, n12, n13, n14, n15, n16] [d0, d1, d2, d3] pay) :
    Calls Tryz.prog 30 #[.string k_eapolkey, v] w fun e w' => ∃ gx, e = .returned (.iface 100 (.pointer (some ⟨gx, 0, none⟩))) ∧ Below w.heap.size w w' ∧ w.heap.size ≤ gx ∧ ∀ w2 gb, Below w'.heap.size w' w2 → w'.heap.size ≤ gb → MKey n0 n1 n2 n3 n4 n5 n6 n7 n8 n9 n10 n11 n12 n13 n14 n15 n16 d0 d1 d2 d3 w2 gx gb := by
  refine calls_hid fun R hR => ?_
  obtain ⟨AN, cN, AD, cD, AP, cP, AB, cB, ds, rfl, hN, hD, hE, hP⟩ := hv
  have HN := Lib.hid hN
  have HD := Lib.hid hD
  have HE := Lib.hid hE
  clear hN hD hE hP
  simp only [List.length_cons, List.length_nil, Nat.zero_add, Nat.reduceAdd] at HN HD ⊢
  have e0 : d0.length ≤ 300 := by omega
  have e1 : d1.length ≤ 300 := by omega
  have e2 : d2.length ≤ 300 := by omega
  have HL0 := Lib.hid hd0
  have HL1 := Lib.hid hd1
  have HL2 := Lib.hid hd2
  clear hd0 hd1 hd2
  have hT0 := Tak.start w 105 AN AD AP AB 17 cN 4 cD cP pay.length cB [.slice AN 17 cN, .slice AD 4 cD, .slice AP 0 cP, .slice AB pay.length cB] [.slice none 0 0, .slice none 0 0, .int .u8 0, .int .u8 0, .int .u8 0, .int .u8 0, .bool false, .bool false, .bool false, .bool false, .bool false, .bool false, .bool false, .bool false, .int .u16 0, .int .u64 0, .slice none 0 0, .slice none 0 0, .int .u64 0, .int .u64 0, .slice none 0 0, .int .u16 0, .slice none 0 0]
  have HT0 := Lib.hid hT0
  clear hT0
  go_enter Tryz.func30, Tryz.ntmps30
  go_wp2_with fail
  refine (Tak.number HT0.out HN.out (n0) _ rfl (by omega) (by omega) (by omega) (by omega) (by simp; omega)).mono ?_
  rintro e w1 ⟨rfl, hT1⟩
  have c2 := hT1.bx.cell 2
  have f2 := hT1.bx.frozen 2
  simp only [List.getElem?_cons_zero, List.getElem?_cons_succ, List.set_cons_zero, List.set_cons_succ] at c2
  have HT1 := Lib.hid hT1
  clear hT1
  go_wp2_with fail
  clear c2 f2
  refine (Tak.number (HT1.out.store 2 (.int .u8 n0)) HN.out (n1) _ rfl (by omega) (by omega) (by omega) (by omega) (by simp; omega)).mono ?_
  rintro e w2 ⟨rfl, hT2⟩
  have c3 := hT2.bx.cell 3
  have f3 := hT2.bx.frozen 3
  simp only [List.getElem?_cons_zero, List.getElem?_cons_succ, List.set_cons_zero, List.set_cons_succ] at c3
  have HT2 := Lib.hid hT2
  clear hT2
  go_wp2_with fail
  clear c3 f3
  refine (Tak.number (HT2.out.store 3 (.int .u8 n1)) HN.out (n2) _ rfl (by omega) (by omega) (by omega) (by omega) (by simp; omega)).mono ?_
  rintro e w3 ⟨rfl, hT3⟩
  have c4 := hT3.bx.cell 4
  have f4 := hT3.bx.frozen 4
  simp only [List.getElem?_cons_zero, List.getElem?_cons_succ, List.set_cons_zero, List.set_cons_succ] at c4
  have HT3 := Lib.hid hT3
  clear hT3
  go_wp2_with fail
  clear c4 f4
  refine (Tak.number (HT3.out.store 4 (.int .u8 n2)) HN.out (n3) _ rfl (by omega) (by omega) (by omega) (by omega) (by simp; omega)).mono ?_
  rintro e w4 ⟨rfl, hT4⟩
  have c5 := hT4.bx.cell 5
  have f5 := hT4.bx.frozen 5
  simp only [List.getElem?_cons_zero, List.getElem?_cons_succ, List.set_cons_zero, List.set_cons_succ] at c5
  have HT4 := Lib.hid hT4
  clear hT4
  go_wp2_with fail
  clear c5 f5
  refine (Tak.truth (HT4.out.store 5 (.int .u8 n3)) HN.out (n4) rfl (by omega) (by omega) (by omega)).mono ?_
  rintro e w5 ⟨rfl, hT5⟩
  have c6 := hT5.bx.cell 6
  have f6 := hT5.bx.frozen 6
  simp only [List.getElem?_cons_zero, List.getElem?_cons_succ, List.set_cons_zero, List.set_cons_succ] at c6
  have HT5 := Lib.hid hT5
  clear hT5
  go_wp2_with fail
  clear c6 f6
  refine (Tak.truth (HT5.out.store 6 (.bool (bt n4))) HN.out (n5) rfl (by omega) (by omega) (by omega)).mono ?_
  rintro e w6 ⟨rfl, hT6⟩
  have c7 := hT6.bx.cell 7
  have f7 := hT6.bx.frozen 7
  simp only [List.getElem?_cons_zero, List.getElem?_cons_succ, List.set_cons_zero, List.set_cons_succ] at c7
  have HT6 := Lib.hid hT6
  clear hT6
  go_wp2_with fail
  clear c7 f7
  refine (Tak.truth (HT6.out.store 7 (.bool (bt n5))) HN.out (n6) rfl (by omega) (by omega) (by omega)).mono ?_
  rintro e w7 ⟨rfl, hT7⟩
  have c8 := hT7.bx.cell 8
  have f8 := hT7.bx.frozen 8
  simp only [List.getElem?_cons_zero, List.getElem?_cons_succ, List.set_cons_zero, List.set_cons_succ] at c8
  have HT7 := Lib.hid hT7
  clear hT7
  go_wp2_with fail
  clear c8 f8
  refine (Tak.truth (HT7.out.store 8 (.bool (bt n6))) HN.out (n7) rfl (by omega) (by omega) (by omega)).mono ?_
  rintro e w8 ⟨rfl, hT8⟩
  have c9 := hT8.bx.cell 9
  have f9 := hT8.bx.frozen 9
  simp only [List.getElem?_cons_zero, List.getElem?_cons_succ, List.set_cons_zero, List.set_cons_succ] at c9
  have HT8 := Lib.hid hT8
  clear hT8
  go_wp2_with fail
  clear c9 f9
  refine (Tak.truth (HT8.out.store 9 (.bool (bt n7))) HN.out (n8) rfl (by omega) (by omega) (by omega)).mono ?_
  rintro e w9 ⟨rfl, hT9⟩
  have c10 := hT9.bx.cell 10
  have f10 := hT9.bx.frozen 10
  simp only [List.getElem?_cons_zero, List.getElem?_cons_succ, List.set_cons_zero, List.set_cons_succ] at c10
  have HT9 := Lib.hid hT9
  clear hT9
  go_wp2_with fail
  clear c10 f10
  refine (Tak.truth (HT9.out.store 10 (.bool (bt n8))) HN.out (n9) rfl (by omega) (by omega) (by omega)).mono ?_
  rintro e w10 ⟨rfl, hT10⟩
  have c11 := hT10.bx.cell 11
  have f11 := hT10.bx.frozen 11
  simp only [List.getElem?_cons_zero, List.getElem?_cons_succ, List.set_cons_zero, List.set_cons_succ] at c11
  have HT10 := Lib.hid hT10
  clear hT10
  go_wp2_with fail
  clear c11 f11
  refine (Tak.truth (HT10.out.store 11 (.bool (bt n9))) HN.out (n10) rfl (by omega) (by omega) (by omega)).mono ?_
  rintro e w11 ⟨rfl, hT11⟩
  have c12 := hT11.bx.cell 12
  have f12 := hT11.bx.frozen 12
  simp only [List.getElem?_cons_zero, List.getElem?_cons_succ, List.set_cons_zero, List.set_cons_succ] at c12
  have HT11 := Lib.hid hT11
  clear hT11
  go_wp2_with fail
  clear c12 f12
  refine (Tak.truth (HT11.out.store 12 (.bool (bt n10))) HN.out (n11) rfl (by omega) (by omega) (by omega)).mono ?_
  rintro e w12 ⟨rfl, hT12⟩
  have c13 := hT12.bx.cell 13
  have f13 := hT12.bx.frozen 13
  simp only [List.getElem?_cons_zero, List.getElem?_cons_succ, List.set_cons_zero, List.set_cons_succ] at c13
  have HT12 := Lib.hid hT12
  clear hT12
  go_wp2_with fail
  clear c13 f13
  refine (Tak.number (HT12.out.store 13 (.bool (bt n11))) HN.out (n12) _ rfl (by omega) (by omega) (by omega) (by omega) (by simp; omega)).mono ?_
  rintro e w13 ⟨rfl, hT13⟩
  have c14 := hT13.bx.cell 14
  have f14 := hT13.bx.frozen 14
  simp only [List.getElem?_cons_zero, List.getElem?_cons_succ, List.set_cons_zero, List.set_cons_succ] at c14
  have HT13 := Lib.hid hT13
  clear hT13
  go_wp2_with fail
  clear c14 f14
  refine (Tak.number64 (HT13.out.store 14 (.int .u16 n12)) HN.out (n13) rfl (by omega) (by omega)).mono ?_
  rintro e w14 ⟨rfl, hT14⟩
  have c15 := hT14.bx.cell 15
  have f15 := hT14.bx.frozen 15
  simp only [List.getElem?_cons_zero, List.getElem?_cons_succ, List.set_cons_zero, List.set_cons_succ] at c15
  have HT14 := Lib.hid hT14
  clear hT14
  go_wp2_with fail
  clear c15 f15
  refine (Tak.bytes (HT14.out.store 15 (.int .u64 n13)) HD.out HE.out (d0) rfl (by omega) rfl (by omega) (by omega)).mono ?_
  rintro e w15 ⟨Q0, q0, rfl, hT15⟩
  have c16 := hT15.bx.cell 16
  have f16 := hT15.bx.frozen 16
  simp only [List.getElem?_cons_zero, List.getElem?_cons_succ, List.set_cons_zero, List.set_cons_succ] at c16
  have HT15 := Lib.hid hT15
  clear hT15
  go_wp2_with fail
  clear c16 f16
  refine (Tak.bytes (HT15.out.store 16 (.slice Q0 d0.length q0)) HD.out HE.out (d1) rfl (by omega) rfl (by omega) (by omega)).mono ?_
  rintro e w16 ⟨Q1, q1, rfl, hT16⟩
  have c17 := hT16.bx.cell 17
  have f17 := hT16.bx.frozen 17
  simp only [List.getElem?_cons_zero, List.getElem?_cons_succ, List.set_cons_zero, List.set_cons_succ] at c17
  have HT16 := Lib.hid hT16
  clear hT16
  go_wp2_with fail
  clear c17 f17
  refine (Tak.number64 (HT16.out.store 17 (.slice Q1 d1.length q1)) HN.out (n14) rfl (by omega) (by omega)).mono ?_
  rintro e w17 ⟨rfl, hT17⟩
  have c18 := hT17.bx.cell 18
  have f18 := hT17.bx.frozen 18
  simp only [List.getElem?_cons_zero, List.getElem?_cons_succ, List.set_cons_zero, List.set_cons_succ] at c18
  have HT17 := Lib.hid hT17
  clear hT17
  go_wp2_with fail
  clear c18 f18
  refine (Tak.number64 (HT17.out.store 18 (.int .u64 n14)) HN.out (n15) rfl (by omega) (by omega)).mono ?_
  rintro e w18 ⟨rfl, hT18⟩
  have c19 := hT18.bx.cell 19
  have f19 := hT18.bx.frozen 19
  simp only [List.getElem?_cons_zero, List.getElem?_cons_succ, List.set_cons_zero, List.set_cons_succ] at c19
  have HT18 := Lib.hid hT18
  clear hT18
  go_wp2_with fail
  clear c19 f19
  refine (Tak.bytes (HT18.out.store 19 (.int .u64 n15)) HD.out HE.out (d2) rfl (by omega) rfl (by omega) (by omega)).mono ?_
  rintro e w19 ⟨Q2, q2, rfl, hT19⟩
  have c20 := hT19.bx.cell 20
  have f20 := hT19.bx.frozen 20
  simp only [List.getElem?_cons_zero, List.getElem?_cons_succ, List.set_cons_zero, List.set_cons_succ] at c20
  have HT19 := Lib.hid hT19
  clear hT19
  go_wp2_with fail
  clear c20 f20
  refine (Tak.number (HT19.out.store 20 (.slice Q2 d2.length q2)) HN.out (n16) _ rfl (by omega) (by omega) (by omega) (by omega) (by simp; omega)).mono ?_
  rintro e w20 ⟨rfl, hT20⟩
  have c21 := hT20.bx.cell 21
  have f21 := hT20.bx.frozen 21
  simp only [List.getElem?_cons_zero, List.getElem?_cons_succ, List.set_cons_zero, List.set_cons_succ] at c21
  have HT20 := Lib.hid hT20
  clear hT20
  go_wp2_with fail
  clear c21 f21
  refine (Tak.bytes (HT20.out.store 21 (.int .u16 n16)) HD.out HE.out (d3) rfl (by omega) rfl (by omega) (by omega)).mono ?_
  rintro e w21 ⟨Q3, q3, rfl, hT21⟩
  have c22 := hT21.bx.cell 22
  have f22 := hT21.bx.frozen 22
  simp only [List.getElem?_cons_zero, List.getElem?_cons_succ, List.set_cons_zero, List.set_cons_succ] at c22
  have HT21 := Lib.hid hT21
  clear hT21
  go_wp2_with fail
  clear c22 f22
  refine (Tak.whole (HT21.out.store 22 (.slice Q3 d3.length q3)) rfl rfl (by omega) (by omega)).mono ?_
  rintro e wz ⟨rfl, hTz⟩
  have HTz := Lib.hid hTz
  clear hTz
  go_wp2_with fail
  have hz := HTz.out
  refine hR.out _ _ ⟨_, rfl, hz.be, hz.lx, fun w2 gb hb hg => ?_⟩
  have s0 := ((hz.sl (Q0, d0) (by simp)).1.below hb).more hg
  have s1 := ((hz.sl (Q1, d1) (by simp)).1.below hb).more hg
  have s2 := ((hz.sl (Q2, d2) (by simp)).1.below hb).more hg
  have s3 := ((hz.sl (Q3, d3) (by simp)).1.below hb).more hg
  have hx := hz.bx.below hb hz.bx.lt
  simp only [HL0.out, HL1.out, HL2.out] at s0 s1 s2 hx
  exact ⟨_, _, Q0, q0, Q1, q1, Q2, q2, Q3, q3, hx, s0, s1, s2, s3⟩
end Go.Proofs.YtphmklgbbpiafaaGreat
