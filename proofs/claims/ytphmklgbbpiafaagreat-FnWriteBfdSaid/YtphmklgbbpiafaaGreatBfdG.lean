/-
  BFD: what the reference writes. No condition.
-/
import Derived.Test.YtphmklgbbpiafaaGreatOutA
import Derived.Test.YtphmklgbbpiafaaGreatOutB
import Derived.Test.YtphmklgbbpiafaaGreatCutB
import Derived.Deep.Cut
import Derived.Test.YtphmklgbbpiafaaGreatBfdA
import Derived.Test.YtphmklgbbpiafaaGreatWrtB
namespace Go.Proofs.YtphmklgbbpiafaaGreat
open Go Go.RowKit
set_option linter.unusedVariables false
set_option linter.unusedSimpArgs false
attribute [local go_sem] sd_drewN ad_drewN
set_option maxRecDepth 1000000 in
set_option maxHeartbeats 10000000 in
theorem sw_bfd (fix : Bool) (n0 n1 n2 n3 n4 n5 n7 n8 n9 n10 n11 n12 n13 n14 : Nat) (h0 : n0 < 8) (h1 : n1 < 32) (h2 : n2 < 4) (h3 : n3 < 2) (h4 : n4 < 2) (h5 : n5 < 2) (h7 : n7 < 2) (h8 : n8 < 2) (h9 : n9 < 256) (h10 : n10 < 4294967296) (h11 : n11 < 4294967296) (h12 : n12 < 4294967296) (h13 : n13 < 4294967296) (h14 : n14 < 4294967296) (pay : List UInt8) (hp : pay.length ≤ 300) (hpz : pay.length = 0) (v : Value) (w : World) (hv : Lyr w w.heap.size v [n0, n1, n2, n3, n4, n5, 0, n7, n8, n9, n10, n11, n12, n13, n14] [] pay) (hcap : capN v) :
    Calls Tryz.prog 21 #[.string k_bfd, v, .bool fix] w fun e w' => ∃ A n c, e = .returned (.tuple #[.slice A n c, .bool true]) ∧ Below w.heap.size w w' ∧ n ≤ c ∧ (A = none → n = 0) ∧ Sl w' w'.heap.size A n (bcs (bfdHdr n0 n1 n2 n3 n4 n5 n7 n8 n9 n10 n11 n12 n13 n14 ++ pay)) := by
  refine calls_hid fun R hR => ?_
  obtain ⟨i0, hi0, hz0, hz1, hz2⟩ := info_parts info5
  obtain ⟨AN, cN, AD, cD, AP, cP, AB, cB, ds, rfl, hN, hD, hE, hP⟩ := hv
  simp only [List.length_cons, List.length_nil, Nat.zero_add, Nat.reduceAdd] at hN hD ⊢
  have HN := Lib.hid hN
  have HP := Lib.hid hP
  clear hN hD hE hP
  have hmf : ∀ (fn : Fn) (first cap : Array Value) (w : World), (Instr.makeFunc fn first cap).run Tryz.prog w = .ok (.func fn first cap) w := fun _ _ _ _ => rfl
  obtain ⟨gN, oN, rfl, hgN, _⟩ := HN.out.2 (by omega)
  obtain ⟨W, hW⟩ : ∃ W, W = w.alloc (.cells #[.slice (some ⟨gN, oN, none⟩) 15 cN, .slice AD 0 cD, .slice AP 0 cP, .slice AB pay.length cB] 27) := ⟨_, rfl⟩
  obtain ⟨go, hgo⟩ : ∃ go, go = w.heap.size + 1 + 1 := ⟨_, rfl⟩
  obtain ⟨w1, hw1⟩ : ∃ w1, w1 = (W.alloc (.cells #[] 5)).alloc (.cells #[.slice (some ⟨w.heap.size + 1, 0, none⟩) 0 0] 25) := ⟨_, rfl⟩
  have hsz : W.heap.size = w.heap.size + 1 := by rw [hW]; simp
  have hO1 : Out W w1 go [] := by rw [hw1, hgo, ← hsz]; exact Out.start W _ rfl
  have hbe : Below w.heap.size w W := by rw [hW]; exact (Below.refl _ _).alloc (Nat.le_refl _) _
  have hbx : Bk W w.heap.size 27 [.slice (some ⟨gN, oN, none⟩) 15 cN, .slice AD 0 cD, .slice AP 0 cP, .slice AB pay.length cB] := by rw [hW]; exact Bk.new _ _ _
  have HNW := Lib.hid (HN.out.below hbe)
  have HPW := Lib.hid (HP.out.below hbe)
  have HBE := Lib.hid hbe
  have HBX := Lib.hid hbx
  have HSZ := Lib.hid hsz
  have hgW : gN < W.heap.size := by omega
  have HW := Lib.hid hW
  have HG := Lib.hid hgo
  have HW1 := Lib.hid hw1
  have HO1 := Lib.hid hO1
  obtain ⟨X0, hX0⟩ : ∃ X : List UInt8, X = [] := ⟨_, rfl⟩
  have HX0 := Lib.hid hX0
  have hL0 : X0.length = 0 := by rw [hX0]; rfl
  clear hW hgo hw1 hsz hbe hbx hO1 hX0
  have HNS1 := Lib.hid ((HNW.out.more (B' := W.heap.size) (by have := HSZ.out; omega)).below HO1.out.be)
  have c6 := HNS1.out.numE 6 (0) (by omega) rfl
  simp only [Int.natCast_zero, Int.natCast_one] at c6
  rw [HW1.out, HW.out] at c6
  have t3 : decide (0 < pay.length) = false := by first | (rw [decide_eq_false_iff_not]; omega) | (rw [decide_eq_true_eq]; omega)
  have HPZ := Lib.hid hpz
  clear hpz
  have hcN : 15 ≤ cN := hcap
  have jz10 : ¬ (cN : Int) = 10 := by omega
  have jy10 : ¬ cN = 10 := by omega
  have jcN : (15 : Int) ≤ (cN : Int) := by omega
  go_enter Tryz.func21, Tryz.ntmps21
  go_wp2_with fail
  rw [← HW.out, ← HG.out, ← HW1.out]
  clear c6
  have HNS1 := Lib.hid ((HNW.out.more (B' := W.heap.size) (by have := HSZ.out; omega)).below HO1.out.be)
  have c0 := HNS1.out.numE 0 (n0) (by omega) rfl
  have c1 := HNS1.out.numE 1 (n1) (by omega) rfl
  simp only [Nat.add_zero] at c0
  refine wp_region_tail 9 (by kernel_rfl) (by kernel_rfl) ?_
  simp only [List.take_succ_cons, List.take_zero, List.drop_succ_cons, List.drop_zero]
  repeat still_step
  refine wpStill_nil ?_
  go_wp2_with fail
  simp (disch := omega) only [orm64 0 5]
  refine (HO1.out.drew.put (n0 * 32 + n1) 1 _ _ (by omega) rfl (by omega) (by rw [List.length_nil]; omega)).mono ?_
  rintro e w2 ⟨rfl, hO2⟩
  rw [← HX0.out] at hO2
  clear c0 c1
  obtain ⟨X1, hX1⟩ : ∃ X, X = X0 ++ Lib.beBytes 1 (n0 * 32 + n1) := ⟨_, rfl⟩
  rw [← hX1] at hO2
  have hL1 : X1.length = 1 := by rw [hX1, List.length_append, hL0, Lib.beBytes_length]
  have HO2 := Lib.hid hO2
  have HX1 := Lib.hid hX1
  clear hO2 hX1
  have HNS2 := Lib.hid ((HNW.out.more (B' := W.heap.size) (by have := HSZ.out; omega)).below HO2.out.be)
  have c2 := HNS2.out.numE 2 (n2) (by omega) rfl
  have c3 := HNS2.out.numE 3 (n3) (by omega) rfl
  have c4 := HNS2.out.numE 4 (n4) (by omega) rfl
  have c5 := HNS2.out.numE 5 (n5) (by omega) rfl
  have c6 := HNS2.out.numE 6 (0) (by omega) rfl
  have c7 := HNS2.out.numE 7 (n7) (by omega) rfl
  have c8 := HNS2.out.numE 8 (n8) (by omega) rfl
  simp only [Int.natCast_zero, Int.natCast_one] at c6
  go_wp2_with fail
  refine wp_region_tail 34 (by kernel_rfl) (by kernel_rfl) ?_
  simp only [List.take_succ_cons, List.take_zero, List.drop_succ_cons, List.drop_zero]
  repeat still_step
  refine wpStill_nil ?_
  go_wp2_with fail
  try simp (disch := omega) only [orm64 5 6, orm64 4 5, orm64 3 4, orm64 2 3, orm64 1 2, orm64 0 1]
  refine (HO2.out.drew.put (n2 * 64 + n3 * 32 + n4 * 16 + n5 * 8 + n7 * 2 + n8) 1 _ _ (by omega) rfl (by omega) (by omega)).mono ?_
  rintro e w3 ⟨rfl, hO3⟩
  clear c2 c3 c4 c5 c6 c7 c8
  obtain ⟨X2, hX2⟩ : ∃ X, X = X1 ++ Lib.beBytes 1 (n2 * 64 + n3 * 32 + n4 * 16 + n5 * 8 + n7 * 2 + n8) := ⟨_, rfl⟩
  rw [← hX2] at hO3
  have hL2 : X2.length = 2 := by rw [hX2, List.length_append, hL1, Lib.beBytes_length]
  have HO3 := Lib.hid hO3
  have HX2 := Lib.hid hX2
  clear hO3 hX2
  have HNS3 := Lib.hid ((HNW.out.more (B' := W.heap.size) (by have := HSZ.out; omega)).below HO3.out.be)
  have c9 := HNS3.out.numE 9 (n9) (by omega) rfl
  go_wp2_with fail
  refine (HO3.out.put (n9) 1 _ _ (rfl) rfl (by omega) (by omega)).mono ?_
  rintro e w4 ⟨rfl, hO4⟩
  clear c9
  obtain ⟨X3, hX3⟩ : ∃ X, X = X2 ++ Lib.beBytes 1 (n9) := ⟨_, rfl⟩
  rw [← hX3] at hO4
  have hL3 : X3.length = 3 := by rw [hX3, List.length_append, hL2, Lib.beBytes_length]
  have HO4 := Lib.hid hO4
  have HX3 := Lib.hid hX3
  clear hO4 hX3
  have HNS4 := Lib.hid ((HNW.out.more (B' := W.heap.size) (by have := HSZ.out; omega)).below HO4.out.be)
  go_wp2_with fail
  refine (HO4.out.put (24) 1 _ _ (rfl) rfl (by omega) (by omega)).mono ?_
  rintro e w5 ⟨rfl, hO5⟩
  obtain ⟨X4, hX4⟩ : ∃ X, X = X3 ++ Lib.beBytes 1 (24) := ⟨_, rfl⟩
  rw [← hX4] at hO5
  have hL4 : X4.length = 4 := by rw [hX4, List.length_append, hL3, Lib.beBytes_length]
  have HO5 := Lib.hid hO5
  have HX4 := Lib.hid hX4
  clear hO5 hX4
  obtain ⟨vs5, hvs5⟩ : ∃ vs : List Nat, vs = [n10, n11, n12, n13, n14] := ⟨_, rfl⟩
  have hvl5 : vs5.length = 5 := by rw [hvs5]; rfl
  have HVS5 := Lib.hid hvs5
  have HVL5 := Lib.hid hvl5
  obtain ⟨nums5, hnums5⟩ : ∃ ns : List Nat, ns = [n0, n1, n2, n3, n4, n5, 0, n7, n8, n9, n10, n11, n12, n13, n14] := ⟨_, rfl⟩
  have hbv5 : ∀ k, k < 5 → nums5.getD (10 + k) 0 = vs5.getD k 0 := by
    intro k hk
    rw [hnums5, hvs5]
    match k, hk with
    | 0, _ => rfl
    | 1, _ => rfl
    | 2, _ => rfl
    | 3, _ => rfl
    | 4, _ => rfl
  have HBV5 := Lib.hid hbv5
  have HNM5 := Lib.hid (hnums5 ▸ HNW : Hid (Sl W w.heap.size (some ⟨gN, oN, none⟩) 15 (ncs nums5)))
  have HLX5 := Lib.hid hL4
  clear hvs5 hvl5 hbv5 hnums5 hL4
  go_wp2_with fail
  go_loopw [494] (fun i wr => ∃ k : Nat, k ≤ 5 ∧ i = .int .i64 k ∧ Out W wr go (X4 ++ fl 4 vs5 k)) (fun i _ => 5 - (intOf i).toNat)
  case atStart => exact ⟨0, by omega, rfl, by rw [fl_zero, List.append_nil]; exact HO5.out⟩
  case round =>
    obtain ⟨k, hk, rfl, hOk⟩ := hrel
    have HOK := Lib.hid hOk
    clear hOk
    by_cases hlt : k < 5
    · have hns := (HNM5.out.more (B' := W.heap.size) (by have := HSZ.out; omega)).below HOK.out.be
      have ck := hns.numE (10 + k) (vs5.getD k 0) (by omega) (HBV5.out k hlt)
      have hsu := fl_succ 4 vs5 k (by have := HVL5.out; omega)
      have hfl := fl_length 4 vs5 k (by have := HVL5.out; omega)
      have hxl : (X4 ++ fl 4 vs5 k).length ≤ 100000 := by have := HLX5.out; rw [List.length_append, hfl]; omega
      rw [← Nat.add_assoc] at ck
      have HSU := Lib.hid hsu
      have HXL := Lib.hid hxl
      clear hns hsu hfl hxl
      obtain ⟨x, hx⟩ : ∃ x, x = vs5.getD k 0 := ⟨_, rfl⟩
      rw [← hx] at ck
      rw [← hx] at HSU
      clear hx
      go_wp2_with fail
      refine (HOK.out.put x 4 _ _ rfl rfl (by omega) HXL.out).mono ?_
      rintro e wr ⟨rfl, hO⟩
      have HO := Lib.hid hO
      clear hO ck
      go_wp2_with fail
      go_roundw
      case rel => exact ⟨k + 1, by omega, by go_num, by rw [HSU.out, ← List.append_assoc]; exact HO.out⟩
      case measure => simp [intOf]; omega
    · obtain rfl : k = 5 := by omega
      clear hlt hk
      have HO6 := HOK
      obtain ⟨X5, hX5⟩ : ∃ X, X = X4 ++ fl 4 vs5 5 := ⟨_, rfl⟩
      rw [← hX5] at HO6
      have hL5 : X5.length = 24 := by have := HLX5.out; rw [hX5, List.length_append, fl_length 4 vs5 5 (by have := HVL5.out; omega)]; omega
      have HX5 := Lib.hid (show X5 = X4 ++ (Lib.beBytes 4 (n10) ++ Lib.beBytes 4 (n11) ++ Lib.beBytes 4 (n12) ++ Lib.beBytes 4 (n13) ++ Lib.beBytes 4 (n14)) by rw [hX5, HVS5.out]; simp [fl])
      clear hX5 HOK
      obtain ⟨AO, cO, hv2, ho2⟩ := HO6.out.sl
      have v0 := hv2.cell 0
      have p3 := (HBX.out.below HO6.out.be (by have := HSZ.out; omega)).cell 3
      simp only [List.getElem?_cons_zero, List.getElem?_cons_succ] at v0 p3
      have hP2 := (HPW.out.more (B' := W.heap.size) (by have := HSZ.out; omega)).below HO6.out.be
      have hbW := HO6.out.be.size
      have HP2 := Lib.hid hP2
      have HOW2 := Lib.hid ho2
      clear hP2 ho2 hv2
      have hl2 : X5.length ≤ 1000 := by omega
      clear hL5
      generalize hLL : X5.length = L at *
      have HLL := Lib.hid hLL
      clear hLL
      go_wp2_with (at_builtin; refine wpList_append_sl _ rfl (.tmp 620) (.tmp 622) _ rfl W.heap.size 5 i0 _ 1 Tryz.underlying25 hi0 hz0 hz1 hz2 rfl (.slice AO L cO) L (bcs X5) rfl HOW2.out W.heap.size AB pay.length cB (bcs pay) rfl HP2.out bcs_one (by simp only [maxLen]; omega) (by omega) hbW ?_; intro v5 wz ho5 hg5 hv5)
      obtain ⟨A5, c5, hv, hc5, hs5, hn5⟩ := own_form ho5.out
      rw [hv]
      have hb5 : Below W.heap.size wr wz := (Below.refl _ _).grown hg5 hbW (fun k hk => (HOW2.out.lt k hk).1)
      have hz1' := HSZ.out
      refine hR.out _ _ ⟨A5, L + pay.length, c5, rfl, HBE.out.trans ((HO6.out.be.trans hb5).mono (by omega)), hc5, fun h => by have := hn5 h; omega, ?_⟩
      refine Sl.cast hs5 ?_
      rw [HX5.out, HX4.out, HX3.out, HX2.out, HX1.out, HX0.out, List.nil_append, ← bcs_append]
      simp [bfdHdr]
set_option maxRecDepth 1000000 in
set_option maxHeartbeats 10000000 in
theorem sw_bfd_no1 (fix : Bool) (n0 n1 n2 n3 n4 n5 n6 n7 n8 n9 n10 n11 n12 n13 n14 : Nat) (h6 : n6 < 2) (q6 : n6 = 1) (pay : List UInt8) (hp : pay.length ≤ 300) (v : Value) (w : World) (hv : Lyr w w.heap.size v [n0, n1, n2, n3, n4, n5, n6, n7, n8, n9, n10, n11, n12, n13, n14] [] pay) :
    Calls Tryz.prog 21 #[.string k_bfd, v, .bool fix] w fun e w' => e = .returned (.tuple #[.slice none 0 0, .bool false]) ∧ Below w.heap.size w w' := by
  refine calls_hid fun R hR => ?_
  obtain ⟨i0, hi0, hz0, hz1, hz2⟩ := info_parts info5
  obtain ⟨AN, cN, AD, cD, AP, cP, AB, cB, ds, rfl, hN, hD, hE, hP⟩ := hv
  simp only [List.length_cons, List.length_nil, Nat.zero_add, Nat.reduceAdd] at hN hD ⊢
  have HN := Lib.hid hN
  have HP := Lib.hid hP
  clear hN hD hE hP
  have hmf : ∀ (fn : Fn) (first cap : Array Value) (w : World), (Instr.makeFunc fn first cap).run Tryz.prog w = .ok (.func fn first cap) w := fun _ _ _ _ => rfl
  obtain ⟨gN, oN, rfl, hgN, _⟩ := HN.out.2 (by omega)
  obtain ⟨W, hW⟩ : ∃ W, W = w.alloc (.cells #[.slice (some ⟨gN, oN, none⟩) 15 cN, .slice AD 0 cD, .slice AP 0 cP, .slice AB pay.length cB] 27) := ⟨_, rfl⟩
  obtain ⟨go, hgo⟩ : ∃ go, go = w.heap.size + 1 + 1 := ⟨_, rfl⟩
  obtain ⟨w1, hw1⟩ : ∃ w1, w1 = (W.alloc (.cells #[] 5)).alloc (.cells #[.slice (some ⟨w.heap.size + 1, 0, none⟩) 0 0] 25) := ⟨_, rfl⟩
  have hsz : W.heap.size = w.heap.size + 1 := by rw [hW]; simp
  have hO1 : Out W w1 go [] := by rw [hw1, hgo, ← hsz]; exact Out.start W _ rfl
  have hbe : Below w.heap.size w W := by rw [hW]; exact (Below.refl _ _).alloc (Nat.le_refl _) _
  have hbx : Bk W w.heap.size 27 [.slice (some ⟨gN, oN, none⟩) 15 cN, .slice AD 0 cD, .slice AP 0 cP, .slice AB pay.length cB] := by rw [hW]; exact Bk.new _ _ _
  have HNW := Lib.hid (HN.out.below hbe)
  have HPW := Lib.hid (HP.out.below hbe)
  have HBE := Lib.hid hbe
  have HBX := Lib.hid hbx
  have HSZ := Lib.hid hsz
  have hgW : gN < W.heap.size := by omega
  have HW := Lib.hid hW
  have HG := Lib.hid hgo
  have HW1 := Lib.hid hw1
  have HO1 := Lib.hid hO1
  obtain ⟨X0, hX0⟩ : ∃ X : List UInt8, X = [] := ⟨_, rfl⟩
  have HX0 := Lib.hid hX0
  have hL0 : X0.length = 0 := by rw [hX0]; rfl
  clear hW hgo hw1 hsz hbe hbx hO1 hX0
  have HNS1 := Lib.hid ((HNW.out.more (B' := W.heap.size) (by have := HSZ.out; omega)).below HO1.out.be)
  have c6 := HNS1.out.numE 6 (n6) (by omega) rfl
  rw [HW1.out, HW.out] at c6
  have Q6 := Lib.hid q6
  have t6 : ((n6 : Int) == 1) = true := by rw [beq_iff_eq]; omega
  clear q6
  go_enter Tryz.func21, Tryz.ntmps21
  go_wp2_with fail
  rw [← HW.out, ← HG.out, ← HW1.out]
  clear c6
  exact hR.out _ _ ⟨rfl, HBE.out.trans ((HO1.out.be).mono (by have := HSZ.out; omega))⟩
set_option maxRecDepth 1000000 in
set_option maxHeartbeats 10000000 in
theorem sw_bfd_no2 (fix : Bool) (n0 n1 n2 n3 n4 n5 n6 n7 n8 n9 n10 n11 n12 n13 n14 : Nat) (h6 : n6 < 2) (q6 : n6 = 0) (pay : List UInt8) (hp : pay.length ≤ 300) (hpz : 0 < pay.length) (v : Value) (w : World) (hv : Lyr w w.heap.size v [n0, n1, n2, n3, n4, n5, n6, n7, n8, n9, n10, n11, n12, n13, n14] [] pay) :
    Calls Tryz.prog 21 #[.string k_bfd, v, .bool fix] w fun e w' => e = .returned (.tuple #[.slice none 0 0, .bool false]) ∧ Below w.heap.size w w' := by
  refine calls_hid fun R hR => ?_
  obtain ⟨i0, hi0, hz0, hz1, hz2⟩ := info_parts info5
  obtain ⟨AN, cN, AD, cD, AP, cP, AB, cB, ds, rfl, hN, hD, hE, hP⟩ := hv
  simp only [List.length_cons, List.length_nil, Nat.zero_add, Nat.reduceAdd] at hN hD ⊢
  have HN := Lib.hid hN
  have HP := Lib.hid hP
  clear hN hD hE hP
  have hmf : ∀ (fn : Fn) (first cap : Array Value) (w : World), (Instr.makeFunc fn first cap).run Tryz.prog w = .ok (.func fn first cap) w := fun _ _ _ _ => rfl
  obtain ⟨gN, oN, rfl, hgN, _⟩ := HN.out.2 (by omega)
  obtain ⟨W, hW⟩ : ∃ W, W = w.alloc (.cells #[.slice (some ⟨gN, oN, none⟩) 15 cN, .slice AD 0 cD, .slice AP 0 cP, .slice AB pay.length cB] 27) := ⟨_, rfl⟩
  obtain ⟨go, hgo⟩ : ∃ go, go = w.heap.size + 1 + 1 := ⟨_, rfl⟩
  obtain ⟨w1, hw1⟩ : ∃ w1, w1 = (W.alloc (.cells #[] 5)).alloc (.cells #[.slice (some ⟨w.heap.size + 1, 0, none⟩) 0 0] 25) := ⟨_, rfl⟩
  have hsz : W.heap.size = w.heap.size + 1 := by rw [hW]; simp
  have hO1 : Out W w1 go [] := by rw [hw1, hgo, ← hsz]; exact Out.start W _ rfl
  have hbe : Below w.heap.size w W := by rw [hW]; exact (Below.refl _ _).alloc (Nat.le_refl _) _
  have hbx : Bk W w.heap.size 27 [.slice (some ⟨gN, oN, none⟩) 15 cN, .slice AD 0 cD, .slice AP 0 cP, .slice AB pay.length cB] := by rw [hW]; exact Bk.new _ _ _
  have HNW := Lib.hid (HN.out.below hbe)
  have HPW := Lib.hid (HP.out.below hbe)
  have HBE := Lib.hid hbe
  have HBX := Lib.hid hbx
  have HSZ := Lib.hid hsz
  have hgW : gN < W.heap.size := by omega
  have HW := Lib.hid hW
  have HG := Lib.hid hgo
  have HW1 := Lib.hid hw1
  have HO1 := Lib.hid hO1
  obtain ⟨X0, hX0⟩ : ∃ X : List UInt8, X = [] := ⟨_, rfl⟩
  have HX0 := Lib.hid hX0
  have hL0 : X0.length = 0 := by rw [hX0]; rfl
  clear hW hgo hw1 hsz hbe hbx hO1 hX0
  have HNS1 := Lib.hid ((HNW.out.more (B' := W.heap.size) (by have := HSZ.out; omega)).below HO1.out.be)
  have c6 := HNS1.out.numE 6 (n6) (by omega) rfl
  rw [HW1.out, HW.out] at c6
  have Q6 := Lib.hid q6
  have t6 : ((n6 : Int) == 1) = false := by rw [beq_eq_false_iff_ne]; omega
  clear q6
  have t3 : decide (0 < pay.length) = true := by first | (rw [decide_eq_false_iff_not]; omega) | (rw [decide_eq_true_eq]; omega)
  go_enter Tryz.func21, Tryz.ntmps21
  go_wp2_with fail
  rw [← HW.out, ← HG.out, ← HW1.out]
  clear c6
  exact hR.out _ _ ⟨rfl, HBE.out.trans ((HO1.out.be).mono (by have := HSZ.out; omega))⟩
def outBfd (nums : List Nat) (_ : List (List UInt8)) (pay : List UInt8) : List UInt8 := bfdHdr (nums.getD 0 0) (nums.getD 1 0) (nums.getD 2 0) (nums.getD 3 0) (nums.getD 4 0) (nums.getD 5 0) (nums.getD 7 0) (nums.getD 8 0) (nums.getD 9 0) (nums.getD 10 0) (nums.getD 11 0) (nums.getD 12 0) (nums.getD 13 0) (nums.getD 14 0) ++ pay
theorem swrite_bfd (fix : Bool) : SWriteC k_bfd fix [3, 5, 2, 1, 1, 1, 1, 1, 1, 8, 32, 32, 32, 32, 32] [] (fun nums _ pay => (nums.getD 6 0) = 0 ∧ pay.length = 0) outBfd := by
  intro nums data pay v w hf hv hcap
  have hn := hf.nN
  have hd := hf.nD
  match nums, hn, data, hd with
  | [n0, n1, n2, n3, n4, n5, n6, n7, n8, n9, n10, n11, n12, n13, n14], _, [], _ =>
  have h0 : n0 < 8 := hf.num 0 (by decide)
  have h1 : n1 < 32 := hf.num 1 (by decide)
  have h2 : n2 < 4 := hf.num 2 (by decide)
  have h3 : n3 < 2 := hf.num 3 (by decide)
  have h4 : n4 < 2 := hf.num 4 (by decide)
  have h5 : n5 < 2 := hf.num 5 (by decide)
  have h6 : n6 < 2 := hf.num 6 (by decide)
  have h7 : n7 < 2 := hf.num 7 (by decide)
  have h8 : n8 < 2 := hf.num 8 (by decide)
  have h9 : n9 < 256 := hf.num 9 (by decide)
  have h10 : n10 < 4294967296 := hf.num 10 (by decide)
  have h11 : n11 < 4294967296 := hf.num 11 (by decide)
  have h12 : n12 < 4294967296 := hf.num 12 (by decide)
  have h13 : n13 < 4294967296 := hf.num 13 (by decide)
  have h14 : n14 < 4294967296 := hf.num 14 (by decide)
  have hp := hf.pay
  clear hf
  rcases (show n6 = 1 ∨ n6 = 0 by omega) with q6 | q6
  · refine (sw_bfd_no1 fix n0 n1 n2 n3 n4 n5 n6 n7 n8 n9 n10 n11 n12 n13 n14 h6 q6 pay hp v w hv).mono ?_
    rintro e w' ⟨rfl, hb⟩
    exact ⟨none, 0, 0, false, rfl, hb, fun h => by cases h⟩
  rcases Nat.eq_zero_or_pos pay.length with hpz | hpz
  rotate_left
  · refine (sw_bfd_no2 fix n0 n1 n2 n3 n4 n5 n6 n7 n8 n9 n10 n11 n12 n13 n14 h6 q6 pay hp hpz v w hv).mono ?_
    rintro e w' ⟨rfl, hb⟩
    exact ⟨none, 0, 0, false, rfl, hb, fun h => by cases h⟩
  subst q6
  · refine (sw_bfd fix n0 n1 n2 n3 n4 n5 n7 n8 n9 n10 n11 n12 n13 n14 h0 h1 h2 h3 h4 h5 h7 h8 h9 h10 h11 h12 h13 h14 pay hp hpz v w hv hcap).mono ?_
    rintro e w' ⟨A, n, c, rfl, hb, h1, h2, h3⟩
    exact ⟨A, n, c, true, rfl, hb, fun _ => ⟨⟨rfl, hpz⟩, h1, h2, h3⟩⟩
end Go.Proofs.YtphmklgbbpiafaaGreat
