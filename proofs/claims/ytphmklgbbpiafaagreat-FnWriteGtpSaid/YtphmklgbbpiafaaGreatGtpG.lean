/-
  GTP: what the reference writes. No condition.
-/
import Derived.Test.YtphmklgbbpiafaaGreatOutA
import Derived.Test.YtphmklgbbpiafaaGreatOutB
import Derived.Test.YtphmklgbbpiafaaGreatCutB
import Derived.Deep.Cut
import Derived.Test.YtphmklgbbpiafaaGreatGtpA
namespace Go.Proofs.YtphmklgbbpiafaaGreat
open Go Go.RowKit
set_option linter.unusedVariables false
set_option linter.unusedSimpArgs false
attribute [local go_sem] sd_drewN ad_drewN
set_option maxRecDepth 1000000 in
set_option maxHeartbeats 10000000 in
theorem sw_gtp (fix : Bool) (n0 n6 n7 n8 : Nat) (h0 : n0 < 8) (h6 : n6 < 256) (h7 : n7 < 65536) (h8 : n8 < 4294967296) (pay : List UInt8) (hp : pay.length ≤ 300) (v : Value) (w : World) (hv : Lyr w w.heap.size v [n0, 1, 0, 0, 0, 0, n6, n7, n8, 0, 0] [] pay) :
    Calls Tryz.prog 21 #[.string k_gtp, v, .bool fix] w fun e w' => ∃ A n c, e = .returned (.tuple #[.slice A n c, .bool true]) ∧ Below w.heap.size w w' ∧ n ≤ c ∧ (A = none → n = 0) ∧ Sl w' w'.heap.size A n (bcs (gtpHdr n0 n6 n7 n8 ++ pay)) := by
  refine calls_hid fun R hR => ?_
  obtain ⟨i0, hi0, hz0, hz1, hz2⟩ := info_parts info5
  obtain ⟨AN, cN, AD, cD, AP, cP, AB, cB, ds, rfl, hN, hD, hE, hP⟩ := hv
  simp only [List.length_cons, List.length_nil, Nat.zero_add, Nat.reduceAdd] at hN hD ⊢
  have HN := Lib.hid hN
  have HP := Lib.hid hP
  clear hN hD hE hP
  have hmf : ∀ (fn : Fn) (first cap : Array Value) (w : World), (Instr.makeFunc fn first cap).run Tryz.prog w = .ok (.func fn first cap) w := fun _ _ _ _ => rfl
  obtain ⟨gN, oN, rfl, hgN, _⟩ := HN.out.2 (by omega)
  obtain ⟨W, hW⟩ : ∃ W, W = w.alloc (.cells #[.slice (some ⟨gN, oN, none⟩) 11 cN, .slice AD 0 cD, .slice AP 0 cP, .slice AB pay.length cB] 27) := ⟨_, rfl⟩
  obtain ⟨go, hgo⟩ : ∃ go, go = w.heap.size + 1 + 1 := ⟨_, rfl⟩
  obtain ⟨w1, hw1⟩ : ∃ w1, w1 = (W.alloc (.cells #[] 5)).alloc (.cells #[.slice (some ⟨w.heap.size + 1, 0, none⟩) 0 0] 25) := ⟨_, rfl⟩
  have hsz : W.heap.size = w.heap.size + 1 := by rw [hW]; simp
  have hO1 : Out W w1 go [] := by rw [hw1, hgo, ← hsz]; exact Out.start W _ rfl
  have hbe : Below w.heap.size w W := by rw [hW]; exact (Below.refl _ _).alloc (Nat.le_refl _) _
  have hbx : Bk W w.heap.size 27 [.slice (some ⟨gN, oN, none⟩) 11 cN, .slice AD 0 cD, .slice AP 0 cP, .slice AB pay.length cB] := by rw [hW]; exact Bk.new _ _ _
  have HNW := Lib.hid (HN.out.below hbe)
  have HPW := Lib.hid (HP.out.below hbe)
  have HBE := Lib.hid hbe
  have HBX := Lib.hid hbx
  have HSZ := Lib.hid hsz
  have hgW : gN < W.heap.size := by omega
  have HW := Lib.hid hW
  have HG := Lib.hid hgo
  have HW1 := Lib.hid hw1
  have HO1 := Lib.hid hO1
  obtain ⟨X0, hX0⟩ : ∃ X : List UInt8, X = [] := ⟨_, rfl⟩
  have HX0 := Lib.hid hX0
  have hL0 : X0.length = 0 := by rw [hX0]; rfl
  clear hW hgo hw1 hsz hbe hbx hO1 hX0
  have oz : bits .or .u64 0 0 = 0 := by kernel_rfl
  go_enter Tryz.func21, Tryz.ntmps21
  go_wp2_with fail
  rw [← HW.out, ← HG.out, ← HW1.out]
  have HNS1 := Lib.hid ((HNW.out.more (B' := W.heap.size) (by have := HSZ.out; omega)).below HO1.out.be)
  have c1 := HNS1.out.numE 1 (1) (by omega) rfl
  have c2 := HNS1.out.numE 2 (0) (by omega) rfl
  have c3 := HNS1.out.numE 3 (0) (by omega) rfl
  have c4 := HNS1.out.numE 4 (0) (by omega) rfl
  have c5 := HNS1.out.numE 5 (0) (by omega) rfl
  have c9 := HNS1.out.numE 9 (0) (by omega) rfl
  have c10 := HNS1.out.numE 10 (0) (by omega) rfl
  simp only [Int.natCast_zero, Int.natCast_one] at c1 c2 c3 c4 c5 c9 c10
  go_quiet (fail)
  clear c1 c2 c3 c4 c5 c9 c10
  have hOq := HO1.out.drewN nq
  obtain ⟨w1, hwq⟩ : ∃ w', w' = w1.drewN nq := ⟨_, rfl⟩
  rw [← hwq] at hOq
  rw [← hwq]
  have HO1 := Lib.hid hOq
  clear hwq hOq
  have HNS1 := Lib.hid ((HNW.out.more (B' := W.heap.size) (by have := HSZ.out; omega)).below HO1.out.be)
  have c0 := HNS1.out.numE 0 (n0) (by omega) rfl
  simp only [Nat.add_zero] at c0
  go_wp2_with fail
  simp (disch := omega) only [orm64 4 5]
  refine (HO1.out.put (n0 * 32 + 16) 1 _ _ (by omega) rfl (by omega) (by rw [List.length_nil]; omega)).mono ?_
  rintro e w2 ⟨rfl, hO2⟩
  rw [← HX0.out] at hO2
  clear c0
  obtain ⟨X1, hX1⟩ : ∃ X, X = X0 ++ Lib.beBytes 1 (n0 * 32 + 16) := ⟨_, rfl⟩
  rw [← hX1] at hO2
  have hL1 : X1.length = 1 := by rw [hX1, List.length_append, hL0, Lib.beBytes_length]
  have HO2 := Lib.hid hO2
  have HX1 := Lib.hid hX1
  clear hO2 hX1
  have HNS2 := Lib.hid ((HNW.out.more (B' := W.heap.size) (by have := HSZ.out; omega)).below HO2.out.be)
  have c6 := HNS2.out.numE 6 (n6) (by omega) rfl
  go_wp2_with fail
  refine (HO2.out.put (n6) 1 _ _ (rfl) rfl (by omega) (by omega)).mono ?_
  rintro e w3 ⟨rfl, hO3⟩
  clear c6
  obtain ⟨X2, hX2⟩ : ∃ X, X = X1 ++ Lib.beBytes 1 (n6) := ⟨_, rfl⟩
  rw [← hX2] at hO3
  have hL2 : X2.length = 2 := by rw [hX2, List.length_append, hL1, Lib.beBytes_length]
  have HO3 := Lib.hid hO3
  have HX2 := Lib.hid hX2
  clear hO3 hX2
  have HNS3 := Lib.hid ((HNW.out.more (B' := W.heap.size) (by have := HSZ.out; omega)).below HO3.out.be)
  have c7 := HNS3.out.numE 7 (n7) (by omega) rfl
  go_wp2_with fail
  refine (HO3.out.put (n7) 2 _ _ (rfl) rfl (by omega) (by omega)).mono ?_
  rintro e w4 ⟨rfl, hO4⟩
  clear c7
  obtain ⟨X3, hX3⟩ : ∃ X, X = X2 ++ Lib.beBytes 2 (n7) := ⟨_, rfl⟩
  rw [← hX3] at hO4
  have hL3 : X3.length = 4 := by rw [hX3, List.length_append, hL2, Lib.beBytes_length]
  have HO4 := Lib.hid hO4
  have HX3 := Lib.hid hX3
  clear hO4 hX3
  have HNS4 := Lib.hid ((HNW.out.more (B' := W.heap.size) (by have := HSZ.out; omega)).below HO4.out.be)
  have c8 := HNS4.out.numE 8 (n8) (by omega) rfl
  go_wp2_with fail
  refine (HO4.out.put (n8) 4 _ _ (rfl) rfl (by omega) (by omega)).mono ?_
  rintro e w5 ⟨rfl, hO5⟩
  clear c8
  obtain ⟨X4, hX4⟩ : ∃ X, X = X3 ++ Lib.beBytes 4 (n8) := ⟨_, rfl⟩
  rw [← hX4] at hO5
  have hL4 : X4.length = 8 := by rw [hX4, List.length_append, hL3, Lib.beBytes_length]
  have HO5 := Lib.hid hO5
  have HX4 := Lib.hid hX4
  clear hO5 hX4
  obtain ⟨AO, cO, hv2, ho2⟩ := HO5.out.sl
  have v0 := hv2.cell 0
  have p3 := (HBX.out.below HO5.out.be (by have := HSZ.out; omega)).cell 3
  simp only [List.getElem?_cons_zero, List.getElem?_cons_succ] at v0 p3
  have hP2 := (HPW.out.more (B' := W.heap.size) (by have := HSZ.out; omega)).below HO5.out.be
  have hbW := HO5.out.be.size
  have HP2 := Lib.hid hP2
  have HOW2 := Lib.hid ho2
  clear hP2 ho2 hv2
  have hl2 : X4.length ≤ 1000 := by omega
  clear hL4
  generalize hLL : X4.length = L at *
  have HLL := Lib.hid hLL
  clear hLL
  go_wp2_with (at_builtin; refine wpList_append_sl _ rfl (.tmp 620) (.tmp 622) _ rfl W.heap.size 5 i0 _ 1 Tryz.underlying25 hi0 hz0 hz1 hz2 rfl (.slice AO L cO) L (bcs X4) rfl HOW2.out W.heap.size AB pay.length cB (bcs pay) rfl HP2.out bcs_one (by simp only [maxLen]; omega) (by omega) hbW ?_; intro v5 wz ho5 hg5 hv5)
  obtain ⟨A5, c5, hv, hc5, hs5, hn5⟩ := own_form ho5.out
  rw [hv]
  have hb5 : Below W.heap.size w5 wz := (Below.refl _ _).grown hg5 hbW (fun k hk => (HOW2.out.lt k hk).1)
  have hz1' := HSZ.out
  refine hR.out _ _ ⟨A5, L + pay.length, c5, rfl, HBE.out.trans ((HO5.out.be.trans hb5).mono (by omega)), hc5, fun h => by have := hn5 h; omega, ?_⟩
  refine Sl.cast hs5 ?_
  rw [HX4.out, HX3.out, HX2.out, HX1.out, HX0.out, List.nil_append, ← bcs_append]
  rfl
set_option maxRecDepth 1000000 in
set_option maxHeartbeats 10000000 in
theorem sw_gtp_no1 (fix : Bool) (n0 n1 n2 n3 n4 n5 n6 n7 n8 n9 n10 : Nat) (h1 : n1 < 2) (h2 : n2 < 2) (h3 : n3 < 2) (h4 : n4 < 2) (h5 : n5 < 2) (h9 : n9 < 65536) (h10 : n10 < 256) (q1 : n1 ≠ 1) (pay : List UInt8) (hp : pay.length ≤ 300) (v : Value) (w : World) (hv : Lyr w w.heap.size v [n0, n1, n2, n3, n4, n5, n6, n7, n8, n9, n10] [] pay) :
    Calls Tryz.prog 21 #[.string k_gtp, v, .bool fix] w fun e w' => e = .returned (.tuple #[.slice none 0 0, .bool false]) ∧ Below w.heap.size w w' := by
  refine calls_hid fun R hR => ?_
  obtain ⟨i0, hi0, hz0, hz1, hz2⟩ := info_parts info5
  obtain ⟨AN, cN, AD, cD, AP, cP, AB, cB, ds, rfl, hN, hD, hE, hP⟩ := hv
  simp only [List.length_cons, List.length_nil, Nat.zero_add, Nat.reduceAdd] at hN hD ⊢
  have HN := Lib.hid hN
  have HP := Lib.hid hP
  clear hN hD hE hP
  have hmf : ∀ (fn : Fn) (first cap : Array Value) (w : World), (Instr.makeFunc fn first cap).run Tryz.prog w = .ok (.func fn first cap) w := fun _ _ _ _ => rfl
  obtain ⟨gN, oN, rfl, hgN, _⟩ := HN.out.2 (by omega)
  obtain ⟨W, hW⟩ : ∃ W, W = w.alloc (.cells #[.slice (some ⟨gN, oN, none⟩) 11 cN, .slice AD 0 cD, .slice AP 0 cP, .slice AB pay.length cB] 27) := ⟨_, rfl⟩
  obtain ⟨go, hgo⟩ : ∃ go, go = w.heap.size + 1 + 1 := ⟨_, rfl⟩
  obtain ⟨w1, hw1⟩ : ∃ w1, w1 = (W.alloc (.cells #[] 5)).alloc (.cells #[.slice (some ⟨w.heap.size + 1, 0, none⟩) 0 0] 25) := ⟨_, rfl⟩
  have hsz : W.heap.size = w.heap.size + 1 := by rw [hW]; simp
  have hO1 : Out W w1 go [] := by rw [hw1, hgo, ← hsz]; exact Out.start W _ rfl
  have hbe : Below w.heap.size w W := by rw [hW]; exact (Below.refl _ _).alloc (Nat.le_refl _) _
  have hbx : Bk W w.heap.size 27 [.slice (some ⟨gN, oN, none⟩) 11 cN, .slice AD 0 cD, .slice AP 0 cP, .slice AB pay.length cB] := by rw [hW]; exact Bk.new _ _ _
  have HNW := Lib.hid (HN.out.below hbe)
  have HPW := Lib.hid (HP.out.below hbe)
  have HBE := Lib.hid hbe
  have HBX := Lib.hid hbx
  have HSZ := Lib.hid hsz
  have hgW : gN < W.heap.size := by omega
  have HW := Lib.hid hW
  have HG := Lib.hid hgo
  have HW1 := Lib.hid hw1
  have HO1 := Lib.hid hO1
  obtain ⟨X0, hX0⟩ : ∃ X : List UInt8, X = [] := ⟨_, rfl⟩
  have HX0 := Lib.hid hX0
  have hL0 : X0.length = 0 := by rw [hX0]; rfl
  clear hW hgo hw1 hsz hbe hbx hO1 hX0
  have t1 : ((n1 : Int) != 1) = true := by first | (rw [bne_iff_ne]; omega) | (rw [bne_eq_false_iff_eq]; omega)
  go_enter Tryz.func21, Tryz.ntmps21
  go_wp2_with fail
  rw [← HW.out, ← HG.out, ← HW1.out]
  have HNS1 := Lib.hid ((HNW.out.more (B' := W.heap.size) (by have := HSZ.out; omega)).below HO1.out.be)
  have c1 := HNS1.out.numE 1 (n1) (by omega) rfl
  have c2 := HNS1.out.numE 2 (n2) (by omega) rfl
  have c3 := HNS1.out.numE 3 (n3) (by omega) rfl
  have c4 := HNS1.out.numE 4 (n4) (by omega) rfl
  have c5 := HNS1.out.numE 5 (n5) (by omega) rfl
  have c9 := HNS1.out.numE 9 (n9) (by omega) rfl
  have c10 := HNS1.out.numE 10 (n10) (by omega) rfl
  go_quiet (fail)
  clear c1 c2 c3 c4 c5 c9 c10
  have hOq := HO1.out.drewN nq
  obtain ⟨w1, hwq⟩ : ∃ w', w' = w1.drewN nq := ⟨_, rfl⟩
  rw [← hwq] at hOq
  rw [← hwq]
  have HO1 := Lib.hid hOq
  clear hwq hOq
  go_wp2_with fail
  exact hR.out _ _ ⟨rfl, HBE.out.trans ((HO1.out.be).mono (by have := HSZ.out; omega))⟩
set_option maxRecDepth 1000000 in
set_option maxHeartbeats 10000000 in
theorem sw_gtp_no2 (fix : Bool) (n0 n1 n2 n3 n4 n5 n6 n7 n8 n9 n10 : Nat) (h1 : n1 < 2) (h2 : n2 < 2) (h3 : n3 < 2) (h4 : n4 < 2) (h5 : n5 < 2) (h9 : n9 < 65536) (h10 : n10 < 256) (q1 : n1 = 1) (q2 : n2 ≠ 0) (pay : List UInt8) (hp : pay.length ≤ 300) (v : Value) (w : World) (hv : Lyr w w.heap.size v [n0, n1, n2, n3, n4, n5, n6, n7, n8, n9, n10] [] pay) :
    Calls Tryz.prog 21 #[.string k_gtp, v, .bool fix] w fun e w' => e = .returned (.tuple #[.slice none 0 0, .bool false]) ∧ Below w.heap.size w w' := by
  refine calls_hid fun R hR => ?_
  obtain ⟨i0, hi0, hz0, hz1, hz2⟩ := info_parts info5
  obtain ⟨AN, cN, AD, cD, AP, cP, AB, cB, ds, rfl, hN, hD, hE, hP⟩ := hv
  simp only [List.length_cons, List.length_nil, Nat.zero_add, Nat.reduceAdd] at hN hD ⊢
  have HN := Lib.hid hN
  have HP := Lib.hid hP
  clear hN hD hE hP
  have hmf : ∀ (fn : Fn) (first cap : Array Value) (w : World), (Instr.makeFunc fn first cap).run Tryz.prog w = .ok (.func fn first cap) w := fun _ _ _ _ => rfl
  obtain ⟨gN, oN, rfl, hgN, _⟩ := HN.out.2 (by omega)
  obtain ⟨W, hW⟩ : ∃ W, W = w.alloc (.cells #[.slice (some ⟨gN, oN, none⟩) 11 cN, .slice AD 0 cD, .slice AP 0 cP, .slice AB pay.length cB] 27) := ⟨_, rfl⟩
  obtain ⟨go, hgo⟩ : ∃ go, go = w.heap.size + 1 + 1 := ⟨_, rfl⟩
  obtain ⟨w1, hw1⟩ : ∃ w1, w1 = (W.alloc (.cells #[] 5)).alloc (.cells #[.slice (some ⟨w.heap.size + 1, 0, none⟩) 0 0] 25) := ⟨_, rfl⟩
  have hsz : W.heap.size = w.heap.size + 1 := by rw [hW]; simp
  have hO1 : Out W w1 go [] := by rw [hw1, hgo, ← hsz]; exact Out.start W _ rfl
  have hbe : Below w.heap.size w W := by rw [hW]; exact (Below.refl _ _).alloc (Nat.le_refl _) _
  have hbx : Bk W w.heap.size 27 [.slice (some ⟨gN, oN, none⟩) 11 cN, .slice AD 0 cD, .slice AP 0 cP, .slice AB pay.length cB] := by rw [hW]; exact Bk.new _ _ _
  have HNW := Lib.hid (HN.out.below hbe)
  have HPW := Lib.hid (HP.out.below hbe)
  have HBE := Lib.hid hbe
  have HBX := Lib.hid hbx
  have HSZ := Lib.hid hsz
  have hgW : gN < W.heap.size := by omega
  have HW := Lib.hid hW
  have HG := Lib.hid hgo
  have HW1 := Lib.hid hw1
  have HO1 := Lib.hid hO1
  obtain ⟨X0, hX0⟩ : ∃ X : List UInt8, X = [] := ⟨_, rfl⟩
  have HX0 := Lib.hid hX0
  have hL0 : X0.length = 0 := by rw [hX0]; rfl
  clear hW hgo hw1 hsz hbe hbx hO1 hX0
  have t1 : ((n1 : Int) != 1) = false := by first | (rw [bne_iff_ne]; omega) | (rw [bne_eq_false_iff_eq]; omega)
  have t2 : ((n2 : Int) != 0) = true := by first | (rw [bne_iff_ne]; omega) | (rw [bne_eq_false_iff_eq]; omega)
  have Qq1 := Lib.hid q1
  clear q1
  go_enter Tryz.func21, Tryz.ntmps21
  go_wp2_with fail
  rw [← HW.out, ← HG.out, ← HW1.out]
  have HNS1 := Lib.hid ((HNW.out.more (B' := W.heap.size) (by have := HSZ.out; omega)).below HO1.out.be)
  have c1 := HNS1.out.numE 1 (n1) (by omega) rfl
  have c2 := HNS1.out.numE 2 (n2) (by omega) rfl
  have c3 := HNS1.out.numE 3 (n3) (by omega) rfl
  have c4 := HNS1.out.numE 4 (n4) (by omega) rfl
  have c5 := HNS1.out.numE 5 (n5) (by omega) rfl
  have c9 := HNS1.out.numE 9 (n9) (by omega) rfl
  have c10 := HNS1.out.numE 10 (n10) (by omega) rfl
  go_quiet (fail)
  clear c1 c2 c3 c4 c5 c9 c10
  have hOq := HO1.out.drewN nq
  obtain ⟨w1, hwq⟩ : ∃ w', w' = w1.drewN nq := ⟨_, rfl⟩
  rw [← hwq] at hOq
  rw [← hwq]
  have HO1 := Lib.hid hOq
  clear hwq hOq
  go_wp2_with fail
  exact hR.out _ _ ⟨rfl, HBE.out.trans ((HO1.out.be).mono (by have := HSZ.out; omega))⟩
set_option maxRecDepth 1000000 in
set_option maxHeartbeats 10000000 in
theorem sw_gtp_no3 (fix : Bool) (n0 n1 n2 n3 n4 n5 n6 n7 n8 n9 n10 : Nat) (h1 : n1 < 2) (h2 : n2 < 2) (h3 : n3 < 2) (h4 : n4 < 2) (h5 : n5 < 2) (h9 : n9 < 65536) (h10 : n10 < 256) (q1 : n1 = 1) (q2 : n2 = 0) (q3 : n3 ≠ 0 ∨ n4 ≠ 0 ∨ n5 ≠ 0) (pay : List UInt8) (hp : pay.length ≤ 300) (v : Value) (w : World) (hv : Lyr w w.heap.size v [n0, n1, n2, n3, n4, n5, n6, n7, n8, n9, n10] [] pay) :
    Calls Tryz.prog 21 #[.string k_gtp, v, .bool fix] w fun e w' => e = .returned (.tuple #[.slice none 0 0, .bool false]) ∧ Below w.heap.size w w' := by
  refine calls_hid fun R hR => ?_
  obtain ⟨i0, hi0, hz0, hz1, hz2⟩ := info_parts info5
  obtain ⟨AN, cN, AD, cD, AP, cP, AB, cB, ds, rfl, hN, hD, hE, hP⟩ := hv
  simp only [List.length_cons, List.length_nil, Nat.zero_add, Nat.reduceAdd] at hN hD ⊢
  have HN := Lib.hid hN
  have HP := Lib.hid hP
  clear hN hD hE hP
  have hmf : ∀ (fn : Fn) (first cap : Array Value) (w : World), (Instr.makeFunc fn first cap).run Tryz.prog w = .ok (.func fn first cap) w := fun _ _ _ _ => rfl
  obtain ⟨gN, oN, rfl, hgN, _⟩ := HN.out.2 (by omega)
  obtain ⟨W, hW⟩ : ∃ W, W = w.alloc (.cells #[.slice (some ⟨gN, oN, none⟩) 11 cN, .slice AD 0 cD, .slice AP 0 cP, .slice AB pay.length cB] 27) := ⟨_, rfl⟩
  obtain ⟨go, hgo⟩ : ∃ go, go = w.heap.size + 1 + 1 := ⟨_, rfl⟩
  obtain ⟨w1, hw1⟩ : ∃ w1, w1 = (W.alloc (.cells #[] 5)).alloc (.cells #[.slice (some ⟨w.heap.size + 1, 0, none⟩) 0 0] 25) := ⟨_, rfl⟩
  have hsz : W.heap.size = w.heap.size + 1 := by rw [hW]; simp
  have hO1 : Out W w1 go [] := by rw [hw1, hgo, ← hsz]; exact Out.start W _ rfl
  have hbe : Below w.heap.size w W := by rw [hW]; exact (Below.refl _ _).alloc (Nat.le_refl _) _
  have hbx : Bk W w.heap.size 27 [.slice (some ⟨gN, oN, none⟩) 11 cN, .slice AD 0 cD, .slice AP 0 cP, .slice AB pay.length cB] := by rw [hW]; exact Bk.new _ _ _
  have HNW := Lib.hid (HN.out.below hbe)
  have HPW := Lib.hid (HP.out.below hbe)
  have HBE := Lib.hid hbe
  have HBX := Lib.hid hbx
  have HSZ := Lib.hid hsz
  have hgW : gN < W.heap.size := by omega
  have HW := Lib.hid hW
  have HG := Lib.hid hgo
  have HW1 := Lib.hid hw1
  have HO1 := Lib.hid hO1
  obtain ⟨X0, hX0⟩ : ∃ X : List UInt8, X = [] := ⟨_, rfl⟩
  have HX0 := Lib.hid hX0
  have hL0 : X0.length = 0 := by rw [hX0]; rfl
  clear hW hgo hw1 hsz hbe hbx hO1 hX0
  have t1 : ((n1 : Int) != 1) = false := by first | (rw [bne_iff_ne]; omega) | (rw [bne_eq_false_iff_eq]; omega)
  have t2 : ((n2 : Int) != 0) = false := by first | (rw [bne_iff_ne]; omega) | (rw [bne_eq_false_iff_eq]; omega)
  have t3 : (bits .or .u64 (bits .or .u64 (n3 : Int) (n4 : Int)) (n5 : Int) != 0) = true := by
    rcases (show n3 = 0 ∨ n3 = 1 by omega) with rfl | rfl <;> rcases (show n4 = 0 ∨ n4 = 1 by omega) with rfl | rfl <;> rcases (show n5 = 0 ∨ n5 = 1 by omega) with rfl | rfl <;> first | (exfalso; omega) | kernel_rfl
  have Qq1 := Lib.hid q1
  clear q1
  have Qq2 := Lib.hid q2
  clear q2
  have Qq3 := Lib.hid q3
  clear q3
  go_enter Tryz.func21, Tryz.ntmps21
  go_wp2_with fail
  rw [← HW.out, ← HG.out, ← HW1.out]
  have HNS1 := Lib.hid ((HNW.out.more (B' := W.heap.size) (by have := HSZ.out; omega)).below HO1.out.be)
  have c1 := HNS1.out.numE 1 (n1) (by omega) rfl
  have c2 := HNS1.out.numE 2 (n2) (by omega) rfl
  have c3 := HNS1.out.numE 3 (n3) (by omega) rfl
  have c4 := HNS1.out.numE 4 (n4) (by omega) rfl
  have c5 := HNS1.out.numE 5 (n5) (by omega) rfl
  have c9 := HNS1.out.numE 9 (n9) (by omega) rfl
  have c10 := HNS1.out.numE 10 (n10) (by omega) rfl
  go_quiet (fail)
  clear c1 c2 c3 c4 c5 c9 c10
  have hOq := HO1.out.drewN nq
  obtain ⟨w1, hwq⟩ : ∃ w', w' = w1.drewN nq := ⟨_, rfl⟩
  rw [← hwq] at hOq
  rw [← hwq]
  have HO1 := Lib.hid hOq
  clear hwq hOq
  go_wp2_with fail
  exact hR.out _ _ ⟨rfl, HBE.out.trans ((HO1.out.be).mono (by have := HSZ.out; omega))⟩
set_option maxRecDepth 1000000 in
set_option maxHeartbeats 10000000 in
theorem sw_gtp_no4 (fix : Bool) (n0 n1 n2 n3 n4 n5 n6 n7 n8 n9 n10 : Nat) (h1 : n1 < 2) (h2 : n2 < 2) (h3 : n3 < 2) (h4 : n4 < 2) (h5 : n5 < 2) (h9 : n9 < 65536) (h10 : n10 < 256) (q1 : n1 = 1) (q2 : n2 = 0) (q3 : n3 = 0 ∧ n4 = 0 ∧ n5 = 0) (q9 : n9 ≠ 0 ∨ n10 ≠ 0) (pay : List UInt8) (hp : pay.length ≤ 300) (v : Value) (w : World) (hv : Lyr w w.heap.size v [n0, n1, n2, n3, n4, n5, n6, n7, n8, n9, n10] [] pay) :
    Calls Tryz.prog 21 #[.string k_gtp, v, .bool fix] w fun e w' => e = .returned (.tuple #[.slice none 0 0, .bool false]) ∧ Below w.heap.size w w' := by
  refine calls_hid fun R hR => ?_
  obtain ⟨i0, hi0, hz0, hz1, hz2⟩ := info_parts info5
  obtain ⟨AN, cN, AD, cD, AP, cP, AB, cB, ds, rfl, hN, hD, hE, hP⟩ := hv
  simp only [List.length_cons, List.length_nil, Nat.zero_add, Nat.reduceAdd] at hN hD ⊢
  have HN := Lib.hid hN
  have HP := Lib.hid hP
  clear hN hD hE hP
  have hmf : ∀ (fn : Fn) (first cap : Array Value) (w : World), (Instr.makeFunc fn first cap).run Tryz.prog w = .ok (.func fn first cap) w := fun _ _ _ _ => rfl
  obtain ⟨gN, oN, rfl, hgN, _⟩ := HN.out.2 (by omega)
  obtain ⟨W, hW⟩ : ∃ W, W = w.alloc (.cells #[.slice (some ⟨gN, oN, none⟩) 11 cN, .slice AD 0 cD, .slice AP 0 cP, .slice AB pay.length cB] 27) := ⟨_, rfl⟩
  obtain ⟨go, hgo⟩ : ∃ go, go = w.heap.size + 1 + 1 := ⟨_, rfl⟩
  obtain ⟨w1, hw1⟩ : ∃ w1, w1 = (W.alloc (.cells #[] 5)).alloc (.cells #[.slice (some ⟨w.heap.size + 1, 0, none⟩) 0 0] 25) := ⟨_, rfl⟩
  have hsz : W.heap.size = w.heap.size + 1 := by rw [hW]; simp
  have hO1 : Out W w1 go [] := by rw [hw1, hgo, ← hsz]; exact Out.start W _ rfl
  have hbe : Below w.heap.size w W := by rw [hW]; exact (Below.refl _ _).alloc (Nat.le_refl _) _
  have hbx : Bk W w.heap.size 27 [.slice (some ⟨gN, oN, none⟩) 11 cN, .slice AD 0 cD, .slice AP 0 cP, .slice AB pay.length cB] := by rw [hW]; exact Bk.new _ _ _
  have HNW := Lib.hid (HN.out.below hbe)
  have HPW := Lib.hid (HP.out.below hbe)
  have HBE := Lib.hid hbe
  have HBX := Lib.hid hbx
  have HSZ := Lib.hid hsz
  have hgW : gN < W.heap.size := by omega
  have HW := Lib.hid hW
  have HG := Lib.hid hgo
  have HW1 := Lib.hid hw1
  have HO1 := Lib.hid hO1
  obtain ⟨X0, hX0⟩ : ∃ X : List UInt8, X = [] := ⟨_, rfl⟩
  have HX0 := Lib.hid hX0
  have hL0 : X0.length = 0 := by rw [hX0]; rfl
  clear hW hgo hw1 hsz hbe hbx hO1 hX0
  have t1 : ((n1 : Int) != 1) = false := by first | (rw [bne_iff_ne]; omega) | (rw [bne_eq_false_iff_eq]; omega)
  have t2 : ((n2 : Int) != 0) = false := by first | (rw [bne_iff_ne]; omega) | (rw [bne_eq_false_iff_eq]; omega)
  have t3 : (bits .or .u64 (bits .or .u64 (n3 : Int) (n4 : Int)) (n5 : Int) != 0) = false := by
    rcases (show n3 = 0 ∨ n3 = 1 by omega) with rfl | rfl <;> rcases (show n4 = 0 ∨ n4 = 1 by omega) with rfl | rfl <;> rcases (show n5 = 0 ∨ n5 = 1 by omega) with rfl | rfl <;> first | (exfalso; omega) | kernel_rfl
  have t9 : (bits .or .u64 (n9 : Int) (n10 : Int) != 0) = true := by
    rw [or_nat .u64 64 (by decide) wraps_u64 n9 n10 (by omega) (by omega), bne_iff_ne]
    intro h
    have h' : n9 ||| n10 = 0 := by exact_mod_cast h
    rw [Nat.or_eq_zero_iff] at h'
    omega
  have Qq1 := Lib.hid q1
  clear q1
  have Qq2 := Lib.hid q2
  clear q2
  have Qq3 := Lib.hid q3
  clear q3
  have Qq9 := Lib.hid q9
  clear q9
  go_enter Tryz.func21, Tryz.ntmps21
  go_wp2_with fail
  rw [← HW.out, ← HG.out, ← HW1.out]
  have HNS1 := Lib.hid ((HNW.out.more (B' := W.heap.size) (by have := HSZ.out; omega)).below HO1.out.be)
  have c1 := HNS1.out.numE 1 (n1) (by omega) rfl
  have c2 := HNS1.out.numE 2 (n2) (by omega) rfl
  have c3 := HNS1.out.numE 3 (n3) (by omega) rfl
  have c4 := HNS1.out.numE 4 (n4) (by omega) rfl
  have c5 := HNS1.out.numE 5 (n5) (by omega) rfl
  have c9 := HNS1.out.numE 9 (n9) (by omega) rfl
  have c10 := HNS1.out.numE 10 (n10) (by omega) rfl
  go_quiet (fail)
  clear c1 c2 c3 c4 c5 c9 c10
  have hOq := HO1.out.drewN nq
  obtain ⟨w1, hwq⟩ : ∃ w', w' = w1.drewN nq := ⟨_, rfl⟩
  rw [← hwq] at hOq
  rw [← hwq]
  have HO1 := Lib.hid hOq
  clear hwq hOq
  go_wp2_with fail
  exact hR.out _ _ ⟨rfl, HBE.out.trans ((HO1.out.be).mono (by have := HSZ.out; omega))⟩
def outGtp (nums : List Nat) (_ : List (List UInt8)) (pay : List UInt8) : List UInt8 := gtpHdr (nums.getD 0 0) (nums.getD 6 0) (nums.getD 7 0) (nums.getD 8 0) ++ pay
theorem swrite_gtp (fix : Bool) : SWrite k_gtp fix [3, 1, 1, 1, 1, 1, 8, 16, 32, 16, 8] [] (fun nums _ _ => (nums.getD 1 0) = 1 ∧ (nums.getD 2 0) = 0 ∧ ((nums.getD 3 0) = 0 ∧ (nums.getD 4 0) = 0 ∧ (nums.getD 5 0) = 0) ∧ (nums.getD 9 0) = 0 ∧ (nums.getD 10 0) = 0) outGtp := by
  intro nums data pay v w hf hv
  have hn := hf.nN
  have hd := hf.nD
  match nums, hn, data, hd with
  | [n0, n1, n2, n3, n4, n5, n6, n7, n8, n9, n10], _, [], _ =>
  have h0 : n0 < 8 := hf.num 0 (by decide)
  have h1 : n1 < 2 := hf.num 1 (by decide)
  have h2 : n2 < 2 := hf.num 2 (by decide)
  have h3 : n3 < 2 := hf.num 3 (by decide)
  have h4 : n4 < 2 := hf.num 4 (by decide)
  have h5 : n5 < 2 := hf.num 5 (by decide)
  have h6 : n6 < 256 := hf.num 6 (by decide)
  have h7 : n7 < 65536 := hf.num 7 (by decide)
  have h8 : n8 < 4294967296 := hf.num 8 (by decide)
  have h9 : n9 < 65536 := hf.num 9 (by decide)
  have h10 : n10 < 256 := hf.num 10 (by decide)
  have hp := hf.pay
  clear hf
  by_cases q1 : n1 = 1
  rotate_left
  · refine (sw_gtp_no1 fix n0 n1 n2 n3 n4 n5 n6 n7 n8 n9 n10 h1 h2 h3 h4 h5 h9 h10 q1 pay hp v w hv).mono ?_
    rintro e w' ⟨rfl, hb⟩
    exact ⟨none, 0, 0, false, rfl, hb, fun h => by cases h⟩
  by_cases q2 : n2 = 0
  rotate_left
  · refine (sw_gtp_no2 fix n0 n1 n2 n3 n4 n5 n6 n7 n8 n9 n10 h1 h2 h3 h4 h5 h9 h10 q1 q2 pay hp v w hv).mono ?_
    rintro e w' ⟨rfl, hb⟩
    exact ⟨none, 0, 0, false, rfl, hb, fun h => by cases h⟩
  by_cases q3 : n3 = 0 ∧ n4 = 0 ∧ n5 = 0
  rotate_left
  · refine (sw_gtp_no3 fix n0 n1 n2 n3 n4 n5 n6 n7 n8 n9 n10 h1 h2 h3 h4 h5 h9 h10 q1 q2 (by omega) pay hp v w hv).mono ?_
    rintro e w' ⟨rfl, hb⟩
    exact ⟨none, 0, 0, false, rfl, hb, fun h => by cases h⟩
  by_cases q9 : n9 = 0 ∧ n10 = 0
  rotate_left
  · refine (sw_gtp_no4 fix n0 n1 n2 n3 n4 n5 n6 n7 n8 n9 n10 h1 h2 h3 h4 h5 h9 h10 q1 q2 q3 (by omega) pay hp v w hv).mono ?_
    rintro e w' ⟨rfl, hb⟩
    exact ⟨none, 0, 0, false, rfl, hb, fun h => by cases h⟩
  obtain ⟨e3, e4, e5⟩ := q3
  obtain ⟨e9, e10⟩ := q9
  subst q1 q2 e3 e4 e5 e9 e10
  · refine (sw_gtp fix n0 n6 n7 n8 h0 h6 h7 h8 pay hp v w hv).mono ?_
    rintro e w' ⟨A, n, c, rfl, hb, h1, h2, h3⟩
    exact ⟨A, n, c, true, rfl, hb, fun _ => ⟨⟨rfl, rfl, ⟨rfl, rfl, rfl⟩, rfl, rfl⟩, h1, h2, h3⟩⟩
end Go.Proofs.YtphmklgbbpiafaaGreat
