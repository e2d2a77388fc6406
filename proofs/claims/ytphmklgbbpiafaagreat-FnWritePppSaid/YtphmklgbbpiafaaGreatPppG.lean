/-
  PPP: what the reference writes. No condition.
-/
import Derived.Test.YtphmklgbbpiafaaGreatOutA
import Derived.Test.YtphmklgbbpiafaaGreatOutB
import Derived.Test.YtphmklgbbpiafaaGreatCutB
import Derived.Deep.Cut
import Derived.Test.YtphmklgbbpiafaaGreatPppA
namespace Go.Proofs.YtphmklgbbpiafaaGreat
open Go Go.RowKit
set_option linter.unusedVariables false
set_option linter.unusedSimpArgs false
attribute [local go_sem] sd_drewN ad_drewN
set_option maxRecDepth 1000000 in
set_option maxHeartbeats 10000000 in
theorem sw_ppp0 (fix : Bool) (n0 : Nat) (h0 : n0 < 65536) (ho : n0 % 2 = 1) (he : n0 / 256 % 2 = 0) (pay : List UInt8) (hp : pay.length ≤ 300) (v : Value) (w : World) (hv : Lyr w w.heap.size v [n0, 0] [] pay) :
    Calls Tryz.prog 21 #[.string k_ppp, v, .bool fix] w fun e w' => ∃ A n c, e = .returned (.tuple #[.slice A n c, .bool true]) ∧ Below w.heap.size w w' ∧ n ≤ c ∧ (A = none → n = 0) ∧ Sl w' w'.heap.size A n (bcs (pppHdr n0 0 ++ pay)) := by
  refine calls_hid fun R hR => ?_
  obtain ⟨i0, hi0, hz0, hz1, hz2⟩ := info_parts info5
  obtain ⟨AN, cN, AD, cD, AP, cP, AB, cB, ds, rfl, hN, hD, hE, hP⟩ := hv
  simp only [List.length_cons, List.length_nil, Nat.zero_add, Nat.reduceAdd] at hN hD ⊢
  have HN := Lib.hid hN
  have HP := Lib.hid hP
  clear hN hD hE hP
  have hmf : ∀ (fn : Fn) (first cap : Array Value) (w : World), (Instr.makeFunc fn first cap).run Tryz.prog w = .ok (.func fn first cap) w := fun _ _ _ _ => rfl
  obtain ⟨gN, oN, rfl, hgN, _⟩ := HN.out.2 (by omega)
  obtain ⟨W, hW⟩ : ∃ W, W = w.alloc (.cells #[.slice (some ⟨gN, oN, none⟩) 2 cN, .slice AD 0 cD, .slice AP 0 cP, .slice AB pay.length cB] 27) := ⟨_, rfl⟩
  obtain ⟨go, hgo⟩ : ∃ go, go = w.heap.size + 1 + 1 := ⟨_, rfl⟩
  obtain ⟨w1, hw1⟩ : ∃ w1, w1 = (W.alloc (.cells #[] 5)).alloc (.cells #[.slice (some ⟨w.heap.size + 1, 0, none⟩) 0 0] 25) := ⟨_, rfl⟩
  have hsz : W.heap.size = w.heap.size + 1 := by rw [hW]; simp
  have hO1 : Out W w1 go [] := by rw [hw1, hgo, ← hsz]; exact Out.start W _ rfl
  have hbe : Below w.heap.size w W := by rw [hW]; exact (Below.refl _ _).alloc (Nat.le_refl _) _
  have hbx : Bk W w.heap.size 27 [.slice (some ⟨gN, oN, none⟩) 2 cN, .slice AD 0 cD, .slice AP 0 cP, .slice AB pay.length cB] := by rw [hW]; exact Bk.new _ _ _
  have HNW := Lib.hid (HN.out.below hbe)
  have HPW := Lib.hid (HP.out.below hbe)
  have HBE := Lib.hid hbe
  have HBX := Lib.hid hbx
  have HSZ := Lib.hid hsz
  have hgW : gN < W.heap.size := by omega
  have HW := Lib.hid hW
  have HG := Lib.hid hgo
  have HW1 := Lib.hid hw1
  have HO1 := Lib.hid hO1
  obtain ⟨X0, hX0⟩ : ∃ X : List UInt8, X = [] := ⟨_, rfl⟩
  have HX0 := Lib.hid hX0
  have hL0 : X0.length = 0 := by rw [hX0]; rfl
  clear hW hgo hw1 hsz hbe hbx hO1 hX0
  have HNS1 := Lib.hid ((HNW.out.more (B' := W.heap.size) (by have := HSZ.out; omega)).below HO1.out.be)
  have c0 := HNS1.out.numE 0 (n0) (by omega) rfl
  have c1 := HNS1.out.numE 1 (0) (by omega) rfl
  simp only [Nat.add_zero] at c0
  simp only [Int.natCast_zero, Int.natCast_one] at c1
  rw [HW1.out, HW.out] at c0 c1
  have q0 : bits .and .u64 (n0 : Int) 1 = (n0 : Int) % 2 := by first | exact and64_1 _ (by omega) (by omega)
  have q1 : bits .and .u64 ((n0 : Int) / 256) 1 = (n0 : Int) / 256 % 2 := by first | exact and64_1 _ (by omega) (by omega)
  have r0 : (n0 : Int) % 2 = 1 := by omega
  have r1 : (n0 : Int) / 256 % 2 = 0 := by omega
  go_enter Tryz.func21, Tryz.ntmps21
  go_wp2_with fail
  rw [← HW.out, ← HG.out, ← HW1.out]
  clear c0 c1
  have HNS1 := Lib.hid ((HNW.out.more (B' := W.heap.size) (by have := HSZ.out; omega)).below HO1.out.be)
  refine (HO1.out.put (n0) 2 _ _ (rfl) rfl (by omega) (by rw [List.length_nil]; omega)).mono ?_
  rintro e w2 ⟨rfl, hO2⟩
  rw [← HX0.out] at hO2
  obtain ⟨X1, hX1⟩ : ∃ X, X = X0 ++ Lib.beBytes 2 (n0) := ⟨_, rfl⟩
  rw [← hX1] at hO2
  have hL1 : X1.length = 2 := by rw [hX1, List.length_append, hL0, Lib.beBytes_length]
  have HO2 := Lib.hid hO2
  have HX1 := Lib.hid hX1
  clear hO2 hX1
  obtain ⟨AO, cO, hv2, ho2⟩ := HO2.out.sl
  have v0 := hv2.cell 0
  have p3 := (HBX.out.below HO2.out.be (by have := HSZ.out; omega)).cell 3
  simp only [List.getElem?_cons_zero, List.getElem?_cons_succ] at v0 p3
  have hP2 := (HPW.out.more (B' := W.heap.size) (by have := HSZ.out; omega)).below HO2.out.be
  have hbW := HO2.out.be.size
  have HP2 := Lib.hid hP2
  have HOW2 := Lib.hid ho2
  clear hP2 ho2 hv2
  have hl2 : X1.length ≤ 1000 := by omega
  clear hL1
  generalize hLL : X1.length = L at *
  have HLL := Lib.hid hLL
  clear hLL
  go_wp2_with (at_builtin; refine wpList_append_sl _ rfl (.tmp 620) (.tmp 622) _ rfl W.heap.size 5 i0 _ 1 Tryz.underlying25 hi0 hz0 hz1 hz2 rfl (.slice AO L cO) L (bcs X1) rfl HOW2.out W.heap.size AB pay.length cB (bcs pay) rfl HP2.out bcs_one (by simp only [maxLen]; omega) (by omega) hbW ?_; intro v5 wz ho5 hg5 hv5)
  obtain ⟨A5, c5, hv, hc5, hs5, hn5⟩ := own_form ho5.out
  rw [hv]
  have hb5 : Below W.heap.size w2 wz := (Below.refl _ _).grown hg5 hbW (fun k hk => (HOW2.out.lt k hk).1)
  have hz1' := HSZ.out
  refine hR.out _ _ ⟨A5, L + pay.length, c5, rfl, HBE.out.trans ((HO2.out.be.trans hb5).mono (by omega)), hc5, fun h => by have := hn5 h; omega, ?_⟩
  refine Sl.cast hs5 ?_
  rw [HX1.out, HX0.out, List.nil_append, ← bcs_append]
  rfl
set_option maxRecDepth 1000000 in
set_option maxHeartbeats 10000000 in
theorem sw_ppp1 (fix : Bool) (n0 : Nat) (h0 : n0 < 65536) (ho : n0 % 2 = 1) (he : n0 / 256 % 2 = 0) (pay : List UInt8) (hp : pay.length ≤ 300) (v : Value) (w : World) (hv : Lyr w w.heap.size v [n0, 1] [] pay) :
    Calls Tryz.prog 21 #[.string k_ppp, v, .bool fix] w fun e w' => ∃ A n c, e = .returned (.tuple #[.slice A n c, .bool true]) ∧ Below w.heap.size w w' ∧ n ≤ c ∧ (A = none → n = 0) ∧ Sl w' w'.heap.size A n (bcs (pppHdr n0 1 ++ pay)) := by
  refine calls_hid fun R hR => ?_
  obtain ⟨i0, hi0, hz0, hz1, hz2⟩ := info_parts info5
  obtain ⟨AN, cN, AD, cD, AP, cP, AB, cB, ds, rfl, hN, hD, hE, hP⟩ := hv
  simp only [List.length_cons, List.length_nil, Nat.zero_add, Nat.reduceAdd] at hN hD ⊢
  have HN := Lib.hid hN
  have HP := Lib.hid hP
  clear hN hD hE hP
  have hmf : ∀ (fn : Fn) (first cap : Array Value) (w : World), (Instr.makeFunc fn first cap).run Tryz.prog w = .ok (.func fn first cap) w := fun _ _ _ _ => rfl
  obtain ⟨gN, oN, rfl, hgN, _⟩ := HN.out.2 (by omega)
  obtain ⟨W, hW⟩ : ∃ W, W = w.alloc (.cells #[.slice (some ⟨gN, oN, none⟩) 2 cN, .slice AD 0 cD, .slice AP 0 cP, .slice AB pay.length cB] 27) := ⟨_, rfl⟩
  obtain ⟨go, hgo⟩ : ∃ go, go = w.heap.size + 1 + 1 := ⟨_, rfl⟩
  obtain ⟨w1, hw1⟩ : ∃ w1, w1 = (W.alloc (.cells #[] 5)).alloc (.cells #[.slice (some ⟨w.heap.size + 1, 0, none⟩) 0 0] 25) := ⟨_, rfl⟩
  have hsz : W.heap.size = w.heap.size + 1 := by rw [hW]; simp
  have hO1 : Out W w1 go [] := by rw [hw1, hgo, ← hsz]; exact Out.start W _ rfl
  have hbe : Below w.heap.size w W := by rw [hW]; exact (Below.refl _ _).alloc (Nat.le_refl _) _
  have hbx : Bk W w.heap.size 27 [.slice (some ⟨gN, oN, none⟩) 2 cN, .slice AD 0 cD, .slice AP 0 cP, .slice AB pay.length cB] := by rw [hW]; exact Bk.new _ _ _
  have HNW := Lib.hid (HN.out.below hbe)
  have HPW := Lib.hid (HP.out.below hbe)
  have HBE := Lib.hid hbe
  have HBX := Lib.hid hbx
  have HSZ := Lib.hid hsz
  have hgW : gN < W.heap.size := by omega
  have HW := Lib.hid hW
  have HG := Lib.hid hgo
  have HW1 := Lib.hid hw1
  have HO1 := Lib.hid hO1
  obtain ⟨X0, hX0⟩ : ∃ X : List UInt8, X = [] := ⟨_, rfl⟩
  have HX0 := Lib.hid hX0
  have hL0 : X0.length = 0 := by rw [hX0]; rfl
  clear hW hgo hw1 hsz hbe hbx hO1 hX0
  have HNS1 := Lib.hid ((HNW.out.more (B' := W.heap.size) (by have := HSZ.out; omega)).below HO1.out.be)
  have c0 := HNS1.out.numE 0 (n0) (by omega) rfl
  have c1 := HNS1.out.numE 1 (1) (by omega) rfl
  simp only [Nat.add_zero] at c0
  simp only [Int.natCast_zero, Int.natCast_one] at c1
  rw [HW1.out, HW.out] at c0 c1
  have q0 : bits .and .u64 (n0 : Int) 1 = (n0 : Int) % 2 := by first | exact and64_1 _ (by omega) (by omega)
  have q1 : bits .and .u64 ((n0 : Int) / 256) 1 = (n0 : Int) / 256 % 2 := by first | exact and64_1 _ (by omega) (by omega)
  have r0 : (n0 : Int) % 2 = 1 := by omega
  have r1 : (n0 : Int) / 256 % 2 = 0 := by omega
  go_enter Tryz.func21, Tryz.ntmps21
  go_wp2_with fail
  rw [← HW.out, ← HG.out, ← HW1.out]
  clear c0 c1
  have HNS1 := Lib.hid ((HNW.out.more (B' := W.heap.size) (by have := HSZ.out; omega)).below HO1.out.be)
  refine (HO1.out.put (65283) 2 _ _ (by rfl) rfl (by omega) (by rw [List.length_nil]; omega)).mono ?_
  rintro e w2 ⟨rfl, hO2⟩
  rw [← HX0.out] at hO2
  obtain ⟨X1, hX1⟩ : ∃ X, X = X0 ++ Lib.beBytes 2 (65283) := ⟨_, rfl⟩
  rw [← hX1] at hO2
  have hL1 : X1.length = 2 := by rw [hX1, List.length_append, hL0, Lib.beBytes_length]
  have HO2 := Lib.hid hO2
  have HX1 := Lib.hid hX1
  clear hO2 hX1
  have HNS2 := Lib.hid ((HNW.out.more (B' := W.heap.size) (by have := HSZ.out; omega)).below HO2.out.be)
  have c0 := HNS2.out.numE 0 (n0) (by omega) rfl
  simp only [Nat.add_zero] at c0
  go_wp2_with fail
  refine (HO2.out.put (n0) 2 _ _ (rfl) rfl (by omega) (by omega)).mono ?_
  rintro e w3 ⟨rfl, hO3⟩
  clear c0
  obtain ⟨X2, hX2⟩ : ∃ X, X = X1 ++ Lib.beBytes 2 (n0) := ⟨_, rfl⟩
  rw [← hX2] at hO3
  have hL2 : X2.length = 4 := by rw [hX2, List.length_append, hL1, Lib.beBytes_length]
  have HO3 := Lib.hid hO3
  have HX2 := Lib.hid hX2
  clear hO3 hX2
  obtain ⟨AO, cO, hv2, ho2⟩ := HO3.out.sl
  have v0 := hv2.cell 0
  have p3 := (HBX.out.below HO3.out.be (by have := HSZ.out; omega)).cell 3
  simp only [List.getElem?_cons_zero, List.getElem?_cons_succ] at v0 p3
  have hP2 := (HPW.out.more (B' := W.heap.size) (by have := HSZ.out; omega)).below HO3.out.be
  have hbW := HO3.out.be.size
  have HP2 := Lib.hid hP2
  have HOW2 := Lib.hid ho2
  clear hP2 ho2 hv2
  have hl2 : X2.length ≤ 1000 := by omega
  clear hL2
  generalize hLL : X2.length = L at *
  have HLL := Lib.hid hLL
  clear hLL
  go_wp2_with (at_builtin; refine wpList_append_sl _ rfl (.tmp 620) (.tmp 622) _ rfl W.heap.size 5 i0 _ 1 Tryz.underlying25 hi0 hz0 hz1 hz2 rfl (.slice AO L cO) L (bcs X2) rfl HOW2.out W.heap.size AB pay.length cB (bcs pay) rfl HP2.out bcs_one (by simp only [maxLen]; omega) (by omega) hbW ?_; intro v5 wz ho5 hg5 hv5)
  obtain ⟨A5, c5, hv, hc5, hs5, hn5⟩ := own_form ho5.out
  rw [hv]
  have hb5 : Below W.heap.size w3 wz := (Below.refl _ _).grown hg5 hbW (fun k hk => (HOW2.out.lt k hk).1)
  have hz1' := HSZ.out
  refine hR.out _ _ ⟨A5, L + pay.length, c5, rfl, HBE.out.trans ((HO3.out.be.trans hb5).mono (by omega)), hc5, fun h => by have := hn5 h; omega, ?_⟩
  refine Sl.cast hs5 ?_
  rw [HX2.out, HX1.out, HX0.out, List.nil_append, ← bcs_append]
  rfl
set_option maxRecDepth 1000000 in
set_option maxHeartbeats 10000000 in
theorem sw_ppp_no0 (fix : Bool) (n0 n1 : Nat) (h0 : n0 < 65536) (ho : n0 % 2 = 0) (pay : List UInt8) (hp : pay.length ≤ 300) (v : Value) (w : World) (hv : Lyr w w.heap.size v [n0, n1] [] pay) :
    Calls Tryz.prog 21 #[.string k_ppp, v, .bool fix] w fun e w' => e = .returned (.tuple #[.slice none 0 0, .bool false]) ∧ Below w.heap.size w w' := by
  refine calls_hid fun R hR => ?_
  obtain ⟨i0, hi0, hz0, hz1, hz2⟩ := info_parts info5
  obtain ⟨AN, cN, AD, cD, AP, cP, AB, cB, ds, rfl, hN, hD, hE, hP⟩ := hv
  simp only [List.length_cons, List.length_nil, Nat.zero_add, Nat.reduceAdd] at hN hD ⊢
  have HN := Lib.hid hN
  have HP := Lib.hid hP
  clear hN hD hE hP
  have hmf : ∀ (fn : Fn) (first cap : Array Value) (w : World), (Instr.makeFunc fn first cap).run Tryz.prog w = .ok (.func fn first cap) w := fun _ _ _ _ => rfl
  obtain ⟨gN, oN, rfl, hgN, _⟩ := HN.out.2 (by omega)
  obtain ⟨W, hW⟩ : ∃ W, W = w.alloc (.cells #[.slice (some ⟨gN, oN, none⟩) 2 cN, .slice AD 0 cD, .slice AP 0 cP, .slice AB pay.length cB] 27) := ⟨_, rfl⟩
  obtain ⟨go, hgo⟩ : ∃ go, go = w.heap.size + 1 + 1 := ⟨_, rfl⟩
  obtain ⟨w1, hw1⟩ : ∃ w1, w1 = (W.alloc (.cells #[] 5)).alloc (.cells #[.slice (some ⟨w.heap.size + 1, 0, none⟩) 0 0] 25) := ⟨_, rfl⟩
  have hsz : W.heap.size = w.heap.size + 1 := by rw [hW]; simp
  have hO1 : Out W w1 go [] := by rw [hw1, hgo, ← hsz]; exact Out.start W _ rfl
  have hbe : Below w.heap.size w W := by rw [hW]; exact (Below.refl _ _).alloc (Nat.le_refl _) _
  have hbx : Bk W w.heap.size 27 [.slice (some ⟨gN, oN, none⟩) 2 cN, .slice AD 0 cD, .slice AP 0 cP, .slice AB pay.length cB] := by rw [hW]; exact Bk.new _ _ _
  have HNW := Lib.hid (HN.out.below hbe)
  have HPW := Lib.hid (HP.out.below hbe)
  have HBE := Lib.hid hbe
  have HBX := Lib.hid hbx
  have HSZ := Lib.hid hsz
  have hgW : gN < W.heap.size := by omega
  have HW := Lib.hid hW
  have HG := Lib.hid hgo
  have HW1 := Lib.hid hw1
  have HO1 := Lib.hid hO1
  obtain ⟨X0, hX0⟩ : ∃ X : List UInt8, X = [] := ⟨_, rfl⟩
  have HX0 := Lib.hid hX0
  have hL0 : X0.length = 0 := by rw [hX0]; rfl
  clear hW hgo hw1 hsz hbe hbx hO1 hX0
  have HNS1 := Lib.hid ((HNW.out.more (B' := W.heap.size) (by have := HSZ.out; omega)).below HO1.out.be)
  have c0 := HNS1.out.numE 0 (n0) (by omega) rfl
  simp only [Nat.add_zero] at c0
  rw [HW1.out, HW.out] at c0
  have q0 : bits .and .u64 (n0 : Int) 1 = (n0 : Int) % 2 := by first | exact and64_1 _ (by omega) (by omega)
  have q1 : bits .and .u64 ((n0 : Int) / 256) 1 = (n0 : Int) / 256 % 2 := by first | exact and64_1 _ (by omega) (by omega)
  have r0 : (n0 : Int) % 2 = 0 := by omega
  go_enter Tryz.func21, Tryz.ntmps21
  go_wp2_with fail
  rw [← HW.out, ← HG.out, ← HW1.out]
  clear c0
  exact hR.out _ _ ⟨rfl, HBE.out.trans ((HO1.out.be).mono (by have := HSZ.out; omega))⟩
set_option maxRecDepth 1000000 in
set_option maxHeartbeats 10000000 in
theorem sw_ppp_no1 (fix : Bool) (n0 n1 : Nat) (h0 : n0 < 65536) (ho : n0 % 2 = 1) (he : n0 / 256 % 2 = 1) (pay : List UInt8) (hp : pay.length ≤ 300) (v : Value) (w : World) (hv : Lyr w w.heap.size v [n0, n1] [] pay) :
    Calls Tryz.prog 21 #[.string k_ppp, v, .bool fix] w fun e w' => e = .returned (.tuple #[.slice none 0 0, .bool false]) ∧ Below w.heap.size w w' := by
  refine calls_hid fun R hR => ?_
  obtain ⟨i0, hi0, hz0, hz1, hz2⟩ := info_parts info5
  obtain ⟨AN, cN, AD, cD, AP, cP, AB, cB, ds, rfl, hN, hD, hE, hP⟩ := hv
  simp only [List.length_cons, List.length_nil, Nat.zero_add, Nat.reduceAdd] at hN hD ⊢
  have HN := Lib.hid hN
  have HP := Lib.hid hP
  clear hN hD hE hP
  have hmf : ∀ (fn : Fn) (first cap : Array Value) (w : World), (Instr.makeFunc fn first cap).run Tryz.prog w = .ok (.func fn first cap) w := fun _ _ _ _ => rfl
  obtain ⟨gN, oN, rfl, hgN, _⟩ := HN.out.2 (by omega)
  obtain ⟨W, hW⟩ : ∃ W, W = w.alloc (.cells #[.slice (some ⟨gN, oN, none⟩) 2 cN, .slice AD 0 cD, .slice AP 0 cP, .slice AB pay.length cB] 27) := ⟨_, rfl⟩
  obtain ⟨go, hgo⟩ : ∃ go, go = w.heap.size + 1 + 1 := ⟨_, rfl⟩
  obtain ⟨w1, hw1⟩ : ∃ w1, w1 = (W.alloc (.cells #[] 5)).alloc (.cells #[.slice (some ⟨w.heap.size + 1, 0, none⟩) 0 0] 25) := ⟨_, rfl⟩
  have hsz : W.heap.size = w.heap.size + 1 := by rw [hW]; simp
  have hO1 : Out W w1 go [] := by rw [hw1, hgo, ← hsz]; exact Out.start W _ rfl
  have hbe : Below w.heap.size w W := by rw [hW]; exact (Below.refl _ _).alloc (Nat.le_refl _) _
  have hbx : Bk W w.heap.size 27 [.slice (some ⟨gN, oN, none⟩) 2 cN, .slice AD 0 cD, .slice AP 0 cP, .slice AB pay.length cB] := by rw [hW]; exact Bk.new _ _ _
  have HNW := Lib.hid (HN.out.below hbe)
  have HPW := Lib.hid (HP.out.below hbe)
  have HBE := Lib.hid hbe
  have HBX := Lib.hid hbx
  have HSZ := Lib.hid hsz
  have hgW : gN < W.heap.size := by omega
  have HW := Lib.hid hW
  have HG := Lib.hid hgo
  have HW1 := Lib.hid hw1
  have HO1 := Lib.hid hO1
  obtain ⟨X0, hX0⟩ : ∃ X : List UInt8, X = [] := ⟨_, rfl⟩
  have HX0 := Lib.hid hX0
  have hL0 : X0.length = 0 := by rw [hX0]; rfl
  clear hW hgo hw1 hsz hbe hbx hO1 hX0
  have HNS1 := Lib.hid ((HNW.out.more (B' := W.heap.size) (by have := HSZ.out; omega)).below HO1.out.be)
  have c0 := HNS1.out.numE 0 (n0) (by omega) rfl
  simp only [Nat.add_zero] at c0
  rw [HW1.out, HW.out] at c0
  have q0 : bits .and .u64 (n0 : Int) 1 = (n0 : Int) % 2 := by first | exact and64_1 _ (by omega) (by omega)
  have q1 : bits .and .u64 ((n0 : Int) / 256) 1 = (n0 : Int) / 256 % 2 := by first | exact and64_1 _ (by omega) (by omega)
  have r0 : (n0 : Int) % 2 = 1 := by omega
  have r1 : (n0 : Int) / 256 % 2 = 1 := by omega
  go_enter Tryz.func21, Tryz.ntmps21
  go_wp2_with fail
  rw [← HW.out, ← HG.out, ← HW1.out]
  clear c0
  exact hR.out _ _ ⟨rfl, HBE.out.trans ((HO1.out.be).mono (by have := HSZ.out; omega))⟩
def outPpp (nums : List Nat) (_ : List (List UInt8)) (pay : List UInt8) : List UInt8 := pppHdr (nums.getD 0 0) (nums.getD 1 0) ++ pay
theorem swrite_ppp (fix : Bool) : SWrite k_ppp fix [16, 1] [] (fun nums _ _ => (nums.getD 0 0) % 2 = 1 ∧ (nums.getD 0 0) / 256 % 2 = 0) outPpp := by
  intro nums data pay v w hf hv
  have hn := hf.nN
  have hd := hf.nD
  match nums, hn, data, hd with
  | [n0, n1], _, [], _ =>
  have h0 : n0 < 65536 := hf.num 0 (by decide)
  have h1 : n1 < 2 := hf.num 1 (by decide)
  have hp := hf.pay
  clear hf
  rcases (show n0 % 2 = 0 ∨ n0 % 2 = 1 by omega) with ho | ho
  · refine (sw_ppp_no0 fix n0 n1 h0 ho pay hp v w hv).mono ?_
    rintro e w' ⟨rfl, hb⟩
    exact ⟨none, 0, 0, false, rfl, hb, fun h => by cases h⟩
  rcases (show n0 / 256 % 2 = 1 ∨ n0 / 256 % 2 = 0 by omega) with he | he
  · refine (sw_ppp_no1 fix n0 n1 h0 ho he pay hp v w hv).mono ?_
    rintro e w' ⟨rfl, hb⟩
    exact ⟨none, 0, 0, false, rfl, hb, fun h => by cases h⟩
  rcases (show n1 = 0 ∨ n1 = 1 by omega) with rfl | rfl
  · refine (sw_ppp0 fix n0 h0 ho he pay hp v w hv).mono ?_
    rintro e w' ⟨A, n, c, rfl, hb, h1, h2, h3⟩
    exact ⟨A, n, c, true, rfl, hb, fun _ => ⟨⟨ho, he⟩, h1, h2, h3⟩⟩
  · refine (sw_ppp1 fix n0 h0 ho he pay hp v w hv).mono ?_
    rintro e w' ⟨A, n, c, rfl, hb, h1, h2, h3⟩
    exact ⟨A, n, c, true, rfl, hb, fun _ => ⟨⟨ho, he⟩, h1, h2, h3⟩⟩
end Go.Proofs.YtphmklgbbpiafaaGreat
