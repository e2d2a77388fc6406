/-
  EAP: what the reference writes. No condition.
-/
import Derived.Test.YtphmklgbbpiafaaGreatOutA
import Derived.Test.YtphmklgbbpiafaaGreatOutB
import Derived.Test.YtphmklgbbpiafaaGreatCutB
import Derived.Deep.Cut
import Derived.Test.YtphmklgbbpiafaaGreatEapA
namespace Go.Proofs.YtphmklgbbpiafaaGreat
open Go Go.RowKit
set_option linter.unusedVariables false
set_option linter.unusedSimpArgs false
attribute [local go_sem] sd_drewN ad_drewN
set_option maxRecDepth 1000000 in
set_option maxHeartbeats 10000000 in
theorem sw_eap (n0 n1 n2 n3 : Nat) (d0 : List UInt8) (h0 : n0 < 256) (h1 : n1 < 256) (h2 : n2 < 65536) (h3 : n3 < 256) (hd : d0.length ≤ 300) (hd0 : 0 < d0.length) (hn : n2 = 5 + d0.length) (pay : List UInt8) (hp : pay.length ≤ 300) (hpz : pay.length = 0) (v : Value) (w : World) (hv : Lyr w w.heap.size v [n0, n1, n2, n3] [d0] pay) :
    Calls Tryz.prog 21 #[.string k_eap, v, .bool false] w fun e w' => ∃ A n c, e = .returned (.tuple #[.slice A n c, .bool true]) ∧ Below w.heap.size w w' ∧ n ≤ c ∧ (A = none → n = 0) ∧ Sl w' w'.heap.size A n (bcs (eapHdr n0 n1 n2 n3 d0 ++ pay)) := by
  refine calls_hid fun R hR => ?_
  obtain ⟨i0, hi0, hz0, hz1, hz2⟩ := info_parts info5
  obtain ⟨AN, cN, AD, cD, AP, cP, AB, cB, ds, rfl, hN, hD, hE, hP⟩ := hv
  obtain ⟨A0, q0, hq0, hs0⟩ := hE.2 0 d0 rfl
  simp only [List.length_cons, List.length_nil, Nat.zero_add, Nat.reduceAdd] at hN hD ⊢
  obtain ⟨gD, oD, rfl, hgD, hcD⟩ := hD.2 (by omega)
  have HE0 := Lib.hid (hcD 0 _ hq0)
  have HSD0 := Lib.hid hs0
  have HN := Lib.hid hN
  have HP := Lib.hid hP
  clear hN hD hE hP hq0 hs0 hcD
  have hmf : ∀ (fn : Fn) (first cap : Array Value) (w : World), (Instr.makeFunc fn first cap).run Tryz.prog w = .ok (.func fn first cap) w := fun _ _ _ _ => rfl
  obtain ⟨gN, oN, rfl, hgN, _⟩ := HN.out.2 (by omega)
  obtain ⟨W, hW⟩ : ∃ W, W = w.alloc (.cells #[.slice (some ⟨gN, oN, none⟩) 4 cN, .slice (some ⟨gD, oD, none⟩) 1 cD, .slice AP 0 cP, .slice AB pay.length cB] 27) := ⟨_, rfl⟩
  obtain ⟨go, hgo⟩ : ∃ go, go = w.heap.size + 1 + 1 := ⟨_, rfl⟩
  obtain ⟨w1, hw1⟩ : ∃ w1, w1 = (W.alloc (.cells #[] 5)).alloc (.cells #[.slice (some ⟨w.heap.size + 1, 0, none⟩) 0 0] 25) := ⟨_, rfl⟩
  have hsz : W.heap.size = w.heap.size + 1 := by rw [hW]; simp
  have hO1 : Out W w1 go [] := by rw [hw1, hgo, ← hsz]; exact Out.start W _ rfl
  have hbe : Below w.heap.size w W := by rw [hW]; exact (Below.refl _ _).alloc (Nat.le_refl _) _
  have hbx : Bk W w.heap.size 27 [.slice (some ⟨gN, oN, none⟩) 4 cN, .slice (some ⟨gD, oD, none⟩) 1 cD, .slice AP 0 cP, .slice AB pay.length cB] := by rw [hW]; exact Bk.new _ _ _
  have HNW := Lib.hid (HN.out.below hbe)
  have HPW := Lib.hid (HP.out.below hbe)
  have HBE := Lib.hid hbe
  have HBX := Lib.hid hbx
  have HSZ := Lib.hid hsz
  have hgW : gN < W.heap.size := by omega
  have HW := Lib.hid hW
  have HG := Lib.hid hgo
  have HW1 := Lib.hid hw1
  have HO1 := Lib.hid hO1
  obtain ⟨X0, hX0⟩ : ∃ X : List UInt8, X = [] := ⟨_, rfl⟩
  have HX0 := Lib.hid hX0
  have hL0 : X0.length = 0 := by rw [hX0]; rfl
  clear hW hgo hw1 hsz hbe hbx hO1 hX0
  have s5 : IntKind.i64.wrap (5 + (d0.length : Int)) = 5 + (d0.length : Int) := IntWalk.i64_in _ (by omega)
  have s6 : IntKind.u64.wrap (5 + (d0.length : Int)) = 5 + (d0.length : Int) := IntWalk.u64_in _ (by omega)
  have t1 : ((d0.length : Int) == 0) = false := by first | (rw [beq_eq_false_iff_ne]; omega) | (rw [beq_iff_eq]; omega)
  have t2 : ((n2 : Int) != 5 + (d0.length : Int)) = false := by first | (rw [bne_iff_ne]; omega) | (rw [bne_eq_false_iff_eq]; omega)
  have t3 : decide (0 < pay.length) = false := by first | (rw [decide_eq_false_iff_not]; omega) | (rw [decide_eq_true_eq]; omega)
  have HNN := Lib.hid hn
  have HP0 := Lib.hid hpz
  clear hn hpz
  go_enter Tryz.func21, Tryz.ntmps21
  go_wp2_with fail
  rw [← HW.out, ← HG.out, ← HW1.out]
  have hbw1 : Below w.heap.size w w1 := HBE.out.trans (HO1.out.be.mono (by have := HSZ.out; omega))
  have bx1 := (HBX.out.below HO1.out.be (by have := HSZ.out; omega)).cell 1
  have bx3 := (HBX.out.below HO1.out.be (by have := HSZ.out; omega)).cell 3
  simp only [List.getElem?_cons_zero, List.getElem?_cons_succ] at bx1 bx3
  have e0 := (low_below (g := gD) (i := oD + 0) hbw1 hgD).trans HE0.out
  simp only [Nat.add_zero] at e0
  have HNS1 := Lib.hid ((HNW.out.more (B' := W.heap.size) (by have := HSZ.out; omega)).below HO1.out.be)
  have c2 := HNS1.out.numE 2 (n2) (by omega) rfl
  go_quiet (fail)
  clear c2 e0 bx1 bx3 hbw1
  have hOq := HO1.out.drewN nq
  obtain ⟨w1, hwq⟩ : ∃ w', w' = w1.drewN nq := ⟨_, rfl⟩
  rw [← hwq] at hOq
  rw [← hwq]
  have HO1 := Lib.hid hOq
  clear hwq hOq
  have HNS1 := Lib.hid ((HNW.out.more (B' := W.heap.size) (by have := HSZ.out; omega)).below HO1.out.be)
  have c0 := HNS1.out.numE 0 (n0) (by omega) rfl
  simp only [Nat.add_zero] at c0
  go_wp2_with fail
  refine (HO1.out.put (n0) 1 _ _ (rfl) rfl (by omega) (by rw [List.length_nil]; omega)).mono ?_
  rintro e w2 ⟨rfl, hO2⟩
  rw [← HX0.out] at hO2
  clear c0
  obtain ⟨X1, hX1⟩ : ∃ X, X = X0 ++ Lib.beBytes 1 (n0) := ⟨_, rfl⟩
  rw [← hX1] at hO2
  have hL1 : X1.length = 1 := by rw [hX1, List.length_append, hL0, Lib.beBytes_length]
  have HO2 := Lib.hid hO2
  have HX1 := Lib.hid hX1
  clear hO2 hX1
  have HNS2 := Lib.hid ((HNW.out.more (B' := W.heap.size) (by have := HSZ.out; omega)).below HO2.out.be)
  have c1 := HNS2.out.numE 1 (n1) (by omega) rfl
  go_wp2_with fail
  refine (HO2.out.put (n1) 1 _ _ (rfl) rfl (by omega) (by omega)).mono ?_
  rintro e w3 ⟨rfl, hO3⟩
  clear c1
  obtain ⟨X2, hX2⟩ : ∃ X, X = X1 ++ Lib.beBytes 1 (n1) := ⟨_, rfl⟩
  rw [← hX2] at hO3
  have hL2 : X2.length = 2 := by rw [hX2, List.length_append, hL1, Lib.beBytes_length]
  have HO3 := Lib.hid hO3
  have HX2 := Lib.hid hX2
  clear hO3 hX2
  have HNS3 := Lib.hid ((HNW.out.more (B' := W.heap.size) (by have := HSZ.out; omega)).below HO3.out.be)
  have c2 := HNS3.out.numE 2 (n2) (by omega) rfl
  go_wp2_with fail
  refine (HO3.out.put (n2) 2 _ _ (rfl) rfl (by omega) (by omega)).mono ?_
  rintro e w4 ⟨rfl, hO4⟩
  clear c2
  obtain ⟨X3, hX3⟩ : ∃ X, X = X2 ++ Lib.beBytes 2 (n2) := ⟨_, rfl⟩
  rw [← hX3] at hO4
  have hL3 : X3.length = 4 := by rw [hX3, List.length_append, hL2, Lib.beBytes_length]
  have HO4 := Lib.hid hO4
  have HX3 := Lib.hid hX3
  clear hO4 hX3
  have HNS4 := Lib.hid ((HNW.out.more (B' := W.heap.size) (by have := HSZ.out; omega)).below HO4.out.be)
  have c3 := HNS4.out.numE 3 (n3) (by omega) rfl
  go_wp2_with fail
  refine (HO4.out.put (n3) 1 _ _ (rfl) rfl (by omega) (by omega)).mono ?_
  rintro e w5 ⟨rfl, hO5⟩
  clear c3
  obtain ⟨X4, hX4⟩ : ∃ X, X = X3 ++ Lib.beBytes 1 (n3) := ⟨_, rfl⟩
  rw [← hX4] at hO5
  have hL4 : X4.length = 5 := by rw [hX4, List.length_append, hL3, Lib.beBytes_length]
  have HO5 := Lib.hid hO5
  have HX4 := Lib.hid hX4
  clear hO5 hX4
  have hbw5 : Below w.heap.size w w5 := HBE.out.trans (HO5.out.be.mono (by have := HSZ.out; omega))
  obtain ⟨AO, cO, hv1, ho1⟩ := HO5.out.sl
  have v0 := hv1.cell 0
  have bx1 := (HBX.out.below HO5.out.be (by have := HSZ.out; omega)).cell 1
  simp only [List.getElem?_cons_zero, List.getElem?_cons_succ] at v0 bx1
  have e0 := (low_below (g := gD) (i := oD + 0) hbw5 hgD).trans HE0.out
  simp only [Nat.add_zero] at e0
  have hneo : ∀ k, (Value.slice AO X4.length cO).ownBlock = some k → k ≠ go := fun k hk e => own_blk_ne ho1 hv1 (by decide) (by rw [hk, e])
  skip
  have hlx : X4.length ≤ 5000 := by omega
  have HLX := Lib.hid hL4
  clear hL4
  generalize hLL5 : X4.length = L5 at *
  have HLL5 := Lib.hid hLL5
  have HOB := Lib.hid (own_below ho1 (Below.refl _ w5).drew)
  have HCB := Lib.hid hv1.drew
  have HSN := Lib.hid ((HSD0.out.below hbw5).below (Below.refl _ _).drew)
  have HNEO := Lib.hid hneo
  have hbW5 := HO5.out.be.size
  clear hbw5 hv1 ho1 hneo hLL5
  go_wp2_with fail
  refine wp_region_tail 5 (by kernel_rfl) (by kernel_rfl) ?_
  simp only [List.take_succ_cons, List.take_zero, List.drop_succ_cons, List.drop_zero]
  repeat still_step
  refine wpStill_nil ?_
  go_upto_region 108 with (at_builtin; refine wpList_append_sl _ rfl (.tmp 357) (.tmp 361) _ rfl W.heap.size 5 i0 _ 1 Tryz.underlying25 hi0 hz0 hz1 hz2 rfl (.slice AO L5 cO) L5 (bcs X4) rfl HOB.out w.heap.size A0 d0.length q0 (bcs d0) rfl HSN.out bcs_one (by simp only [maxLen]; omega) (by omega) (by simpa using hbW5) ?_; intro v5 wz ho5 hg5 hv5; obtain ⟨A5, c5, hv, hc5, hs5, hn5⟩ := own_form ho5.out; rw [hv]; have hk2 := HCB.out.grown hg5 (fun e => HNEO.out _ e.symm rfl); have c0 := hk2.cell 0; have f0 := hk2.frozen 0; simp only [List.getElem?_cons_zero] at c0)
  have hb5 : Below W.heap.size W wz := HO5.out.be.trans (((Below.refl _ w5).drew).trans ((Below.refl _ _).grown hg5 (by simpa using hbW5) (fun k hk => (HOB.out.lt k hk).1)))
  have hO6 := out_appended (ys := X4 ++ d0) hk2 ho5.out (by rw [List.length_append, HLL5.out]) (by rw [bcs_append]) hb5 HO5.out.hg
  rw [hv] at hO6
  obtain ⟨w6, hw6⟩ : ∃ w', w' = wz.setCell ⟨go, 0, none⟩ (.slice A5 (L5 + d0.length) c5) := ⟨_, rfl⟩
  rw [← hw6] at hO6
  rw [← hw6]
  have hL4 : X4.length = L5 := HLL5.out
  obtain ⟨X5, hX5⟩ : ∃ X, X = X4 ++ d0 := ⟨_, rfl⟩
  rw [← hX5] at hO6
  have hL5 : X5.length = 5 + d0.length := by have := HLX.out; rw [hX5, List.length_append, hL4]; omega
  have HO6 := Lib.hid hO6
  have HX5 := Lib.hid hX5
  clear hO6 hX5 hw6 hk2 ho5 hg5 hv5 hv hs5 hc5 hn5 c0 f0 hb5 v0 bx1 e0 hL4 hlx
  obtain ⟨AO, cO, hv2, ho2⟩ := HO6.out.sl
  have v0 := hv2.cell 0
  have p3 := (HBX.out.below HO6.out.be (by have := HSZ.out; omega)).cell 3
  simp only [List.getElem?_cons_zero, List.getElem?_cons_succ] at v0 p3
  have hP2 := (HPW.out.more (B' := W.heap.size) (by have := HSZ.out; omega)).below HO6.out.be
  have hbW := HO6.out.be.size
  have HP2 := Lib.hid hP2
  have HOW2 := Lib.hid ho2
  clear hP2 ho2 hv2
  have hl2 : X5.length ≤ 1000 := by omega
  clear hL5
  generalize hLL : X5.length = L at *
  have HLL := Lib.hid hLL
  clear hLL
  go_wp2_with (at_builtin; refine wpList_append_sl _ rfl (.tmp 620) (.tmp 622) _ rfl W.heap.size 5 i0 _ 1 Tryz.underlying25 hi0 hz0 hz1 hz2 rfl (.slice AO L cO) L (bcs X5) rfl HOW2.out W.heap.size AB pay.length cB (bcs pay) rfl HP2.out bcs_one (by simp only [maxLen]; omega) (by omega) hbW ?_; intro v5 wz ho5 hg5 hv5)
  obtain ⟨A5, c5, hv, hc5, hs5, hn5⟩ := own_form ho5.out
  rw [hv]
  have hb5 : Below W.heap.size w6 wz := (Below.refl _ _).grown hg5 hbW (fun k hk => (HOW2.out.lt k hk).1)
  have hz1' := HSZ.out
  refine hR.out _ _ ⟨A5, L + pay.length, c5, rfl, HBE.out.trans ((HO6.out.be.trans hb5).mono (by omega)), hc5, fun h => by have := hn5 h; omega, ?_⟩
  refine Sl.cast hs5 ?_
  rw [HX5.out, HX4.out, HX3.out, HX2.out, HX1.out, HX0.out, List.nil_append, ← bcs_append]
  rfl
set_option maxRecDepth 1000000 in
set_option maxHeartbeats 10000000 in
theorem sw_eap_no1 (n0 n1 n2 n3 : Nat) (d0 : List UInt8) (h0 : n0 < 256) (h1 : n1 < 256) (h2 : n2 < 65536) (h3 : n3 < 256) (hd : d0.length ≤ 300) (pay : List UInt8) (hp : pay.length ≤ 300) (v : Value) (w : World) (hv : Lyr w w.heap.size v [n0, n1, n2, n3] [d0] pay) :
    Calls Tryz.prog 21 #[.string k_eap, v, .bool true] w fun e w' => e = .returned (.tuple #[.slice none 0 0, .bool false]) ∧ Below w.heap.size w w' := by
  refine calls_hid fun R hR => ?_
  obtain ⟨i0, hi0, hz0, hz1, hz2⟩ := info_parts info5
  obtain ⟨AN, cN, AD, cD, AP, cP, AB, cB, ds, rfl, hN, hD, hE, hP⟩ := hv
  obtain ⟨A0, q0, hq0, hs0⟩ := hE.2 0 d0 rfl
  simp only [List.length_cons, List.length_nil, Nat.zero_add, Nat.reduceAdd] at hN hD ⊢
  obtain ⟨gD, oD, rfl, hgD, hcD⟩ := hD.2 (by omega)
  have HE0 := Lib.hid (hcD 0 _ hq0)
  have HSD0 := Lib.hid hs0
  have HN := Lib.hid hN
  have HP := Lib.hid hP
  clear hN hD hE hP hq0 hs0 hcD
  have hmf : ∀ (fn : Fn) (first cap : Array Value) (w : World), (Instr.makeFunc fn first cap).run Tryz.prog w = .ok (.func fn first cap) w := fun _ _ _ _ => rfl
  obtain ⟨gN, oN, rfl, hgN, _⟩ := HN.out.2 (by omega)
  obtain ⟨W, hW⟩ : ∃ W, W = w.alloc (.cells #[.slice (some ⟨gN, oN, none⟩) 4 cN, .slice (some ⟨gD, oD, none⟩) 1 cD, .slice AP 0 cP, .slice AB pay.length cB] 27) := ⟨_, rfl⟩
  obtain ⟨go, hgo⟩ : ∃ go, go = w.heap.size + 1 + 1 := ⟨_, rfl⟩
  obtain ⟨w1, hw1⟩ : ∃ w1, w1 = (W.alloc (.cells #[] 5)).alloc (.cells #[.slice (some ⟨w.heap.size + 1, 0, none⟩) 0 0] 25) := ⟨_, rfl⟩
  have hsz : W.heap.size = w.heap.size + 1 := by rw [hW]; simp
  have hO1 : Out W w1 go [] := by rw [hw1, hgo, ← hsz]; exact Out.start W _ rfl
  have hbe : Below w.heap.size w W := by rw [hW]; exact (Below.refl _ _).alloc (Nat.le_refl _) _
  have hbx : Bk W w.heap.size 27 [.slice (some ⟨gN, oN, none⟩) 4 cN, .slice (some ⟨gD, oD, none⟩) 1 cD, .slice AP 0 cP, .slice AB pay.length cB] := by rw [hW]; exact Bk.new _ _ _
  have HNW := Lib.hid (HN.out.below hbe)
  have HPW := Lib.hid (HP.out.below hbe)
  have HBE := Lib.hid hbe
  have HBX := Lib.hid hbx
  have HSZ := Lib.hid hsz
  have hgW : gN < W.heap.size := by omega
  have HW := Lib.hid hW
  have HG := Lib.hid hgo
  have HW1 := Lib.hid hw1
  have HO1 := Lib.hid hO1
  obtain ⟨X0, hX0⟩ : ∃ X : List UInt8, X = [] := ⟨_, rfl⟩
  have HX0 := Lib.hid hX0
  have hL0 : X0.length = 0 := by rw [hX0]; rfl
  clear hW hgo hw1 hsz hbe hbx hO1 hX0
  go_enter Tryz.func21, Tryz.ntmps21
  go_wp2_with fail
  rw [← HW.out, ← HG.out, ← HW1.out]
  have hbw1 : Below w.heap.size w w1 := HBE.out.trans (HO1.out.be.mono (by have := HSZ.out; omega))
  have bx1 := (HBX.out.below HO1.out.be (by have := HSZ.out; omega)).cell 1
  have bx3 := (HBX.out.below HO1.out.be (by have := HSZ.out; omega)).cell 3
  simp only [List.getElem?_cons_zero, List.getElem?_cons_succ] at bx1 bx3
  have e0 := (low_below (g := gD) (i := oD + 0) hbw1 hgD).trans HE0.out
  simp only [Nat.add_zero] at e0
  have HNS1 := Lib.hid ((HNW.out.more (B' := W.heap.size) (by have := HSZ.out; omega)).below HO1.out.be)
  have c2 := HNS1.out.numE 2 (n2) (by omega) rfl
  go_quiet (fail)
  clear c2 e0 bx1 bx3 hbw1
  have hOq := HO1.out.drewN nq
  obtain ⟨w1, hwq⟩ : ∃ w', w' = w1.drewN nq := ⟨_, rfl⟩
  rw [← hwq] at hOq
  rw [← hwq]
  have HO1 := Lib.hid hOq
  clear hwq hOq
  go_wp2_with fail
  exact hR.out _ _ ⟨rfl, HBE.out.trans ((HO1.out.be).mono (by have := HSZ.out; omega))⟩
set_option maxRecDepth 1000000 in
set_option maxHeartbeats 10000000 in
theorem sw_eap_no2 (n0 n1 n2 n3 : Nat) (d0 : List UInt8) (h0 : n0 < 256) (h1 : n1 < 256) (h2 : n2 < 65536) (h3 : n3 < 256) (hd : d0.length ≤ 300) (hd0 : d0.length = 0) (pay : List UInt8) (hp : pay.length ≤ 300) (v : Value) (w : World) (hv : Lyr w w.heap.size v [n0, n1, n2, n3] [d0] pay) :
    Calls Tryz.prog 21 #[.string k_eap, v, .bool false] w fun e w' => e = .returned (.tuple #[.slice none 0 0, .bool false]) ∧ Below w.heap.size w w' := by
  refine calls_hid fun R hR => ?_
  obtain ⟨i0, hi0, hz0, hz1, hz2⟩ := info_parts info5
  obtain ⟨AN, cN, AD, cD, AP, cP, AB, cB, ds, rfl, hN, hD, hE, hP⟩ := hv
  obtain ⟨A0, q0, hq0, hs0⟩ := hE.2 0 d0 rfl
  simp only [List.length_cons, List.length_nil, Nat.zero_add, Nat.reduceAdd] at hN hD ⊢
  obtain ⟨gD, oD, rfl, hgD, hcD⟩ := hD.2 (by omega)
  have HE0 := Lib.hid (hcD 0 _ hq0)
  have HSD0 := Lib.hid hs0
  have HN := Lib.hid hN
  have HP := Lib.hid hP
  clear hN hD hE hP hq0 hs0 hcD
  have hmf : ∀ (fn : Fn) (first cap : Array Value) (w : World), (Instr.makeFunc fn first cap).run Tryz.prog w = .ok (.func fn first cap) w := fun _ _ _ _ => rfl
  obtain ⟨gN, oN, rfl, hgN, _⟩ := HN.out.2 (by omega)
  obtain ⟨W, hW⟩ : ∃ W, W = w.alloc (.cells #[.slice (some ⟨gN, oN, none⟩) 4 cN, .slice (some ⟨gD, oD, none⟩) 1 cD, .slice AP 0 cP, .slice AB pay.length cB] 27) := ⟨_, rfl⟩
  obtain ⟨go, hgo⟩ : ∃ go, go = w.heap.size + 1 + 1 := ⟨_, rfl⟩
  obtain ⟨w1, hw1⟩ : ∃ w1, w1 = (W.alloc (.cells #[] 5)).alloc (.cells #[.slice (some ⟨w.heap.size + 1, 0, none⟩) 0 0] 25) := ⟨_, rfl⟩
  have hsz : W.heap.size = w.heap.size + 1 := by rw [hW]; simp
  have hO1 : Out W w1 go [] := by rw [hw1, hgo, ← hsz]; exact Out.start W _ rfl
  have hbe : Below w.heap.size w W := by rw [hW]; exact (Below.refl _ _).alloc (Nat.le_refl _) _
  have hbx : Bk W w.heap.size 27 [.slice (some ⟨gN, oN, none⟩) 4 cN, .slice (some ⟨gD, oD, none⟩) 1 cD, .slice AP 0 cP, .slice AB pay.length cB] := by rw [hW]; exact Bk.new _ _ _
  have HNW := Lib.hid (HN.out.below hbe)
  have HPW := Lib.hid (HP.out.below hbe)
  have HBE := Lib.hid hbe
  have HBX := Lib.hid hbx
  have HSZ := Lib.hid hsz
  have hgW : gN < W.heap.size := by omega
  have HW := Lib.hid hW
  have HG := Lib.hid hgo
  have HW1 := Lib.hid hw1
  have HO1 := Lib.hid hO1
  obtain ⟨X0, hX0⟩ : ∃ X : List UInt8, X = [] := ⟨_, rfl⟩
  have HX0 := Lib.hid hX0
  have hL0 : X0.length = 0 := by rw [hX0]; rfl
  clear hW hgo hw1 hsz hbe hbx hO1 hX0
  have s5 : IntKind.i64.wrap (5 + (d0.length : Int)) = 5 + (d0.length : Int) := IntWalk.i64_in _ (by omega)
  have s6 : IntKind.u64.wrap (5 + (d0.length : Int)) = 5 + (d0.length : Int) := IntWalk.u64_in _ (by omega)
  have t1 : ((d0.length : Int) == 0) = true := by first | (rw [beq_eq_false_iff_ne]; omega) | (rw [beq_iff_eq]; omega)
  have HD0 := Lib.hid hd0
  clear hd0
  go_enter Tryz.func21, Tryz.ntmps21
  go_wp2_with fail
  rw [← HW.out, ← HG.out, ← HW1.out]
  have hbw1 : Below w.heap.size w w1 := HBE.out.trans (HO1.out.be.mono (by have := HSZ.out; omega))
  have bx1 := (HBX.out.below HO1.out.be (by have := HSZ.out; omega)).cell 1
  have bx3 := (HBX.out.below HO1.out.be (by have := HSZ.out; omega)).cell 3
  simp only [List.getElem?_cons_zero, List.getElem?_cons_succ] at bx1 bx3
  have e0 := (low_below (g := gD) (i := oD + 0) hbw1 hgD).trans HE0.out
  simp only [Nat.add_zero] at e0
  have HNS1 := Lib.hid ((HNW.out.more (B' := W.heap.size) (by have := HSZ.out; omega)).below HO1.out.be)
  have c2 := HNS1.out.numE 2 (n2) (by omega) rfl
  go_quiet (fail)
  clear c2 e0 bx1 bx3 hbw1
  have hOq := HO1.out.drewN nq
  obtain ⟨w1, hwq⟩ : ∃ w', w' = w1.drewN nq := ⟨_, rfl⟩
  rw [← hwq] at hOq
  rw [← hwq]
  have HO1 := Lib.hid hOq
  clear hwq hOq
  go_wp2_with fail
  exact hR.out _ _ ⟨rfl, HBE.out.trans ((HO1.out.be).mono (by have := HSZ.out; omega))⟩
set_option maxRecDepth 1000000 in
set_option maxHeartbeats 10000000 in
theorem sw_eap_no3 (n0 n1 n2 n3 : Nat) (d0 : List UInt8) (h0 : n0 < 256) (h1 : n1 < 256) (h2 : n2 < 65536) (h3 : n3 < 256) (hd : d0.length ≤ 300) (hd0 : 0 < d0.length) (hn : n2 ≠ 5 + d0.length) (pay : List UInt8) (hp : pay.length ≤ 300) (v : Value) (w : World) (hv : Lyr w w.heap.size v [n0, n1, n2, n3] [d0] pay) :
    Calls Tryz.prog 21 #[.string k_eap, v, .bool false] w fun e w' => e = .returned (.tuple #[.slice none 0 0, .bool false]) ∧ Below w.heap.size w w' := by
  refine calls_hid fun R hR => ?_
  obtain ⟨i0, hi0, hz0, hz1, hz2⟩ := info_parts info5
  obtain ⟨AN, cN, AD, cD, AP, cP, AB, cB, ds, rfl, hN, hD, hE, hP⟩ := hv
  obtain ⟨A0, q0, hq0, hs0⟩ := hE.2 0 d0 rfl
  simp only [List.length_cons, List.length_nil, Nat.zero_add, Nat.reduceAdd] at hN hD ⊢
  obtain ⟨gD, oD, rfl, hgD, hcD⟩ := hD.2 (by omega)
  have HE0 := Lib.hid (hcD 0 _ hq0)
  have HSD0 := Lib.hid hs0
  have HN := Lib.hid hN
  have HP := Lib.hid hP
  clear hN hD hE hP hq0 hs0 hcD
  have hmf : ∀ (fn : Fn) (first cap : Array Value) (w : World), (Instr.makeFunc fn first cap).run Tryz.prog w = .ok (.func fn first cap) w := fun _ _ _ _ => rfl
  obtain ⟨gN, oN, rfl, hgN, _⟩ := HN.out.2 (by omega)
  obtain ⟨W, hW⟩ : ∃ W, W = w.alloc (.cells #[.slice (some ⟨gN, oN, none⟩) 4 cN, .slice (some ⟨gD, oD, none⟩) 1 cD, .slice AP 0 cP, .slice AB pay.length cB] 27) := ⟨_, rfl⟩
  obtain ⟨go, hgo⟩ : ∃ go, go = w.heap.size + 1 + 1 := ⟨_, rfl⟩
  obtain ⟨w1, hw1⟩ : ∃ w1, w1 = (W.alloc (.cells #[] 5)).alloc (.cells #[.slice (some ⟨w.heap.size + 1, 0, none⟩) 0 0] 25) := ⟨_, rfl⟩
  have hsz : W.heap.size = w.heap.size + 1 := by rw [hW]; simp
  have hO1 : Out W w1 go [] := by rw [hw1, hgo, ← hsz]; exact Out.start W _ rfl
  have hbe : Below w.heap.size w W := by rw [hW]; exact (Below.refl _ _).alloc (Nat.le_refl _) _
  have hbx : Bk W w.heap.size 27 [.slice (some ⟨gN, oN, none⟩) 4 cN, .slice (some ⟨gD, oD, none⟩) 1 cD, .slice AP 0 cP, .slice AB pay.length cB] := by rw [hW]; exact Bk.new _ _ _
  have HNW := Lib.hid (HN.out.below hbe)
  have HPW := Lib.hid (HP.out.below hbe)
  have HBE := Lib.hid hbe
  have HBX := Lib.hid hbx
  have HSZ := Lib.hid hsz
  have hgW : gN < W.heap.size := by omega
  have HW := Lib.hid hW
  have HG := Lib.hid hgo
  have HW1 := Lib.hid hw1
  have HO1 := Lib.hid hO1
  obtain ⟨X0, hX0⟩ : ∃ X : List UInt8, X = [] := ⟨_, rfl⟩
  have HX0 := Lib.hid hX0
  have hL0 : X0.length = 0 := by rw [hX0]; rfl
  clear hW hgo hw1 hsz hbe hbx hO1 hX0
  have s5 : IntKind.i64.wrap (5 + (d0.length : Int)) = 5 + (d0.length : Int) := IntWalk.i64_in _ (by omega)
  have s6 : IntKind.u64.wrap (5 + (d0.length : Int)) = 5 + (d0.length : Int) := IntWalk.u64_in _ (by omega)
  have t1 : ((d0.length : Int) == 0) = false := by first | (rw [beq_eq_false_iff_ne]; omega) | (rw [beq_iff_eq]; omega)
  have t2 : ((n2 : Int) != 5 + (d0.length : Int)) = true := by first | (rw [bne_iff_ne]; omega) | (rw [bne_eq_false_iff_eq]; omega)
  go_enter Tryz.func21, Tryz.ntmps21
  go_wp2_with fail
  rw [← HW.out, ← HG.out, ← HW1.out]
  have hbw1 : Below w.heap.size w w1 := HBE.out.trans (HO1.out.be.mono (by have := HSZ.out; omega))
  have bx1 := (HBX.out.below HO1.out.be (by have := HSZ.out; omega)).cell 1
  have bx3 := (HBX.out.below HO1.out.be (by have := HSZ.out; omega)).cell 3
  simp only [List.getElem?_cons_zero, List.getElem?_cons_succ] at bx1 bx3
  have e0 := (low_below (g := gD) (i := oD + 0) hbw1 hgD).trans HE0.out
  simp only [Nat.add_zero] at e0
  have HNS1 := Lib.hid ((HNW.out.more (B' := W.heap.size) (by have := HSZ.out; omega)).below HO1.out.be)
  have c2 := HNS1.out.numE 2 (n2) (by omega) rfl
  go_quiet (fail)
  clear c2 e0 bx1 bx3 hbw1
  have hOq := HO1.out.drewN nq
  obtain ⟨w1, hwq⟩ : ∃ w', w' = w1.drewN nq := ⟨_, rfl⟩
  rw [← hwq] at hOq
  rw [← hwq]
  have HO1 := Lib.hid hOq
  clear hwq hOq
  go_wp2_with fail
  exact hR.out _ _ ⟨rfl, HBE.out.trans ((HO1.out.be).mono (by have := HSZ.out; omega))⟩
set_option maxRecDepth 1000000 in
set_option maxHeartbeats 10000000 in
theorem sw_eap_no4 (n0 n1 n2 n3 : Nat) (d0 : List UInt8) (h0 : n0 < 256) (h1 : n1 < 256) (h2 : n2 < 65536) (h3 : n3 < 256) (hd : d0.length ≤ 300) (hd0 : 0 < d0.length) (hn : n2 = 5 + d0.length) (pay : List UInt8) (hp : pay.length ≤ 300) (hpz : 0 < pay.length) (v : Value) (w : World) (hv : Lyr w w.heap.size v [n0, n1, n2, n3] [d0] pay) :
    Calls Tryz.prog 21 #[.string k_eap, v, .bool false] w fun e w' => e = .returned (.tuple #[.slice none 0 0, .bool false]) ∧ Below w.heap.size w w' := by
  refine calls_hid fun R hR => ?_
  obtain ⟨i0, hi0, hz0, hz1, hz2⟩ := info_parts info5
  obtain ⟨AN, cN, AD, cD, AP, cP, AB, cB, ds, rfl, hN, hD, hE, hP⟩ := hv
  obtain ⟨A0, q0, hq0, hs0⟩ := hE.2 0 d0 rfl
  simp only [List.length_cons, List.length_nil, Nat.zero_add, Nat.reduceAdd] at hN hD ⊢
  obtain ⟨gD, oD, rfl, hgD, hcD⟩ := hD.2 (by omega)
  have HE0 := Lib.hid (hcD 0 _ hq0)
  have HSD0 := Lib.hid hs0
  have HN := Lib.hid hN
  have HP := Lib.hid hP
  clear hN hD hE hP hq0 hs0 hcD
  have hmf : ∀ (fn : Fn) (first cap : Array Value) (w : World), (Instr.makeFunc fn first cap).run Tryz.prog w = .ok (.func fn first cap) w := fun _ _ _ _ => rfl
  obtain ⟨gN, oN, rfl, hgN, _⟩ := HN.out.2 (by omega)
  obtain ⟨W, hW⟩ : ∃ W, W = w.alloc (.cells #[.slice (some ⟨gN, oN, none⟩) 4 cN, .slice (some ⟨gD, oD, none⟩) 1 cD, .slice AP 0 cP, .slice AB pay.length cB] 27) := ⟨_, rfl⟩
  obtain ⟨go, hgo⟩ : ∃ go, go = w.heap.size + 1 + 1 := ⟨_, rfl⟩
  obtain ⟨w1, hw1⟩ : ∃ w1, w1 = (W.alloc (.cells #[] 5)).alloc (.cells #[.slice (some ⟨w.heap.size + 1, 0, none⟩) 0 0] 25) := ⟨_, rfl⟩
  have hsz : W.heap.size = w.heap.size + 1 := by rw [hW]; simp
  have hO1 : Out W w1 go [] := by rw [hw1, hgo, ← hsz]; exact Out.start W _ rfl
  have hbe : Below w.heap.size w W := by rw [hW]; exact (Below.refl _ _).alloc (Nat.le_refl _) _
  have hbx : Bk W w.heap.size 27 [.slice (some ⟨gN, oN, none⟩) 4 cN, .slice (some ⟨gD, oD, none⟩) 1 cD, .slice AP 0 cP, .slice AB pay.length cB] := by rw [hW]; exact Bk.new _ _ _
  have HNW := Lib.hid (HN.out.below hbe)
  have HPW := Lib.hid (HP.out.below hbe)
  have HBE := Lib.hid hbe
  have HBX := Lib.hid hbx
  have HSZ := Lib.hid hsz
  have hgW : gN < W.heap.size := by omega
  have HW := Lib.hid hW
  have HG := Lib.hid hgo
  have HW1 := Lib.hid hw1
  have HO1 := Lib.hid hO1
  obtain ⟨X0, hX0⟩ : ∃ X : List UInt8, X = [] := ⟨_, rfl⟩
  have HX0 := Lib.hid hX0
  have hL0 : X0.length = 0 := by rw [hX0]; rfl
  clear hW hgo hw1 hsz hbe hbx hO1 hX0
  have s5 : IntKind.i64.wrap (5 + (d0.length : Int)) = 5 + (d0.length : Int) := IntWalk.i64_in _ (by omega)
  have s6 : IntKind.u64.wrap (5 + (d0.length : Int)) = 5 + (d0.length : Int) := IntWalk.u64_in _ (by omega)
  have t1 : ((d0.length : Int) == 0) = false := by first | (rw [beq_eq_false_iff_ne]; omega) | (rw [beq_iff_eq]; omega)
  have t2 : ((n2 : Int) != 5 + (d0.length : Int)) = false := by first | (rw [bne_iff_ne]; omega) | (rw [bne_eq_false_iff_eq]; omega)
  have t3 : decide (0 < pay.length) = true := by first | (rw [decide_eq_false_iff_not]; omega) | (rw [decide_eq_true_eq]; omega)
  have HNN := Lib.hid hn
  clear hn
  go_enter Tryz.func21, Tryz.ntmps21
  go_wp2_with fail
  rw [← HW.out, ← HG.out, ← HW1.out]
  have hbw1 : Below w.heap.size w w1 := HBE.out.trans (HO1.out.be.mono (by have := HSZ.out; omega))
  have bx1 := (HBX.out.below HO1.out.be (by have := HSZ.out; omega)).cell 1
  have bx3 := (HBX.out.below HO1.out.be (by have := HSZ.out; omega)).cell 3
  simp only [List.getElem?_cons_zero, List.getElem?_cons_succ] at bx1 bx3
  have e0 := (low_below (g := gD) (i := oD + 0) hbw1 hgD).trans HE0.out
  simp only [Nat.add_zero] at e0
  have HNS1 := Lib.hid ((HNW.out.more (B' := W.heap.size) (by have := HSZ.out; omega)).below HO1.out.be)
  have c2 := HNS1.out.numE 2 (n2) (by omega) rfl
  go_quiet (fail)
  clear c2 e0 bx1 bx3 hbw1
  have hOq := HO1.out.drewN nq
  obtain ⟨w1, hwq⟩ : ∃ w', w' = w1.drewN nq := ⟨_, rfl⟩
  rw [← hwq] at hOq
  rw [← hwq]
  have HO1 := Lib.hid hOq
  clear hwq hOq
  go_wp2_with fail
  exact hR.out _ _ ⟨rfl, HBE.out.trans ((HO1.out.be).mono (by have := HSZ.out; omega))⟩
def outEap (nums : List Nat) (data : List (List UInt8)) (pay : List UInt8) : List UInt8 := eapHdr (nums.getD 0 0) (nums.getD 1 0) (nums.getD 2 0) (nums.getD 3 0) (data.getD 0 []) ++ pay
theorem swrite_eap (fix : Bool) : SWrite k_eap fix [8, 8, 16, 8] [0] (fun nums data pay => fix = false ∧ 0 < (data.getD 0 []).length ∧ (nums.getD 2 0) = 5 + (data.getD 0 []).length ∧ pay.length = 0) outEap := by
  intro nums data pay v w hf hv
  have hn := hf.nN
  have hd := hf.nD
  match nums, hn, data, hd with
  | [n0, n1, n2, n3], _, [d0], _ =>
  have h0 : n0 < 256 := hf.num 0 (by decide)
  have h1 : n1 < 256 := hf.num 1 (by decide)
  have h2 : n2 < 65536 := hf.num 2 (by decide)
  have h3 : n3 < 256 := hf.num 3 (by decide)
  have hd0 : d0.length ≤ 300 := (hf.dat 0 (by decide)).2
  have hp := hf.pay
  clear hf
  cases fix
  · rcases Nat.eq_zero_or_pos d0.length with hz | hz
    · refine (sw_eap_no2 n0 n1 n2 n3 d0 h0 h1 h2 h3 hd0 hz pay hp v w hv).mono ?_
      rintro e w' ⟨rfl, hb⟩
      exact ⟨none, 0, 0, false, rfl, hb, fun h => by cases h⟩
    · by_cases hn : n2 = 5 + d0.length
      · rcases Nat.eq_zero_or_pos pay.length with hpz | hpz
        · refine (sw_eap n0 n1 n2 n3 d0 h0 h1 h2 h3 hd0 hz hn pay hp hpz v w hv).mono ?_
          rintro e w' ⟨A, n, c, rfl, hb, h1, h2, h3⟩
          exact ⟨A, n, c, true, rfl, hb, fun _ => ⟨⟨rfl, hz, hn, hpz⟩, h1, h2, h3⟩⟩
        · refine (sw_eap_no4 n0 n1 n2 n3 d0 h0 h1 h2 h3 hd0 hz hn pay hp hpz v w hv).mono ?_
          rintro e w' ⟨rfl, hb⟩
          exact ⟨none, 0, 0, false, rfl, hb, fun h => by cases h⟩
      · refine (sw_eap_no3 n0 n1 n2 n3 d0 h0 h1 h2 h3 hd0 hz hn pay hp v w hv).mono ?_
        rintro e w' ⟨rfl, hb⟩
        exact ⟨none, 0, 0, false, rfl, hb, fun h => by cases h⟩
  · refine (sw_eap_no1 n0 n1 n2 n3 d0 h0 h1 h2 h3 hd0 pay hp v w hv).mono ?_
    rintro e w' ⟨rfl, hb⟩
    exact ⟨none, 0, 0, false, rfl, hb, fun h => by cases h⟩
end Go.Proofs.YtphmklgbbpiafaaGreat
