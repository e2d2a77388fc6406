/-
  SNAP: what the reference writes. No condition.
-/
import Derived.Test.YtphmklgbbpiafaaGreatOutA
import Derived.Test.YtphmklgbbpiafaaGreatOutB
import Derived.Test.YtphmklgbbpiafaaGreatCutB
import Derived.Deep.Cut
import Derived.Test.YtphmklgbbpiafaaGreatSnapA
namespace Go.Proofs.YtphmklgbbpiafaaGreat
open Go Go.RowKit
set_option linter.unusedVariables false
set_option linter.unusedSimpArgs false
attribute [local go_sem] sd_drewN ad_drewN
set_option maxRecDepth 1000000 in
set_option maxHeartbeats 10000000 in
theorem sw_snap (fix : Bool) (n0 : Nat) (d0 : List UInt8) (h0 : n0 < 65536) (hd : d0.length = 3) (pay : List UInt8) (hp : pay.length ≤ 300) (v : Value) (w : World) (hv : Lyr w w.heap.size v [n0] [d0] pay) :
    Calls Tryz.prog 21 #[.string k_snap, v, .bool fix] w fun e w' => ∃ A n c, e = .returned (.tuple #[.slice A n c, .bool true]) ∧ Below w.heap.size w w' ∧ n ≤ c ∧ (A = none → n = 0) ∧ Sl w' w'.heap.size A n (bcs (d0 ++ Lib.beBytes 2 n0 ++ pay)) := by
  refine calls_hid fun R hR => ?_
  obtain ⟨i0, hi0, hz0, hz1, hz2⟩ := info_parts info5
  obtain ⟨AN, cN, AD, cD, AP, cP, AB, cB, ds, rfl, hN, hD, hE, hP⟩ := hv
  obtain ⟨A0, q0, hq0, hs0⟩ := hE.2 0 d0 rfl
  simp only [List.length_cons, List.length_nil, Nat.zero_add, Nat.reduceAdd] at hN hD ⊢
  obtain ⟨gD, oD, rfl, hgD, hcD⟩ := hD.2 (by omega)
  have HE0 := Lib.hid (hcD 0 _ hq0)
  have HSD0 := Lib.hid hs0
  have HN := Lib.hid hN
  have HP := Lib.hid hP
  clear hN hD hE hP hq0 hs0 hcD
  have hmf : ∀ (fn : Fn) (first cap : Array Value) (w : World), (Instr.makeFunc fn first cap).run Tryz.prog w = .ok (.func fn first cap) w := fun _ _ _ _ => rfl
  obtain ⟨gN, oN, rfl, hgN, _⟩ := HN.out.2 (by omega)
  obtain ⟨W, hW⟩ : ∃ W, W = w.alloc (.cells #[.slice (some ⟨gN, oN, none⟩) 1 cN, .slice (some ⟨gD, oD, none⟩) 1 cD, .slice AP 0 cP, .slice AB pay.length cB] 27) := ⟨_, rfl⟩
  obtain ⟨go, hgo⟩ : ∃ go, go = w.heap.size + 1 + 1 := ⟨_, rfl⟩
  obtain ⟨w1, hw1⟩ : ∃ w1, w1 = (W.alloc (.cells #[] 5)).alloc (.cells #[.slice (some ⟨w.heap.size + 1, 0, none⟩) 0 0] 25) := ⟨_, rfl⟩
  have hsz : W.heap.size = w.heap.size + 1 := by rw [hW]; simp
  have hO1 : Out W w1 go [] := by rw [hw1, hgo, ← hsz]; exact Out.start W _ rfl
  have hbe : Below w.heap.size w W := by rw [hW]; exact (Below.refl _ _).alloc (Nat.le_refl _) _
  have hbx : Bk W w.heap.size 27 [.slice (some ⟨gN, oN, none⟩) 1 cN, .slice (some ⟨gD, oD, none⟩) 1 cD, .slice AP 0 cP, .slice AB pay.length cB] := by rw [hW]; exact Bk.new _ _ _
  have HNW := Lib.hid (HN.out.below hbe)
  have HPW := Lib.hid (HP.out.below hbe)
  have HBE := Lib.hid hbe
  have HBX := Lib.hid hbx
  have HSZ := Lib.hid hsz
  have hgW : gN < W.heap.size := by omega
  have HW := Lib.hid hW
  have HG := Lib.hid hgo
  have HW1 := Lib.hid hw1
  have HO1 := Lib.hid hO1
  obtain ⟨X0, hX0⟩ : ∃ X : List UInt8, X = [] := ⟨_, rfl⟩
  have HX0 := Lib.hid hX0
  have hL0 : X0.length = 0 := by rw [hX0]; rfl
  clear hW hgo hw1 hsz hbe hbx hO1 hX0
  have HDL := Lib.hid hd
  have hd' : d0.length ≤ 3 := by omega
  clear hd
  go_enter Tryz.func21, Tryz.ntmps21
  go_wp2_with fail
  rw [← HW.out, ← HG.out, ← HW1.out]
  have hbw1 : Below w.heap.size w w1 := HBE.out.trans (HO1.out.be.mono (by have := HSZ.out; omega))
  obtain ⟨AO, cO, hv1, ho1⟩ := HO1.out.sl
  have v0 := hv1.cell 0
  have bx1 := (HBX.out.below HO1.out.be (by have := HSZ.out; omega)).cell 1
  simp only [List.getElem?_cons_zero, List.getElem?_cons_succ] at v0 bx1
  have e0 := (low_below (g := gD) (i := oD + 0) hbw1 hgD).trans HE0.out
  simp only [Nat.add_zero] at e0
  have hneo : ∀ k, (Value.slice AO ([] : List UInt8).length cO).ownBlock = some k → k ≠ go := fun k hk e => own_blk_ne ho1 hv1 (by decide) (by rw [hk, e])
  rw [← HX0.out] at v0 ho1 hneo
  have hlx : X0.length ≤ 5000 := by omega
  have HLX := Lib.hid hL0
  clear hL0
  generalize hLL1 : X0.length = L1 at *
  have HLL1 := Lib.hid hLL1
  have HOB := Lib.hid (own_below ho1 (Below.refl _ w1).drew)
  have HCB := Lib.hid hv1.drew
  have HSN := Lib.hid ((HSD0.out.below hbw1).below (Below.refl _ _).drew)
  have HNEO := Lib.hid hneo
  have hbW1 := HO1.out.be.size
  clear hbw1 hv1 ho1 hneo hLL1
  refine wp_region_tail 5 (by kernel_rfl) (by kernel_rfl) ?_
  simp only [List.take_succ_cons, List.take_zero, List.drop_succ_cons, List.drop_zero]
  repeat still_step
  refine wpStill_nil ?_
  go_upto_region 31 with (at_builtin; refine wpList_append_sl _ rfl (.tmp 155) (.tmp 159) _ rfl W.heap.size 5 i0 _ 1 Tryz.underlying25 hi0 hz0 hz1 hz2 rfl (.slice AO L1 cO) L1 (bcs X0) rfl HOB.out w.heap.size A0 d0.length q0 (bcs d0) rfl HSN.out bcs_one (by simp only [maxLen]; omega) (by omega) (by simpa using hbW1) ?_; intro v5 wz ho5 hg5 hv5; obtain ⟨A5, c5, hv, hc5, hs5, hn5⟩ := own_form ho5.out; rw [hv]; have hk2 := HCB.out.grown hg5 (fun e => HNEO.out _ e.symm rfl); have c0 := hk2.cell 0; have f0 := hk2.frozen 0; simp only [List.getElem?_cons_zero] at c0)
  have hb5 : Below W.heap.size W wz := HO1.out.be.trans (((Below.refl _ w1).drew).trans ((Below.refl _ _).grown hg5 (by simpa using hbW1) (fun k hk => (HOB.out.lt k hk).1)))
  have hO2 := out_appended (ys := X0 ++ d0) hk2 ho5.out (by rw [List.length_append, HLL1.out]) (by rw [bcs_append]) hb5 HO1.out.hg
  rw [hv] at hO2
  obtain ⟨w2, hw2⟩ : ∃ w', w' = wz.setCell ⟨go, 0, none⟩ (.slice A5 (L1 + d0.length) c5) := ⟨_, rfl⟩
  rw [← hw2] at hO2
  rw [← hw2]
  have hL0 : X0.length = L1 := HLL1.out
  obtain ⟨X1, hX1⟩ : ∃ X, X = X0 ++ d0 := ⟨_, rfl⟩
  rw [← hX1] at hO2
  have hL1 : X1.length = d0.length := by have := HLX.out; rw [hX1, List.length_append, hL0]; omega
  have HO2 := Lib.hid hO2
  have HX1 := Lib.hid hX1
  clear hO2 hX1 hw2 hk2 ho5 hg5 hv5 hv hs5 hc5 hn5 c0 f0 hb5 v0 bx1 e0 hL0 hlx
  have HNS2 := Lib.hid ((HNW.out.more (B' := W.heap.size) (by have := HSZ.out; omega)).below HO2.out.be)
  have c0 := HNS2.out.numE 0 (n0) (by omega) rfl
  simp only [Nat.add_zero] at c0
  go_wp2_with fail
  refine (HO2.out.put (n0) 2 _ _ (rfl) rfl (by omega) (by omega)).mono ?_
  rintro e w3 ⟨rfl, hO3⟩
  clear c0
  obtain ⟨X2, hX2⟩ : ∃ X, X = X1 ++ Lib.beBytes 2 (n0) := ⟨_, rfl⟩
  rw [← hX2] at hO3
  have hL2 : X2.length = d0.length + 2 := by rw [hX2, List.length_append, hL1, Lib.beBytes_length]
  have HO3 := Lib.hid hO3
  have HX2 := Lib.hid hX2
  clear hO3 hX2
  obtain ⟨AO, cO, hv2, ho2⟩ := HO3.out.sl
  have v0 := hv2.cell 0
  have p3 := (HBX.out.below HO3.out.be (by have := HSZ.out; omega)).cell 3
  simp only [List.getElem?_cons_zero, List.getElem?_cons_succ] at v0 p3
  have hP2 := (HPW.out.more (B' := W.heap.size) (by have := HSZ.out; omega)).below HO3.out.be
  have hbW := HO3.out.be.size
  have HP2 := Lib.hid hP2
  have HOW2 := Lib.hid ho2
  clear hP2 ho2 hv2
  have hl2 : X2.length ≤ 1000 := by omega
  clear hL2
  generalize hLL : X2.length = L at *
  have HLL := Lib.hid hLL
  clear hLL
  go_wp2_with (at_builtin; refine wpList_append_sl _ rfl (.tmp 620) (.tmp 622) _ rfl W.heap.size 5 i0 _ 1 Tryz.underlying25 hi0 hz0 hz1 hz2 rfl (.slice AO L cO) L (bcs X2) rfl HOW2.out W.heap.size AB pay.length cB (bcs pay) rfl HP2.out bcs_one (by simp only [maxLen]; omega) (by omega) hbW ?_; intro v5 wz ho5 hg5 hv5)
  obtain ⟨A5, c5, hv, hc5, hs5, hn5⟩ := own_form ho5.out
  rw [hv]
  have hb5 : Below W.heap.size w3 wz := (Below.refl _ _).grown hg5 hbW (fun k hk => (HOW2.out.lt k hk).1)
  have hz1' := HSZ.out
  refine hR.out _ _ ⟨A5, L + pay.length, c5, rfl, HBE.out.trans ((HO3.out.be.trans hb5).mono (by omega)), hc5, fun h => by have := hn5 h; omega, ?_⟩
  refine Sl.cast hs5 ?_
  rw [HX2.out, HX1.out, HX0.out, List.nil_append, ← bcs_append]
def outSnap (nums : List Nat) (data : List (List UInt8)) (pay : List UInt8) : List UInt8 := data.getD 0 [] ++ Lib.beBytes 2 (nums.getD 0 0) ++ pay
theorem swrite_snap (fix : Bool) : SWrite k_snap fix [16] [3] (fun _ _ _ => True) outSnap := by
  intro nums data pay v w hf hv
  have hn := hf.nN
  have hd := hf.nD
  match nums, hn, data, hd with
  | [n0], _, [d0], _ =>
  have h0 : n0 < 65536 := hf.num 0 (by decide)
  have hd0 : d0.length ≤ 300 := (hf.dat 0 (by decide)).2
  have hs0 : d0.length = 3 := (hf.dat 0 (by decide)).1 (by decide)
  have hp := hf.pay
  clear hf
  · refine (sw_snap fix n0 d0 h0 hs0 pay hp v w hv).mono ?_
    rintro e w' ⟨A, n, c, rfl, hb, h1, h2, h3⟩
    exact ⟨A, n, c, true, rfl, hb, fun _ => ⟨trivial, h1, h2, h3⟩⟩
end Go.Proofs.YtphmklgbbpiafaaGreat
