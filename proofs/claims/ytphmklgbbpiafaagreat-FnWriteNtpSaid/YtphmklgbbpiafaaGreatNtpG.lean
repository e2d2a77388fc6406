/-
  NTP: what the reference writes. No condition.
-/
import Derived.Test.YtphmklgbbpiafaaGreatOutA
import Derived.Test.YtphmklgbbpiafaaGreatOutB
import Derived.Test.YtphmklgbbpiafaaGreatCutB
import Derived.Deep.Cut
import Derived.Test.YtphmklgbbpiafaaGreatNtpA
import Derived.Test.YtphmklgbbpiafaaGreatWrtB
namespace Go.Proofs.YtphmklgbbpiafaaGreat
open Go Go.RowKit
set_option linter.unusedVariables false
set_option linter.unusedSimpArgs false
attribute [local go_sem] sd_drewN ad_drewN
set_option maxRecDepth 1000000 in
set_option maxHeartbeats 10000000 in
theorem sw_ntp (fix : Bool) (n0 n1 n2 n3 n4 n5 n6 n7 n8 n9 n10 n11 n12 : Nat) (d0 : List UInt8) (h0 : n0 < 4) (h1 : n1 < 8) (h2 : n2 < 8) (h3 : n3 < 256) (h4 : n4 < 256) (h5 : n5 < 256) (h6 : n6 < 4294967296) (h7 : n7 < 4294967296) (h8 : n8 < 4294967296) (h9 : n9 < 18446744073709551616) (h10 : n10 < 18446744073709551616) (h11 : n11 < 18446744073709551616) (h12 : n12 < 18446744073709551616) (hd : d0.length ≤ 300) (pay : List UInt8) (hp : pay.length ≤ 300) (hpz : pay.length = 0) (v : Value) (w : World) (hv : Lyr w w.heap.size v [n0, n1, n2, n3, n4, n5, n6, n7, n8, n9, n10, n11, n12] [d0] pay) (hcap : capN v) :
    Calls Tryz.prog 21 #[.string k_ntp, v, .bool fix] w fun e w' => ∃ A n c, e = .returned (.tuple #[.slice A n c, .bool true]) ∧ Below w.heap.size w w' ∧ n ≤ c ∧ (A = none → n = 0) ∧ Sl w' w'.heap.size A n (bcs (ntpHdr n0 n1 n2 n3 n4 n5 n6 n7 n8 n9 n10 n11 n12 d0 ++ pay)) := by
  refine calls_hid fun R hR => ?_
  obtain ⟨i0, hi0, hz0, hz1, hz2⟩ := info_parts info5
  obtain ⟨AN, cN, AD, cD, AP, cP, AB, cB, ds, rfl, hN, hD, hE, hP⟩ := hv
  obtain ⟨A0, q0, hq0, hs0⟩ := hE.2 0 d0 rfl
  simp only [List.length_cons, List.length_nil, Nat.zero_add, Nat.reduceAdd] at hN hD ⊢
  obtain ⟨gD, oD, rfl, hgD, hcD⟩ := hD.2 (by omega)
  have HE0 := Lib.hid (hcD 0 _ hq0)
  have HSD0 := Lib.hid hs0
  have HN := Lib.hid hN
  have HP := Lib.hid hP
  clear hN hD hE hP hq0 hs0 hcD
  have hmf : ∀ (fn : Fn) (first cap : Array Value) (w : World), (Instr.makeFunc fn first cap).run Tryz.prog w = .ok (.func fn first cap) w := fun _ _ _ _ => rfl
  obtain ⟨gN, oN, rfl, hgN, _⟩ := HN.out.2 (by omega)
  obtain ⟨W, hW⟩ : ∃ W, W = w.alloc (.cells #[.slice (some ⟨gN, oN, none⟩) 13 cN, .slice (some ⟨gD, oD, none⟩) 1 cD, .slice AP 0 cP, .slice AB pay.length cB] 27) := ⟨_, rfl⟩
  obtain ⟨go, hgo⟩ : ∃ go, go = w.heap.size + 1 + 1 := ⟨_, rfl⟩
  obtain ⟨w1, hw1⟩ : ∃ w1, w1 = (W.alloc (.cells #[] 5)).alloc (.cells #[.slice (some ⟨w.heap.size + 1, 0, none⟩) 0 0] 25) := ⟨_, rfl⟩
  have hsz : W.heap.size = w.heap.size + 1 := by rw [hW]; simp
  have hO1 : Out W w1 go [] := by rw [hw1, hgo, ← hsz]; exact Out.start W _ rfl
  have hbe : Below w.heap.size w W := by rw [hW]; exact (Below.refl _ _).alloc (Nat.le_refl _) _
  have hbx : Bk W w.heap.size 27 [.slice (some ⟨gN, oN, none⟩) 13 cN, .slice (some ⟨gD, oD, none⟩) 1 cD, .slice AP 0 cP, .slice AB pay.length cB] := by rw [hW]; exact Bk.new _ _ _
  have HNW := Lib.hid (HN.out.below hbe)
  have HPW := Lib.hid (HP.out.below hbe)
  have HBE := Lib.hid hbe
  have HBX := Lib.hid hbx
  have HSZ := Lib.hid hsz
  have hgW : gN < W.heap.size := by omega
  have HW := Lib.hid hW
  have HG := Lib.hid hgo
  have HW1 := Lib.hid hw1
  have HO1 := Lib.hid hO1
  obtain ⟨X0, hX0⟩ : ∃ X : List UInt8, X = [] := ⟨_, rfl⟩
  have HX0 := Lib.hid hX0
  have hL0 : X0.length = 0 := by rw [hX0]; rfl
  clear hW hgo hw1 hsz hbe hbx hO1 hX0
  have t3 : decide (0 < pay.length) = false := by first | (rw [decide_eq_false_iff_not]; omega) | (rw [decide_eq_true_eq]; omega)
  have HPZ := Lib.hid hpz
  clear hpz
  have hcN : 13 ≤ cN := hcap
  have jz3 : ¬ (cN : Int) = 3 := by omega
  have jy3 : ¬ cN = 3 := by omega
  have jz6 : ¬ (cN : Int) = 6 := by omega
  have jy6 : ¬ cN = 6 := by omega
  have jz9 : ¬ (cN : Int) = 9 := by omega
  have jy9 : ¬ cN = 9 := by omega
  have jcN : (13 : Int) ≤ (cN : Int) := by omega
  have jc6 : (6 : Int) ≤ (cN : Int) := by omega
  have jc9 : (9 : Int) ≤ (cN : Int) := by omega
  go_enter Tryz.func21, Tryz.ntmps21
  go_wp2_with fail
  rw [← HW.out, ← HG.out, ← HW1.out]
  have HNS1 := Lib.hid ((HNW.out.more (B' := W.heap.size) (by have := HSZ.out; omega)).below HO1.out.be)
  have c0 := HNS1.out.numE 0 (n0) (by omega) rfl
  have c1 := HNS1.out.numE 1 (n1) (by omega) rfl
  have c2 := HNS1.out.numE 2 (n2) (by omega) rfl
  simp only [Nat.add_zero] at c0
  refine wp_region_tail 14 (by kernel_rfl) (by kernel_rfl) ?_
  simp only [List.take_succ_cons, List.take_zero, List.drop_succ_cons, List.drop_zero]
  repeat still_step
  refine wpStill_nil ?_
  go_wp2_with fail
  simp (disch := omega) only [orm64 3 6, orm64 0 3]
  refine (HO1.out.drew.put (n0 * 64 + n1 * 8 + n2) 1 _ _ (by omega) rfl (by omega) (by rw [List.length_nil]; omega)).mono ?_
  rintro e w2 ⟨rfl, hO2⟩
  rw [← HX0.out] at hO2
  clear c0 c1 c2
  obtain ⟨X1, hX1⟩ : ∃ X, X = X0 ++ Lib.beBytes 1 (n0 * 64 + n1 * 8 + n2) := ⟨_, rfl⟩
  rw [← hX1] at hO2
  have hL1 : X1.length = 1 := by rw [hX1, List.length_append, hL0, Lib.beBytes_length]
  have HO2 := Lib.hid hO2
  have HX1 := Lib.hid hX1
  clear hO2 hX1
  obtain ⟨vs2, hvs2⟩ : ∃ vs : List Nat, vs = [n3, n4, n5] := ⟨_, rfl⟩
  have hvl2 : vs2.length = 3 := by rw [hvs2]; rfl
  have HVS2 := Lib.hid hvs2
  have HVL2 := Lib.hid hvl2
  obtain ⟨nums2, hnums2⟩ : ∃ ns : List Nat, ns = [n0, n1, n2, n3, n4, n5, n6, n7, n8, n9, n10, n11, n12] := ⟨_, rfl⟩
  have hbv2 : ∀ k, k < 3 → nums2.getD (3 + k) 0 = vs2.getD k 0 := by
    intro k hk
    rw [hnums2, hvs2]
    match k, hk with
    | 0, _ => rfl
    | 1, _ => rfl
    | 2, _ => rfl
  have HBV2 := Lib.hid hbv2
  have HNM2 := Lib.hid (hnums2 ▸ HNW : Hid (Sl W w.heap.size (some ⟨gN, oN, none⟩) 13 (ncs nums2)))
  have HLX2 := Lib.hid hL1
  clear hvs2 hvl2 hbv2 hnums2 hL1
  go_wp2_with fail
  go_loopw [526] (fun i wr => ∃ k : Nat, k ≤ 3 ∧ i = .int .i64 k ∧ Out W wr go (X1 ++ fl 1 vs2 k)) (fun i _ => 3 - (intOf i).toNat)
  case atStart => exact ⟨0, by omega, rfl, by rw [fl_zero, List.append_nil]; exact HO2.out⟩
  case round =>
    obtain ⟨k, hk, rfl, hOk⟩ := hrel
    have HOK := Lib.hid hOk
    clear hOk
    by_cases hlt : k < 3
    · have hns := (HNM2.out.more (B' := W.heap.size) (by have := HSZ.out; omega)).below HOK.out.be
      have ck := hns.numE (3 + k) (vs2.getD k 0) (by omega) (HBV2.out k hlt)
      have hsu := fl_succ 1 vs2 k (by have := HVL2.out; omega)
      have hfl := fl_length 1 vs2 k (by have := HVL2.out; omega)
      have hxl : (X1 ++ fl 1 vs2 k).length ≤ 100000 := by have := HLX2.out; rw [List.length_append, hfl]; omega
      rw [← Nat.add_assoc] at ck
      have HSU := Lib.hid hsu
      have HXL := Lib.hid hxl
      clear hns hsu hfl hxl
      obtain ⟨x, hx⟩ : ∃ x, x = vs2.getD k 0 := ⟨_, rfl⟩
      rw [← hx] at ck
      rw [← hx] at HSU
      clear hx
      go_wp2_with fail
      refine (HOK.out.put x 1 _ _ rfl rfl (by omega) HXL.out).mono ?_
      rintro e wr ⟨rfl, hO⟩
      have HO := Lib.hid hO
      clear hO ck
      go_wp2_with fail
      go_roundw
      case rel =>
        first
        | exact ⟨k + 1, by omega, by go_num, by rw [HSU.out, ← List.append_assoc]; exact HO.out⟩
        | ((repeat apply Exists.intro); refine ⟨?_, rfl⟩; exact ⟨k + 1, by omega, by go_num, by rw [HSU.out, ← List.append_assoc]; exact HO.out⟩)
      case measure => simp [intOf]; omega
    · obtain rfl : k = 3 := by omega
      clear hlt hk
      have HO3 := HOK
      obtain ⟨X2, hX2⟩ : ∃ X, X = X1 ++ fl 1 vs2 3 := ⟨_, rfl⟩
      rw [← hX2] at HO3
      have hL2 : X2.length = 4 := by have := HLX2.out; rw [hX2, List.length_append, fl_length 1 vs2 3 (by have := HVL2.out; omega)]; omega
      have HX2 := Lib.hid (show X2 = X1 ++ (Lib.beBytes 1 (n3) ++ Lib.beBytes 1 (n4) ++ Lib.beBytes 1 (n5)) by rw [hX2, HVS2.out]; simp [fl])
      clear hX2 HOK
      skip
      obtain ⟨vs3, hvs3⟩ : ∃ vs : List Nat, vs = [n6, n7, n8] := ⟨_, rfl⟩
      have hvl3 : vs3.length = 3 := by rw [hvs3]; rfl
      have HVS3 := Lib.hid hvs3
      have HVL3 := Lib.hid hvl3
      obtain ⟨nums3, hnums3⟩ : ∃ ns : List Nat, ns = [n0, n1, n2, n3, n4, n5, n6, n7, n8, n9, n10, n11, n12] := ⟨_, rfl⟩
      have hbv3 : ∀ k, k < 3 → nums3.getD (6 + k) 0 = vs3.getD k 0 := by
        intro k hk
        rw [hnums3, hvs3]
        match k, hk with
        | 0, _ => rfl
        | 1, _ => rfl
        | 2, _ => rfl
      have HBV3 := Lib.hid hbv3
      have HNM3 := Lib.hid (hnums3 ▸ HNW : Hid (Sl W w.heap.size (some ⟨gN, oN, none⟩) 13 (ncs nums3)))
      have HLX3 := Lib.hid hL2
      clear hvs3 hvl3 hbv3 hnums3 hL2
      go_wp2_with fail
      go_loopw [537] (fun i wr => ∃ k : Nat, k ≤ 3 ∧ i = .int .i64 k ∧ Out W wr go (X2 ++ fl 4 vs3 k)) (fun i _ => 3 - (intOf i).toNat)
      case atStart => exact ⟨0, by omega, rfl, by rw [fl_zero, List.append_nil]; exact HO3.out⟩
      case round =>
        obtain ⟨k, hk, rfl, hOk⟩ := hrel
        have HOK := Lib.hid hOk
        clear hOk
        by_cases hlt : k < 3
        · have hns := (HNM3.out.more (B' := W.heap.size) (by have := HSZ.out; omega)).below HOK.out.be
          have ck := hns.numE (6 + k) (vs3.getD k 0) (by omega) (HBV3.out k hlt)
          have hsu := fl_succ 4 vs3 k (by have := HVL3.out; omega)
          have hfl := fl_length 4 vs3 k (by have := HVL3.out; omega)
          have hxl : (X2 ++ fl 4 vs3 k).length ≤ 100000 := by have := HLX3.out; rw [List.length_append, hfl]; omega
          rw [← Nat.add_assoc] at ck
          have HSU := Lib.hid hsu
          have HXL := Lib.hid hxl
          clear hns hsu hfl hxl
          obtain ⟨x, hx⟩ : ∃ x, x = vs3.getD k 0 := ⟨_, rfl⟩
          rw [← hx] at ck
          rw [← hx] at HSU
          clear hx
          go_wp2_with fail
          refine (HOK.out.put x 4 _ _ rfl rfl (by omega) HXL.out).mono ?_
          rintro e wr ⟨rfl, hO⟩
          have HO := Lib.hid hO
          clear hO ck
          go_wp2_with fail
          go_roundw
          case rel =>
            first
            | exact ⟨k + 1, by omega, by go_num, by rw [HSU.out, ← List.append_assoc]; exact HO.out⟩
            | ((repeat apply Exists.intro); refine ⟨?_, rfl⟩; exact ⟨k + 1, by omega, by go_num, by rw [HSU.out, ← List.append_assoc]; exact HO.out⟩)
          case measure => simp [intOf]; omega
        · obtain rfl : k = 3 := by omega
          clear hlt hk
          have HO4 := HOK
          obtain ⟨X3, hX3⟩ : ∃ X, X = X2 ++ fl 4 vs3 3 := ⟨_, rfl⟩
          rw [← hX3] at HO4
          have hL3 : X3.length = 16 := by have := HLX3.out; rw [hX3, List.length_append, fl_length 4 vs3 3 (by have := HVL3.out; omega)]; omega
          have HX3 := Lib.hid (show X3 = X2 ++ (Lib.beBytes 4 (n6) ++ Lib.beBytes 4 (n7) ++ Lib.beBytes 4 (n8)) by rw [hX3, HVS3.out]; simp [fl])
          clear hX3 HOK
          skip
          obtain ⟨vs4, hvs4⟩ : ∃ vs : List Nat, vs = [n9, n10, n11, n12] := ⟨_, rfl⟩
          have hvl4 : vs4.length = 4 := by rw [hvs4]; rfl
          have HVS4 := Lib.hid hvs4
          have HVL4 := Lib.hid hvl4
          obtain ⟨nums4, hnums4⟩ : ∃ ns : List Nat, ns = [n0, n1, n2, n3, n4, n5, n6, n7, n8, n9, n10, n11, n12] := ⟨_, rfl⟩
          have hbv4 : ∀ k, k < 4 → nums4.getD (9 + k) 0 = vs4.getD k 0 := by
            intro k hk
            rw [hnums4, hvs4]
            match k, hk with
            | 0, _ => rfl
            | 1, _ => rfl
            | 2, _ => rfl
            | 3, _ => rfl
          have HBV4 := Lib.hid hbv4
          have HNM4 := Lib.hid (hnums4 ▸ HNW : Hid (Sl W w.heap.size (some ⟨gN, oN, none⟩) 13 (ncs nums4)))
          have HLX4 := Lib.hid hL3
          clear hvs4 hvl4 hbv4 hnums4 hL3
          go_wp2_with fail
          go_loopw [548] (fun i wr => ∃ k : Nat, k ≤ 4 ∧ i = .int .i64 k ∧ Out W wr go (X3 ++ fl 8 vs4 k)) (fun i _ => 4 - (intOf i).toNat)
          case atStart => exact ⟨0, by omega, rfl, by rw [fl_zero, List.append_nil]; exact HO4.out⟩
          case round =>
            obtain ⟨k, hk, rfl, hOk⟩ := hrel
            have HOK := Lib.hid hOk
            clear hOk
            by_cases hlt : k < 4
            · have hns := (HNM4.out.more (B' := W.heap.size) (by have := HSZ.out; omega)).below HOK.out.be
              have ck := hns.numE (9 + k) (vs4.getD k 0) (by omega) (HBV4.out k hlt)
              have hsu := fl_succ 8 vs4 k (by have := HVL4.out; omega)
              have hfl := fl_length 8 vs4 k (by have := HVL4.out; omega)
              have hxl : (X3 ++ fl 8 vs4 k).length ≤ 100000 := by have := HLX4.out; rw [List.length_append, hfl]; omega
              rw [← Nat.add_assoc] at ck
              have HSU := Lib.hid hsu
              have HXL := Lib.hid hxl
              clear hns hsu hfl hxl
              obtain ⟨x, hx⟩ : ∃ x, x = vs4.getD k 0 := ⟨_, rfl⟩
              rw [← hx] at ck
              rw [← hx] at HSU
              clear hx
              go_wp2_with fail
              refine (HOK.out.put x 8 _ _ rfl rfl (by omega) HXL.out).mono ?_
              rintro e wr ⟨rfl, hO⟩
              have HO := Lib.hid hO
              clear hO ck
              go_wp2_with fail
              go_roundw
              case rel =>
                first
                | exact ⟨k + 1, by omega, by go_num, by rw [HSU.out, ← List.append_assoc]; exact HO.out⟩
                | ((repeat apply Exists.intro); refine ⟨?_, rfl⟩; exact ⟨k + 1, by omega, by go_num, by rw [HSU.out, ← List.append_assoc]; exact HO.out⟩)
              case measure => simp [intOf]; omega
            · obtain rfl : k = 4 := by omega
              clear hlt hk
              have HO5 := HOK
              obtain ⟨X4, hX4⟩ : ∃ X, X = X3 ++ fl 8 vs4 4 := ⟨_, rfl⟩
              rw [← hX4] at HO5
              have hL4 : X4.length = 48 := by have := HLX4.out; rw [hX4, List.length_append, fl_length 8 vs4 4 (by have := HVL4.out; omega)]; omega
              have HX4 := Lib.hid (show X4 = X3 ++ (Lib.beBytes 8 (n9) ++ Lib.beBytes 8 (n10) ++ Lib.beBytes 8 (n11) ++ Lib.beBytes 8 (n12)) by rw [hX4, HVS4.out]; simp [fl])
              clear hX4 HOK
              skip
              have hbw5 : Below w.heap.size w wr := HBE.out.trans (HO5.out.be.mono (by have := HSZ.out; omega))
              obtain ⟨AO, cO, hv1, ho1⟩ := HO5.out.sl
              have v0 := hv1.cell 0
              have bx1 := (HBX.out.below HO5.out.be (by have := HSZ.out; omega)).cell 1
              simp only [List.getElem?_cons_zero, List.getElem?_cons_succ] at v0 bx1
              have e0 := (low_below (g := gD) (i := oD + 0) hbw5 hgD).trans HE0.out
              simp only [Nat.add_zero] at e0
              have hneo : ∀ k, (Value.slice AO X4.length cO).ownBlock = some k → k ≠ go := fun k hk e => own_blk_ne ho1 hv1 (by decide) (by rw [hk, e])
              skip
              have hlx : X4.length ≤ 5000 := by omega
              have HLX := Lib.hid hL4
              clear hL4
              generalize hLL5 : X4.length = L5 at *
              have HLL5 := Lib.hid hLL5
              have HOB := Lib.hid (own_below ho1 (Below.refl _ wr).drew)
              have HCB := Lib.hid hv1.drew
              have HSN := Lib.hid ((HSD0.out.below hbw5).below (Below.refl _ _).drew)
              have HNEO := Lib.hid hneo
              have hbW5 := HO5.out.be.size
              clear hbw5 hv1 ho1 hneo hLL5
              go_wp2_with fail
              refine wp_region_tail 5 (by kernel_rfl) (by kernel_rfl) ?_
              simp only [List.take_succ_cons, List.take_zero, List.drop_succ_cons, List.drop_zero]
              repeat still_step
              refine wpStill_nil ?_
              go_upto_region 108 with (at_builtin; refine wpList_append_sl _ rfl (.tmp 556) (.tmp 560) _ rfl W.heap.size 5 i0 _ 1 Tryz.underlying25 hi0 hz0 hz1 hz2 rfl (.slice AO L5 cO) L5 (bcs X4) rfl HOB.out w.heap.size A0 d0.length q0 (bcs d0) rfl HSN.out bcs_one (by simp only [maxLen]; omega) (by omega) (by simpa using hbW5) ?_; intro v5 wz ho5 hg5 hv5; obtain ⟨A5, c5, hv, hc5, hs5, hn5⟩ := own_form ho5.out; rw [hv]; have hk2 := HCB.out.grown hg5 (fun e => HNEO.out _ e.symm rfl); have c0 := hk2.cell 0; have f0 := hk2.frozen 0; simp only [List.getElem?_cons_zero] at c0)
              have hb5 : Below W.heap.size W wz := HO5.out.be.trans (((Below.refl _ wr).drew).trans ((Below.refl _ _).grown hg5 (by simpa using hbW5) (fun k hk => (HOB.out.lt k hk).1)))
              have hO6 := out_appended (ys := X4 ++ d0) hk2 ho5.out (by rw [List.length_append, HLL5.out]) (by rw [bcs_append]) hb5 HO5.out.hg
              rw [hv] at hO6
              obtain ⟨w6, hw6⟩ : ∃ w', w' = wz.setCell ⟨go, 0, none⟩ (.slice A5 (L5 + d0.length) c5) := ⟨_, rfl⟩
              rw [← hw6] at hO6
              rw [← hw6]
              have hL4 : X4.length = L5 := HLL5.out
              obtain ⟨X5, hX5⟩ : ∃ X, X = X4 ++ d0 := ⟨_, rfl⟩
              rw [← hX5] at hO6
              have hL5 : X5.length = 48 + d0.length := by have := HLX.out; rw [hX5, List.length_append, hL4]; omega
              have HO6 := Lib.hid hO6
              have HX5 := Lib.hid hX5
              clear hO6 hX5 hw6 hk2 ho5 hg5 hv5 hv hs5 hc5 hn5 c0 f0 hb5 v0 bx1 e0 hL4 hlx
              obtain ⟨AO, cO, hv2, ho2⟩ := HO6.out.sl
              have v0 := hv2.cell 0
              have p3 := (HBX.out.below HO6.out.be (by have := HSZ.out; omega)).cell 3
              simp only [List.getElem?_cons_zero, List.getElem?_cons_succ] at v0 p3
              have hP2 := (HPW.out.more (B' := W.heap.size) (by have := HSZ.out; omega)).below HO6.out.be
              have hbW := HO6.out.be.size
              have HP2 := Lib.hid hP2
              have HOW2 := Lib.hid ho2
              clear hP2 ho2 hv2
              have hl2 : X5.length ≤ 1000 := by omega
              clear hL5
              generalize hLL : X5.length = L at *
              have HLL := Lib.hid hLL
              clear hLL
              go_wp2_with (at_builtin; refine wpList_append_sl _ rfl (.tmp 620) (.tmp 622) _ rfl W.heap.size 5 i0 _ 1 Tryz.underlying25 hi0 hz0 hz1 hz2 rfl (.slice AO L cO) L (bcs X5) rfl HOW2.out W.heap.size AB pay.length cB (bcs pay) rfl HP2.out bcs_one (by simp only [maxLen]; omega) (by omega) hbW ?_; intro v5 wz ho5 hg5 hv5)
              obtain ⟨A5, c5, hv, hc5, hs5, hn5⟩ := own_form ho5.out
              rw [hv]
              have hb5 : Below W.heap.size w6 wz := (Below.refl _ _).grown hg5 hbW (fun k hk => (HOW2.out.lt k hk).1)
              have hz1' := HSZ.out
              refine hR.out _ _ ⟨A5, L + pay.length, c5, rfl, HBE.out.trans ((HO6.out.be.trans hb5).mono (by omega)), hc5, fun h => by have := hn5 h; omega, ?_⟩
              refine Sl.cast hs5 ?_
              rw [HX5.out, HX4.out, HX3.out, HX2.out, HX1.out, HX0.out, List.nil_append, ← bcs_append]
              simp [ntpHdr]
set_option maxRecDepth 1000000 in
set_option maxHeartbeats 10000000 in
theorem sw_ntp_no (fix : Bool) (n0 n1 n2 n3 n4 n5 n6 n7 n8 n9 n10 n11 n12 : Nat) (d0 : List UInt8) (h0 : n0 < 4) (h1 : n1 < 8) (h2 : n2 < 8) (h3 : n3 < 256) (h4 : n4 < 256) (h5 : n5 < 256) (h6 : n6 < 4294967296) (h7 : n7 < 4294967296) (h8 : n8 < 4294967296) (h9 : n9 < 18446744073709551616) (h10 : n10 < 18446744073709551616) (h11 : n11 < 18446744073709551616) (h12 : n12 < 18446744073709551616) (hd : d0.length ≤ 300) (pay : List UInt8) (hp : pay.length ≤ 300) (hpz : 0 < pay.length) (v : Value) (w : World) (hv : Lyr w w.heap.size v [n0, n1, n2, n3, n4, n5, n6, n7, n8, n9, n10, n11, n12] [d0] pay) :
    Calls Tryz.prog 21 #[.string k_ntp, v, .bool fix] w fun e w' => e = .returned (.tuple #[.slice none 0 0, .bool false]) ∧ Below w.heap.size w w' := by
  refine calls_hid fun R hR => ?_
  obtain ⟨i0, hi0, hz0, hz1, hz2⟩ := info_parts info5
  obtain ⟨AN, cN, AD, cD, AP, cP, AB, cB, ds, rfl, hN, hD, hE, hP⟩ := hv
  obtain ⟨A0, q0, hq0, hs0⟩ := hE.2 0 d0 rfl
  simp only [List.length_cons, List.length_nil, Nat.zero_add, Nat.reduceAdd] at hN hD ⊢
  obtain ⟨gD, oD, rfl, hgD, hcD⟩ := hD.2 (by omega)
  have HE0 := Lib.hid (hcD 0 _ hq0)
  have HSD0 := Lib.hid hs0
  have HN := Lib.hid hN
  have HP := Lib.hid hP
  clear hN hD hE hP hq0 hs0 hcD
  have hmf : ∀ (fn : Fn) (first cap : Array Value) (w : World), (Instr.makeFunc fn first cap).run Tryz.prog w = .ok (.func fn first cap) w := fun _ _ _ _ => rfl
  obtain ⟨gN, oN, rfl, hgN, _⟩ := HN.out.2 (by omega)
  obtain ⟨W, hW⟩ : ∃ W, W = w.alloc (.cells #[.slice (some ⟨gN, oN, none⟩) 13 cN, .slice (some ⟨gD, oD, none⟩) 1 cD, .slice AP 0 cP, .slice AB pay.length cB] 27) := ⟨_, rfl⟩
  obtain ⟨go, hgo⟩ : ∃ go, go = w.heap.size + 1 + 1 := ⟨_, rfl⟩
  obtain ⟨w1, hw1⟩ : ∃ w1, w1 = (W.alloc (.cells #[] 5)).alloc (.cells #[.slice (some ⟨w.heap.size + 1, 0, none⟩) 0 0] 25) := ⟨_, rfl⟩
  have hsz : W.heap.size = w.heap.size + 1 := by rw [hW]; simp
  have hO1 : Out W w1 go [] := by rw [hw1, hgo, ← hsz]; exact Out.start W _ rfl
  have hbe : Below w.heap.size w W := by rw [hW]; exact (Below.refl _ _).alloc (Nat.le_refl _) _
  have hbx : Bk W w.heap.size 27 [.slice (some ⟨gN, oN, none⟩) 13 cN, .slice (some ⟨gD, oD, none⟩) 1 cD, .slice AP 0 cP, .slice AB pay.length cB] := by rw [hW]; exact Bk.new _ _ _
  have HNW := Lib.hid (HN.out.below hbe)
  have HPW := Lib.hid (HP.out.below hbe)
  have HBE := Lib.hid hbe
  have HBX := Lib.hid hbx
  have HSZ := Lib.hid hsz
  have hgW : gN < W.heap.size := by omega
  have HW := Lib.hid hW
  have HG := Lib.hid hgo
  have HW1 := Lib.hid hw1
  have HO1 := Lib.hid hO1
  obtain ⟨X0, hX0⟩ : ∃ X : List UInt8, X = [] := ⟨_, rfl⟩
  have HX0 := Lib.hid hX0
  have hL0 : X0.length = 0 := by rw [hX0]; rfl
  clear hW hgo hw1 hsz hbe hbx hO1 hX0
  have t3 : decide (0 < pay.length) = true := by first | (rw [decide_eq_false_iff_not]; omega) | (rw [decide_eq_true_eq]; omega)
  go_enter Tryz.func21, Tryz.ntmps21
  go_wp2_with fail
  first | rw [← HW.out, ← HG.out, ← HW1.out] | rw [← HW.out, ← HW1.out] | skip
  exact hR.out _ _ ⟨rfl, HBE.out.trans ((HO1.out.be).mono (by have := HSZ.out; omega))⟩
def outNtp (nums : List Nat) (data : List (List UInt8)) (pay : List UInt8) : List UInt8 := ntpHdr (nums.getD 0 0) (nums.getD 1 0) (nums.getD 2 0) (nums.getD 3 0) (nums.getD 4 0) (nums.getD 5 0) (nums.getD 6 0) (nums.getD 7 0) (nums.getD 8 0) (nums.getD 9 0) (nums.getD 10 0) (nums.getD 11 0) (nums.getD 12 0) (data.getD 0 []) ++ pay
theorem swrite_ntp (fix : Bool) : SWriteC k_ntp fix [2, 3, 3, 8, 8, 8, 32, 32, 32, 64, 64, 64, 64] [0] (fun _ _ pay => pay.length = 0) outNtp := by
  intro nums data pay v w hf hv hcap
  have hn := hf.nN
  have hd := hf.nD
  match nums, hn, data, hd with
  | [n0, n1, n2, n3, n4, n5, n6, n7, n8, n9, n10, n11, n12], _, [d0], _ =>
  have h0 : n0 < 4 := hf.num 0 (by decide)
  have h1 : n1 < 8 := hf.num 1 (by decide)
  have h2 : n2 < 8 := hf.num 2 (by decide)
  have h3 : n3 < 256 := hf.num 3 (by decide)
  have h4 : n4 < 256 := hf.num 4 (by decide)
  have h5 : n5 < 256 := hf.num 5 (by decide)
  have h6 : n6 < 4294967296 := hf.num 6 (by decide)
  have h7 : n7 < 4294967296 := hf.num 7 (by decide)
  have h8 : n8 < 4294967296 := hf.num 8 (by decide)
  have h9 : n9 < 18446744073709551616 := hf.num 9 (by decide)
  have h10 : n10 < 18446744073709551616 := hf.num 10 (by decide)
  have h11 : n11 < 18446744073709551616 := hf.num 11 (by decide)
  have h12 : n12 < 18446744073709551616 := hf.num 12 (by decide)
  have hd0 : d0.length ≤ 300 := (hf.dat 0 (by decide)).2
  have hp := hf.pay
  clear hf
  rcases Nat.eq_zero_or_pos pay.length with hpz | hpz
  rotate_left
  · refine (sw_ntp_no fix n0 n1 n2 n3 n4 n5 n6 n7 n8 n9 n10 n11 n12 d0 h0 h1 h2 h3 h4 h5 h6 h7 h8 h9 h10 h11 h12 hd0 pay hp hpz v w hv).mono ?_
    rintro e w' ⟨rfl, hb⟩
    exact ⟨none, 0, 0, false, rfl, hb, fun h => by cases h⟩
  · refine (sw_ntp fix n0 n1 n2 n3 n4 n5 n6 n7 n8 n9 n10 n11 n12 d0 h0 h1 h2 h3 h4 h5 h6 h7 h8 h9 h10 h11 h12 hd0 pay hp hpz v w hv hcap).mono ?_
    rintro e w' ⟨A, n, c, rfl, hb, h1, h2, h3⟩
    exact ⟨A, n, c, true, rfl, hb, fun _ => ⟨hpz, h1, h2, h3⟩⟩
end Go.Proofs.YtphmklgbbpiafaaGreat
