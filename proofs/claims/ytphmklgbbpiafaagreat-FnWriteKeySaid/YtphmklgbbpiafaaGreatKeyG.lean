/-
  Key: what the reference writes. No condition.
-/
import Derived.Test.YtphmklgbbpiafaaGreatOutA
import Derived.Test.YtphmklgbbpiafaaGreatOutB
import Derived.Test.YtphmklgbbpiafaaGreatCutB
import Derived.Deep.Cut
import Derived.Deep.CutRange
import Derived.Test.YtphmklgbbpiafaaGreatKeyA
namespace Go.Proofs.YtphmklgbbpiafaaGreat
open Go Go.RowKit
set_option linter.unusedVariables false
set_option linter.unusedSimpArgs false
attribute [local go_sem] sd_drewN ad_drewN
set_option maxRecDepth 1000000 in
set_option maxHeartbeats 10000000 in
theorem sw_key (fix : Bool) (n0 n1 n2 n3 n4 n5 n6 n7 n8 n9 n10 n11 n12 n13 n14 n15 n16 : Nat) (d0 d1 d2 d3 : List UInt8) (h0 : n0 < 256) (h1 : n1 < 8) (h2 : n2 < 2) (h3 : n3 < 4) (h4 : n4 < 2) (h5 : n5 < 2) (h6 : n6 < 2) (h7 : n7 < 2) (h8 : n8 < 2) (h9 : n9 < 2) (h10 : n10 < 2) (h11 : n11 < 2) (h12 : n12 < 65536) (h13 : n13 < 18446744073709551616) (h14 : n14 < 18446744073709551616) (h15 : n15 < 18446744073709551616) (h16 : n16 < 65536) (hd0 : d0.length = 32) (hd1 : d1.length = 16) (hd2 : d2.length = 16) (hd3 : d3.length ≤ 300) (q : n10 = 0 ∧ d3.length = 0 ∨ n10 = 1 ∧ n16 = d3.length) (pay : List UInt8) (hp : pay.length ≤ 300) (v : Value) (w : World) (hv : Lyr w w.heap.size v [n0, n1, n2, n3, n4, n5, n6, n7, n8, n9, n10, n11, n12, n13, n14, n15, n16] [d0, d1, d2, d3] pay) :
    Calls Tryz.prog 21 #[.string k_eapolkey, v, .bool fix] w fun e w' => ∃ A n c, e = .returned (.tuple #[.slice A n c, .bool true]) ∧ Below w.heap.size w w' ∧ n ≤ c ∧ (A = none → n = 0) ∧ Sl w' w'.heap.size A n (bcs (keyHdr n0 n1 n2 n3 n4 n5 n6 n7 n8 n9 n10 n11 n12 n13 n14 n15 n16 d0 d1 d2 d3 ++ pay)) := by
  refine calls_hid fun R hR => ?_
  obtain ⟨i0, hi0, hz0, hz1, hz2⟩ := info_parts info5
  obtain ⟨AN, cN, AD, cD, AP, cP, AB, cB, ds, rfl, hN, hD, hE, hP⟩ := hv
  obtain ⟨A0, q0, hq0, hs0⟩ := hE.2 0 d0 rfl
  obtain ⟨A1, q1, hq1, hs1⟩ := hE.2 1 d1 rfl
  obtain ⟨A2, q2, hq2, hs2⟩ := hE.2 2 d2 rfl
  obtain ⟨A3, q3, hq3, hs3⟩ := hE.2 3 d3 rfl
  simp only [List.length_cons, List.length_nil, Nat.zero_add, Nat.reduceAdd] at hN hD ⊢
  obtain ⟨gD, oD, rfl, hgD, hcD⟩ := hD.2 (by omega)
  have HE0 := Lib.hid (hcD 0 _ hq0)
  have HSD0 := Lib.hid hs0
  have HE1 := Lib.hid (hcD 1 _ hq1)
  have HSD1 := Lib.hid hs1
  have HE2 := Lib.hid (hcD 2 _ hq2)
  have HSD2 := Lib.hid hs2
  have HE3 := Lib.hid (hcD 3 _ hq3)
  have HSD3 := Lib.hid hs3
  have HN := Lib.hid hN
  have HP := Lib.hid hP
  clear hN hD hE hP hq0 hs0 hq1 hs1 hq2 hs2 hq3 hs3 hcD
  have hmf : ∀ (fn : Fn) (first cap : Array Value) (w : World), (Instr.makeFunc fn first cap).run Tryz.prog w = .ok (.func fn first cap) w := fun _ _ _ _ => rfl
  obtain ⟨gN, oN, rfl, hgN, _⟩ := HN.out.2 (by omega)
  obtain ⟨W, hW⟩ : ∃ W, W = w.alloc (.cells #[.slice (some ⟨gN, oN, none⟩) 17 cN, .slice (some ⟨gD, oD, none⟩) 4 cD, .slice AP 0 cP, .slice AB pay.length cB] 27) := ⟨_, rfl⟩
  obtain ⟨go, hgo⟩ : ∃ go, go = w.heap.size + 1 + 1 := ⟨_, rfl⟩
  obtain ⟨w1, hw1⟩ : ∃ w1, w1 = (W.alloc (.cells #[] 5)).alloc (.cells #[.slice (some ⟨w.heap.size + 1, 0, none⟩) 0 0] 25) := ⟨_, rfl⟩
  have hsz : W.heap.size = w.heap.size + 1 := by rw [hW]; simp
  have hO1 : Out W w1 go [] := by rw [hw1, hgo, ← hsz]; exact Out.start W _ rfl
  have hbe : Below w.heap.size w W := by rw [hW]; exact (Below.refl _ _).alloc (Nat.le_refl _) _
  have hbx : Bk W w.heap.size 27 [.slice (some ⟨gN, oN, none⟩) 17 cN, .slice (some ⟨gD, oD, none⟩) 4 cD, .slice AP 0 cP, .slice AB pay.length cB] := by rw [hW]; exact Bk.new _ _ _
  have HNW := Lib.hid (HN.out.below hbe)
  have HPW := Lib.hid (HP.out.below hbe)
  have HBE := Lib.hid hbe
  have HBX := Lib.hid hbx
  have HSZ := Lib.hid hsz
  have hgW : gN < W.heap.size := by omega
  have HW := Lib.hid hW
  have HG := Lib.hid hgo
  have HW1 := Lib.hid hw1
  have HO1 := Lib.hid hO1
  obtain ⟨X0, hX0⟩ : ∃ X : List UInt8, X = [] := ⟨_, rfl⟩
  have HX0 := Lib.hid hX0
  have hL0 : X0.length = 0 := by rw [hX0]; rfl
  clear hW hgo hw1 hsz hbe hbx hO1 hX0
  obtain ⟨y0, hy0⟩ : ∃ y : Nat, y = n1 + n2 * 8 + n3 * 16 := ⟨_, rfl⟩
  have by0 : y0 < 64 := by omega
  obtain ⟨y1, hy1⟩ : ∃ y : Nat, y = y0 + n4 * 64 := ⟨_, rfl⟩
  have by1 : y1 < 128 := by omega
  obtain ⟨y2, hy2⟩ : ∃ y : Nat, y = y1 + n5 * 128 := ⟨_, rfl⟩
  have by2 : y2 < 256 := by omega
  obtain ⟨y3, hy3⟩ : ∃ y : Nat, y = y2 + n6 * 256 := ⟨_, rfl⟩
  have by3 : y3 < 512 := by omega
  obtain ⟨y4, hy4⟩ : ∃ y : Nat, y = y3 + n7 * 512 := ⟨_, rfl⟩
  have by4 : y4 < 1024 := by omega
  obtain ⟨y5, hy5⟩ : ∃ y : Nat, y = y4 + n8 * 1024 := ⟨_, rfl⟩
  have by5 : y5 < 2048 := by omega
  obtain ⟨y6, hy6⟩ : ∃ y : Nat, y = y5 + n9 * 2048 := ⟨_, rfl⟩
  have by6 : y6 < 4096 := by omega
  obtain ⟨y7, hy7⟩ : ∃ y : Nat, y = y6 + n10 * 4096 := ⟨_, rfl⟩
  have by7 : y7 < 8192 := by omega
  obtain ⟨y8, hy8⟩ : ∃ y : Nat, y = y7 + n11 * 8192 := ⟨_, rfl⟩
  have by8 : y8 < 16384 := by omega
  have hk8 : y8 = keyInfo n1 n2 n3 n4 n5 n6 n7 n8 n9 n10 n11 := by unfold keyInfo; omega
  have HY0 := Lib.hid hy0
  have HY1 := Lib.hid hy1
  have HY2 := Lib.hid hy2
  have HY3 := Lib.hid hy3
  have HY4 := Lib.hid hy4
  have HY5 := Lib.hid hy5
  have HY6 := Lib.hid hy6
  have HY7 := Lib.hid hy7
  have HY8 := Lib.hid hy8
  have HK8 := Lib.hid hk8
  clear hy0 hy1 hy2 hy3 hy4 hy5 hy6 hy7 hy8 hk8
  have wk0 : IntKind.i64.wrap 0 = 0 := by decide
  have wk1 : IntKind.i64.wrap 1 = 1 := by decide
  have wk2 : IntKind.i64.wrap 2 = 2 := by decide
  have wk3 : IntKind.i64.wrap 3 = 3 := by decide
  have wk4 : IntKind.i64.wrap 4 = 4 := by decide
  have wk5 : IntKind.i64.wrap 5 = 5 := by decide
  have wk6 : IntKind.i64.wrap 6 = 6 := by decide
  have wk7 : IntKind.i64.wrap 7 = 7 := by decide
  have wk8 : IntKind.i64.wrap 8 = 8 := by decide
  have wk9 : IntKind.i64.wrap 9 = 9 := by decide
  have wk10 : IntKind.i64.wrap 10 = 10 := by decide
  have wk11 : IntKind.i64.wrap 11 = 11 := by decide
  have wk12 : IntKind.i64.wrap 12 = 12 := by decide
  have wk13 : IntKind.i64.wrap 13 = 13 := by decide
  have wk14 : IntKind.i64.wrap 14 = 14 := by decide
  have wu3 : IntKind.u64.wrap (d3.length : Int) = d3.length := IntWalk.u64_in _ (by omega)
  have HQ := Lib.hid q
  have HD0 := Lib.hid hd0
  have HD1 := Lib.hid hd1
  have HD2 := Lib.hid hd2
  clear q hd0 hd1 hd2
  go_enter Tryz.func21, Tryz.ntmps21
  go_wp2_with fail
  rw [← HW.out, ← HG.out, ← HW1.out]
  have hbw1 : Below w.heap.size w w1 := HBE.out.trans (HO1.out.be.mono (by have := HSZ.out; omega))
  have bx1 := (HBX.out.below HO1.out.be (by have := HSZ.out; omega)).cell 1
  simp only [List.getElem?_cons_zero, List.getElem?_cons_succ] at bx1
  have e3 := (low_below (g := gD) (i := oD + 3) hbw1 hgD).trans HE3.out
  have HNS1 := Lib.hid ((HNW.out.more (B' := W.heap.size) (by have := HSZ.out; omega)).below HO1.out.be)
  have c10 := HNS1.out.numE 10 (n10) (by omega) rfl
  have c16 := HNS1.out.numE 16 (n16) (by omega) rfl
  go_cut [223] from 194 to 222 (fun v wc => v = .bool false ∧ ∃ nq : Nat, wc = w1.drewN nq)
  case first =>
    rcases HQ.out with ⟨q1, q2⟩ | ⟨q1, q2⟩
    · have Q1 := Lib.hid q1
      have Q2 := Lib.hid q2
      have t1 : ((n10 : Int) == 0) = true := by first | (rw [beq_iff_eq]; omega) | (rw [beq_eq_false_iff_ne]; omega) | (rw [bne_iff_ne]; omega) | (rw [bne_eq_false_iff_eq]; omega) | (rw [decide_eq_true_eq]; omega) | (rw [decide_eq_false_iff_not]; omega)
      have t2 : decide (0 < d3.length) = false := by first | (rw [beq_iff_eq]; omega) | (rw [beq_eq_false_iff_ne]; omega) | (rw [bne_iff_ne]; omega) | (rw [bne_eq_false_iff_eq]; omega) | (rw [decide_eq_true_eq]; omega) | (rw [decide_eq_false_iff_not]; omega)
      have t3 : ((n10 : Int) == 1) = false := by first | (rw [beq_iff_eq]; omega) | (rw [beq_eq_false_iff_ne]; omega) | (rw [bne_iff_ne]; omega) | (rw [bne_eq_false_iff_eq]; omega) | (rw [decide_eq_true_eq]; omega) | (rw [decide_eq_false_iff_not]; omega)
      clear q1 q2
      go_quiet (fail)
      go_wp2_with fail
      go_meet
      case rel => exact ⟨rfl, _, rfl⟩
    · have Q1 := Lib.hid q1
      have Q2 := Lib.hid q2
      have t1 : ((n10 : Int) == 0) = false := by first | (rw [beq_iff_eq]; omega) | (rw [beq_eq_false_iff_ne]; omega) | (rw [bne_iff_ne]; omega) | (rw [bne_eq_false_iff_eq]; omega) | (rw [decide_eq_true_eq]; omega) | (rw [decide_eq_false_iff_not]; omega)
      have t3 : ((n10 : Int) == 1) = true := by first | (rw [beq_iff_eq]; omega) | (rw [beq_eq_false_iff_ne]; omega) | (rw [bne_iff_ne]; omega) | (rw [bne_eq_false_iff_eq]; omega) | (rw [decide_eq_true_eq]; omega) | (rw [decide_eq_false_iff_not]; omega)
      have t4 : ((n16 : Int) != (d3.length : Int)) = false := by first | (rw [beq_iff_eq]; omega) | (rw [beq_eq_false_iff_ne]; omega) | (rw [bne_iff_ne]; omega) | (rw [bne_eq_false_iff_eq]; omega) | (rw [decide_eq_true_eq]; omega) | (rw [decide_eq_false_iff_not]; omega)
      clear q1 q2
      go_quiet (fail)
      go_wp2_with fail
      go_meet
      case rel => exact ⟨rfl, _, rfl⟩
  case rest =>
  obtain ⟨rfl, nq, rfl⟩ := hcut
  clear c10 c16 e3 bx1 hbw1
  have hOq := HO1.out.drewN nq
  obtain ⟨w1, hwq⟩ : ∃ w', w' = w1.drewN nq := ⟨_, rfl⟩
  rw [← hwq] at hOq
  rw [← hwq]
  have HO1 := Lib.hid hOq
  clear hwq hOq
  have HNS1 := Lib.hid ((HNW.out.more (B' := W.heap.size) (by have := HSZ.out; omega)).below HO1.out.be)
  have c1 := HNS1.out.numE 1 (n1) (by omega) rfl
  have c2 := HNS1.out.numE 2 (n2) (by omega) rfl
  have c3 := HNS1.out.numE 3 (n3) (by omega) rfl
  go_wp2_with fail
  go_quiet (fail)
  clear c1 c2 c3
  have hOq := HO1.out.drewN nq
  obtain ⟨w1, hwq⟩ : ∃ w', w' = w1.drewN nq := ⟨_, rfl⟩
  rw [← hwq] at hOq
  rw [← hwq]
  have HO1 := Lib.hid hOq
  clear hwq hOq
  go_wp2_with fail
  go_loopw [12, 237] (fun v i wr => ∃ k : Nat, k ≤ 8 ∧ i = .int .i64 (([0, 1, 2, 3, 4, 5, 6, 7, 8] : List Int).getD k 0) ∧ v = .int .u64 (([(y0 : Int), (y1 : Int), (y2 : Int), (y3 : Int), (y4 : Int), (y5 : Int), (y6 : Int), (y7 : Int), (y8 : Int)] : List Int).getD k 0) ∧ Out W wr go []) (fun _ i _ => 8 - (intOf i).toNat)
  case atStart => exact ⟨0, by omega, rfl, congrArg (Value.int .u64) (by have := HY0.out; show _ = (y0 : Int); simp (disch := omega) only [orm64 3 4, orm64 4 6]; omega), HO1.out⟩
  case round =>
    obtain ⟨k, hk, rfl, rfl, hOk⟩ := hrel
    have HOK := Lib.hid hOk
    clear hOk
    rcases (by omega : k = 0 ∨ k = 1 ∨ k = 2 ∨ k = 3 ∨ k = 4 ∨ k = 5 ∨ k = 6 ∨ k = 7 ∨ k = 8) with rfl | rfl | rfl | rfl | rfl | rfl | rfl | rfl | rfl
    · have hns := (HNW.out.more (B' := W.heap.size) (by have := HSZ.out; omega)).below HOK.out.be
      have ck := hns.numE 4 n4 (by omega) rfl
      clear hns hk
      simp only [List.getD_cons_zero, List.getD_cons_succ]
      go_wp2_with fail
      go_roundw
      case rel =>
        first
        | exact ⟨1, by omega, rfl, congrArg (Value.int .u64) (by have := HY1.out; show _ = (y1 : Int); simp (disch := omega) only [orm64 6 7]; omega), HOK.out⟩
        | ((repeat apply Exists.intro); refine ⟨?_, rfl⟩; exact ⟨1, by omega, rfl, congrArg (Value.int .u64) (by have := HY1.out; show _ = (y1 : Int); simp (disch := omega) only [orm64 6 7]; omega), HOK.out⟩)
      case measure => simp [intOf]
    · have hns := (HNW.out.more (B' := W.heap.size) (by have := HSZ.out; omega)).below HOK.out.be
      have ck := hns.numE 5 n5 (by omega) rfl
      clear hns hk
      simp only [List.getD_cons_zero, List.getD_cons_succ]
      go_wp2_with fail
      go_roundw
      case rel =>
        first
        | exact ⟨2, by omega, rfl, congrArg (Value.int .u64) (by have := HY2.out; show _ = (y2 : Int); simp (disch := omega) only [orm64 7 8]; omega), HOK.out⟩
        | ((repeat apply Exists.intro); refine ⟨?_, rfl⟩; exact ⟨2, by omega, rfl, congrArg (Value.int .u64) (by have := HY2.out; show _ = (y2 : Int); simp (disch := omega) only [orm64 7 8]; omega), HOK.out⟩)
      case measure => simp [intOf]
    · have hns := (HNW.out.more (B' := W.heap.size) (by have := HSZ.out; omega)).below HOK.out.be
      have ck := hns.numE 6 n6 (by omega) rfl
      clear hns hk
      simp only [List.getD_cons_zero, List.getD_cons_succ]
      go_wp2_with fail
      go_roundw
      case rel =>
        first
        | exact ⟨3, by omega, rfl, congrArg (Value.int .u64) (by have := HY3.out; show _ = (y3 : Int); simp (disch := omega) only [orm64 8 9]; omega), HOK.out⟩
        | ((repeat apply Exists.intro); refine ⟨?_, rfl⟩; exact ⟨3, by omega, rfl, congrArg (Value.int .u64) (by have := HY3.out; show _ = (y3 : Int); simp (disch := omega) only [orm64 8 9]; omega), HOK.out⟩)
      case measure => simp [intOf]
    · have hns := (HNW.out.more (B' := W.heap.size) (by have := HSZ.out; omega)).below HOK.out.be
      have ck := hns.numE 7 n7 (by omega) rfl
      clear hns hk
      simp only [List.getD_cons_zero, List.getD_cons_succ]
      go_wp2_with fail
      go_roundw
      case rel =>
        first
        | exact ⟨4, by omega, rfl, congrArg (Value.int .u64) (by have := HY4.out; show _ = (y4 : Int); simp (disch := omega) only [orm64 9 10]; omega), HOK.out⟩
        | ((repeat apply Exists.intro); refine ⟨?_, rfl⟩; exact ⟨4, by omega, rfl, congrArg (Value.int .u64) (by have := HY4.out; show _ = (y4 : Int); simp (disch := omega) only [orm64 9 10]; omega), HOK.out⟩)
      case measure => simp [intOf]
    · have hns := (HNW.out.more (B' := W.heap.size) (by have := HSZ.out; omega)).below HOK.out.be
      have ck := hns.numE 8 n8 (by omega) rfl
      clear hns hk
      simp only [List.getD_cons_zero, List.getD_cons_succ]
      go_wp2_with fail
      go_roundw
      case rel =>
        first
        | exact ⟨5, by omega, rfl, congrArg (Value.int .u64) (by have := HY5.out; show _ = (y5 : Int); simp (disch := omega) only [orm64 10 11]; omega), HOK.out⟩
        | ((repeat apply Exists.intro); refine ⟨?_, rfl⟩; exact ⟨5, by omega, rfl, congrArg (Value.int .u64) (by have := HY5.out; show _ = (y5 : Int); simp (disch := omega) only [orm64 10 11]; omega), HOK.out⟩)
      case measure => simp [intOf]
    · have hns := (HNW.out.more (B' := W.heap.size) (by have := HSZ.out; omega)).below HOK.out.be
      have ck := hns.numE 9 n9 (by omega) rfl
      clear hns hk
      simp only [List.getD_cons_zero, List.getD_cons_succ]
      go_wp2_with fail
      go_roundw
      case rel =>
        first
        | exact ⟨6, by omega, rfl, congrArg (Value.int .u64) (by have := HY6.out; show _ = (y6 : Int); simp (disch := omega) only [orm64 11 12]; omega), HOK.out⟩
        | ((repeat apply Exists.intro); refine ⟨?_, rfl⟩; exact ⟨6, by omega, rfl, congrArg (Value.int .u64) (by have := HY6.out; show _ = (y6 : Int); simp (disch := omega) only [orm64 11 12]; omega), HOK.out⟩)
      case measure => simp [intOf]
    · have hns := (HNW.out.more (B' := W.heap.size) (by have := HSZ.out; omega)).below HOK.out.be
      have ck := hns.numE 10 n10 (by omega) rfl
      clear hns hk
      simp only [List.getD_cons_zero, List.getD_cons_succ]
      go_wp2_with fail
      go_roundw
      case rel =>
        first
        | exact ⟨7, by omega, rfl, congrArg (Value.int .u64) (by have := HY7.out; show _ = (y7 : Int); simp (disch := omega) only [orm64 12 13]; omega), HOK.out⟩
        | ((repeat apply Exists.intro); refine ⟨?_, rfl⟩; exact ⟨7, by omega, rfl, congrArg (Value.int .u64) (by have := HY7.out; show _ = (y7 : Int); simp (disch := omega) only [orm64 12 13]; omega), HOK.out⟩)
      case measure => simp [intOf]
    · have hns := (HNW.out.more (B' := W.heap.size) (by have := HSZ.out; omega)).below HOK.out.be
      have ck := hns.numE 11 n11 (by omega) rfl
      clear hns hk
      simp only [List.getD_cons_zero, List.getD_cons_succ]
      go_wp2_with fail
      go_roundw
      case rel =>
        first
        | exact ⟨8, by omega, rfl, congrArg (Value.int .u64) (by have := HY8.out; show _ = (y8 : Int); simp (disch := omega) only [orm64 13 14]; omega), HOK.out⟩
        | ((repeat apply Exists.intro); refine ⟨?_, rfl⟩; exact ⟨8, by omega, rfl, congrArg (Value.int .u64) (by have := HY8.out; show _ = (y8 : Int); simp (disch := omega) only [orm64 13 14]; omega), HOK.out⟩)
      case measure => simp [intOf]
    · clear hk
      simp only [List.getD_cons_zero, List.getD_cons_succ]
      have HO1 := HOK
      clear HOK
      have HNS1 := Lib.hid ((HNW.out.more (B' := W.heap.size) (by have := HSZ.out; omega)).below HO1.out.be)
      have c0 := HNS1.out.numE 0 (n0) (by omega) rfl
      simp only [Nat.add_zero] at c0
      go_wp2_with fail
      refine (HO1.out.put (n0) 1 _ _ (rfl) rfl (by omega) (by rw [List.length_nil]; omega)).mono ?_
      rintro e w2 ⟨rfl, hO2⟩
      rw [← HX0.out] at hO2
      clear c0
      obtain ⟨X1, hX1⟩ : ∃ X, X = X0 ++ Lib.beBytes 1 (n0) := ⟨_, rfl⟩
      rw [← hX1] at hO2
      have hL1 : X1.length = 1 := by rw [hX1, List.length_append, hL0, Lib.beBytes_length]
      have HO2 := Lib.hid hO2
      have HX1 := Lib.hid hX1
      clear hO2 hX1
      have HNS2 := Lib.hid ((HNW.out.more (B' := W.heap.size) (by have := HSZ.out; omega)).below HO2.out.be)
      go_wp2_with fail
      refine (HO2.out.put (y8) 2 _ _ (rfl) rfl (by omega) (by omega)).mono ?_
      rintro e w3 ⟨rfl, hO3⟩
      obtain ⟨X2, hX2⟩ : ∃ X, X = X1 ++ Lib.beBytes 2 (y8) := ⟨_, rfl⟩
      rw [← hX2] at hO3
      have hL2 : X2.length = 3 := by rw [hX2, List.length_append, hL1, Lib.beBytes_length]
      have HO3 := Lib.hid hO3
      have HX2 := Lib.hid hX2
      clear hO3 hX2
      have HNS3 := Lib.hid ((HNW.out.more (B' := W.heap.size) (by have := HSZ.out; omega)).below HO3.out.be)
      have c12 := HNS3.out.numE 12 (n12) (by omega) rfl
      go_wp2_with fail
      refine (HO3.out.put (n12) 2 _ _ (rfl) rfl (by omega) (by omega)).mono ?_
      rintro e w4 ⟨rfl, hO4⟩
      clear c12
      obtain ⟨X3, hX3⟩ : ∃ X, X = X2 ++ Lib.beBytes 2 (n12) := ⟨_, rfl⟩
      rw [← hX3] at hO4
      have hL3 : X3.length = 5 := by rw [hX3, List.length_append, hL2, Lib.beBytes_length]
      have HO4 := Lib.hid hO4
      have HX3 := Lib.hid hX3
      clear hO4 hX3
      have HNS4 := Lib.hid ((HNW.out.more (B' := W.heap.size) (by have := HSZ.out; omega)).below HO4.out.be)
      have c13 := HNS4.out.numE 13 (n13) (by omega) rfl
      go_wp2_with fail
      refine (HO4.out.put (n13) 8 _ _ (rfl) rfl (by omega) (by omega)).mono ?_
      rintro e w5 ⟨rfl, hO5⟩
      clear c13
      obtain ⟨X4, hX4⟩ : ∃ X, X = X3 ++ Lib.beBytes 8 (n13) := ⟨_, rfl⟩
      rw [← hX4] at hO5
      have hL4 : X4.length = 13 := by rw [hX4, List.length_append, hL3, Lib.beBytes_length]
      have HO5 := Lib.hid hO5
      have HX4 := Lib.hid hX4
      clear hO5 hX4
      have hbw5 : Below w.heap.size w w5 := HBE.out.trans (HO5.out.be.mono (by have := HSZ.out; omega))
      obtain ⟨AO, cO, hv1, ho1⟩ := HO5.out.sl
      have v0 := hv1.cell 0
      have bx1 := (HBX.out.below HO5.out.be (by have := HSZ.out; omega)).cell 1
      simp only [List.getElem?_cons_zero, List.getElem?_cons_succ] at v0 bx1
      have e0 := (low_below (g := gD) (i := oD + 0) hbw5 hgD).trans HE0.out
      simp only [Nat.add_zero] at e0
      have e1 := (low_below (g := gD) (i := oD + 1) hbw5 hgD).trans HE1.out
      have hneo : ∀ k, (Value.slice AO X4.length cO).ownBlock = some k → k ≠ go := fun k hk e => own_blk_ne ho1 hv1 (by decide) (by rw [hk, e])
      have HLX := Lib.hid hL4
      have hlx : X4.length ≤ 5000 := by omega
      clear hL4
      generalize hLL5 : X4.length = L5 at *
      have HLL5 := Lib.hid hLL5
      have HOB := Lib.hid (own_below ho1 (Below.refl _ w5).drew)
      have HCB := Lib.hid hv1.drew
      have HSN0 := Lib.hid ((HSD0.out.below hbw5).below (Below.refl _ _).drew)
      have HSN1 := Lib.hid ((HSD1.out.below hbw5).below (Below.refl _ _).drew)
      have HNEO := Lib.hid hneo
      have hbW5 := HO5.out.be.size
      have HBW5 := Lib.hid hbw5
      have hgoW := HO5.out.hg
      have hdd0 : d0.length ≤ 300 := by have := HD0.out; omega
      have hdd1 : d1.length ≤ 300 := by have := HD1.out; omega
      clear hbw5 hv1 ho1 hneo hLL5
      go_upto_region 51 with fail
      go_cut [9] from 269 to 279 (fun v wc => v = .pointer (some ⟨go, 0, none⟩) ∧ Out W wc go ((X4 ++ d0) ++ d1))
      case first =>
        go_region_law (first
          | (refine step_append_sl _ rfl (.tmp 269) (.tmp 273) _ rfl W.heap.size 5 i0 _ 1 Tryz.underlying25 hi0 hz0 hz1 hz2 rfl (.slice AO L5 cO) L5 (bcs X4) (by rfl) HOB.out w.heap.size A0 d0.length q0 (bcs d0) (by rfl) HSN0.out bcs_one (by simp only [maxLen]; omega) (by omega) (by simpa using hbW5) ?_; intro v5 wz ho5 hg5 hv5; obtain ⟨A5, c5, hv, hc5, hs5, hn5⟩ := own_form ho5.out; rw [hv]; have hkz := HCB.out.grown hg5 (fun e => HNEO.out _ e.symm rfl); have cz0 := hkz.cell 0; have fz0 := hkz.frozen 0; simp only [List.getElem?_cons_zero] at cz0; have hbz : Below W.heap.size w5.drew wz := (Below.refl _ _).grown hg5 (by simpa using hbW5) (fun k hk => (HOB.out.lt k hk).1); have hbz2 : Below w.heap.size w wz := HBW5.out.trans ((Below.refl _ w5).drew.trans (hbz.mono (by have := HSZ.out; omega))); have bz1 := ((HBX.out.below HO5.out.be (by have := HSZ.out; omega)).drew.below hbz (by have := HSZ.out; omega)).cell 1; simp only [List.getElem?_cons_zero, List.getElem?_cons_succ] at bz1; have ez1 := (low_below (g := gD) (i := oD + 1) hbz2 hgD).trans HE1.out; have hzW := hbz.size; have hw5 : wz.ownsRow W.heap.size 5 1 (.slice A5 (L5 + d0.length) c5) (L5 + d0.length) (bcs X4 ++ bcs d0) := (by rw [← hv]; exact ho5.out); have hne5 := own_blk_ne hw5 hkz (by decide))
          | (refine step_append_sl _ rfl (.tmp 274) (.tmp 278) _ rfl W.heap.size 5 i0 _ 1 Tryz.underlying25 hi0 hz0 hz1 hz2 rfl (.slice A5 (L5 + d0.length) c5) (L5 + d0.length) (bcs X4 ++ bcs d0) (by rfl) hw5 w.heap.size A1 d1.length q1 (bcs d1) (by rfl) (HSD1.out.below hbz2) bcs_one (by simp only [maxLen]; omega) (by omega) (by have := hbW5; have := hzW; simp at *; omega) ?_; intro v6 wy ho6 hg6 hv6; obtain ⟨A6, c6, hvv, hc6, hs6, hn6⟩ := own_form ho6.out; rw [hvv]; have hky := hkz.grown hg6 (fun e => hne5 e.symm); have cy0 := hky.cell 0; have fy0 := hky.frozen 0; simp only [List.getElem?_cons_zero] at cy0))
        all_goals
          go_wp2_with fail
          go_meet
          case rel =>
            have hb6 : Below W.heap.size W wy := (HO5.out.be.trans ((Below.refl _ w5).drew.trans hbz)).trans ((Below.refl _ _).grown hg6 (by simp at hzW; omega) (fun k hk => (hw5.lt k hk).1))
            have hO6 := out_appended (ys := (X4 ++ d0) ++ d1) hky ho6.out (by rw [List.length_append, List.length_append, HLL5.out]) (by rw [bcs_append, bcs_append]) hb6 hgoW
            rw [hvv] at hO6
            exact ⟨rfl, hO6⟩
      case rest =>
      obtain ⟨w7, ew7⟩ : ∃ w7, w7 = wc := ⟨_, rfl⟩
      subst ew7
      obtain ⟨rfl, hO7⟩ := hcut
      have hL4 : X4.length = L5 := HLL5.out
      have hL5' : L5 = 13 := by have := HLX.out; omega
      obtain ⟨X6, hX6⟩ : ∃ X, X = (X4 ++ d0) ++ d1 := ⟨_, rfl⟩
      rw [← hX6] at hO7
      have hL6 : X6.length = 61 := by have h0 := HD0.out; have h1 := HD1.out; rw [hX6, List.length_append, List.length_append, hL4]; omega
      have HO7 := Lib.hid hO7
      have HX6 := Lib.hid hX6
      clear hO7 hX6 hL4 hL5' v0 bx1 e0 e1
      have HNS7 := Lib.hid ((HNW.out.more (B' := W.heap.size) (by have := HSZ.out; omega)).below HO7.out.be)
      have c14 := HNS7.out.numE 14 (n14) (by omega) rfl
      go_wp2_with fail
      refine (HO7.out.put (n14) 8 _ _ (rfl) rfl (by omega) (by omega)).mono ?_
      rintro e w8 ⟨rfl, hO8⟩
      clear c14
      obtain ⟨X7, hX7⟩ : ∃ X, X = X6 ++ Lib.beBytes 8 (n14) := ⟨_, rfl⟩
      rw [← hX7] at hO8
      have hL7 : X7.length = 69 := by rw [hX7, List.length_append, hL6, Lib.beBytes_length]
      have HO8 := Lib.hid hO8
      have HX7 := Lib.hid hX7
      clear hO8 hX7
      have HNS8 := Lib.hid ((HNW.out.more (B' := W.heap.size) (by have := HSZ.out; omega)).below HO8.out.be)
      have c15 := HNS8.out.numE 15 (n15) (by omega) rfl
      go_wp2_with fail
      refine (HO8.out.put (n15) 8 _ _ (rfl) rfl (by omega) (by omega)).mono ?_
      rintro e w9 ⟨rfl, hO9⟩
      clear c15
      obtain ⟨X8, hX8⟩ : ∃ X, X = X7 ++ Lib.beBytes 8 (n15) := ⟨_, rfl⟩
      rw [← hX8] at hO9
      have hL8 : X8.length = 77 := by rw [hX8, List.length_append, hL7, Lib.beBytes_length]
      have HO9 := Lib.hid hO9
      have HX8 := Lib.hid hX8
      clear hO9 hX8
      have hdd2 : d2.length ≤ 300 := by have := HD2.out; omega
      have hbw9 : Below w.heap.size w w9 := HBE.out.trans (HO9.out.be.mono (by have := HSZ.out; omega))
      obtain ⟨AO, cO, hv1, ho1⟩ := HO9.out.sl
      have v0 := hv1.cell 0
      have bx1 := (HBX.out.below HO9.out.be (by have := HSZ.out; omega)).cell 1
      simp only [List.getElem?_cons_zero, List.getElem?_cons_succ] at v0 bx1
      have e2 := (low_below (g := gD) (i := oD + 2) hbw9 hgD).trans HE2.out
      skip
      have hneo : ∀ k, (Value.slice AO X8.length cO).ownBlock = some k → k ≠ go := fun k hk e => own_blk_ne ho1 hv1 (by decide) (by rw [hk, e])
      skip
      have hlx : X8.length ≤ 5000 := by omega
      have HLX := Lib.hid hL8
      clear hL8
      generalize hLL9 : X8.length = L9 at *
      have HLL9 := Lib.hid hLL9
      have HOB := Lib.hid (own_below ho1 (Below.refl _ w9).drew)
      have HCB := Lib.hid hv1.drew
      have HSN := Lib.hid ((HSD2.out.below hbw9).below (Below.refl _ _).drew)
      have HNEO := Lib.hid hneo
      have hbW9 := HO9.out.be.size
      clear hbw9 hv1 ho1 hneo hLL9
      go_upto_region 54 with fail
      refine wp_region_tail 5 (by kernel_rfl) (by kernel_rfl) ?_
      simp only [List.take_succ_cons, List.take_zero, List.drop_succ_cons, List.drop_zero]
      repeat still_step
      refine wpStill_nil ?_
      go_upto_region 55 with (at_builtin; refine wpList_append_sl _ rfl (.tmp 290) (.tmp 294) _ rfl W.heap.size 5 i0 _ 1 Tryz.underlying25 hi0 hz0 hz1 hz2 rfl (.slice AO L9 cO) L9 (bcs X8) rfl HOB.out w.heap.size A2 d2.length q2 (bcs d2) rfl HSN.out bcs_one (by simp only [maxLen]; omega) (by omega) (by simpa using hbW9) ?_; intro v5 wz ho5 hg5 hv5; obtain ⟨A5, c5, hv, hc5, hs5, hn5⟩ := own_form ho5.out; rw [hv]; have hk2 := HCB.out.grown hg5 (fun e => HNEO.out _ e.symm rfl); have c0 := hk2.cell 0; have f0 := hk2.frozen 0; simp only [List.getElem?_cons_zero] at c0)
      have hb5 : Below W.heap.size W wz := HO9.out.be.trans (((Below.refl _ w9).drew).trans ((Below.refl _ _).grown hg5 (by simpa using hbW9) (fun k hk => (HOB.out.lt k hk).1)))
      have hO10 := out_appended (ys := X8 ++ d2) hk2 ho5.out (by rw [List.length_append, HLL9.out]) (by rw [bcs_append]) hb5 HO9.out.hg
      rw [hv] at hO10
      obtain ⟨w10, hw10⟩ : ∃ w', w' = wz.setCell ⟨go, 0, none⟩ (.slice A5 (L9 + d2.length) c5) := ⟨_, rfl⟩
      rw [← hw10] at hO10
      rw [← hw10]
      have hL8 : X8.length = L9 := HLL9.out
      obtain ⟨X9, hX9⟩ : ∃ X, X = X8 ++ d2 := ⟨_, rfl⟩
      rw [← hX9] at hO10
      have hL9 : X9.length = 77 + d2.length := by have := HLX.out; rw [hX9, List.length_append, hL8]; omega
      have HO10 := Lib.hid hO10
      have HX9 := Lib.hid hX9
      clear hO10 hX9 hw10 hk2 ho5 hg5 hv5 hv hs5 hc5 hn5 c0 f0 hb5 v0 bx1 e2 hL8 hlx
      have hL9 : X9.length = 93 := by have := HD2.out; omega
      have HNS10 := Lib.hid ((HNW.out.more (B' := W.heap.size) (by have := HSZ.out; omega)).below HO10.out.be)
      have c16 := HNS10.out.numE 16 (n16) (by omega) rfl
      go_wp2_with fail
      refine (HO10.out.put (n16) 2 _ _ (rfl) rfl (by omega) (by omega)).mono ?_
      rintro e w11 ⟨rfl, hO11⟩
      clear c16
      obtain ⟨X10, hX10⟩ : ∃ X, X = X9 ++ Lib.beBytes 2 (n16) := ⟨_, rfl⟩
      rw [← hX10] at hO11
      have hL10 : X10.length = 95 := by rw [hX10, List.length_append, hL9, Lib.beBytes_length]
      have HO11 := Lib.hid hO11
      have HX10 := Lib.hid hX10
      clear hO11 hX10
      have hbw11 : Below w.heap.size w w11 := HBE.out.trans (HO11.out.be.mono (by have := HSZ.out; omega))
      obtain ⟨AO, cO, hv1, ho1⟩ := HO11.out.sl
      have v0 := hv1.cell 0
      have bx1 := (HBX.out.below HO11.out.be (by have := HSZ.out; omega)).cell 1
      simp only [List.getElem?_cons_zero, List.getElem?_cons_succ] at v0 bx1
      have e3 := (low_below (g := gD) (i := oD + 3) hbw11 hgD).trans HE3.out
      skip
      have hneo : ∀ k, (Value.slice AO X10.length cO).ownBlock = some k → k ≠ go := fun k hk e => own_blk_ne ho1 hv1 (by decide) (by rw [hk, e])
      skip
      have hlx : X10.length ≤ 5000 := by omega
      have HLX := Lib.hid hL10
      clear hL10
      generalize hLL11 : X10.length = L11 at *
      have HLL11 := Lib.hid hLL11
      have HOB := Lib.hid (own_below ho1 (Below.refl _ w11).drew)
      have HCB := Lib.hid hv1.drew
      have HSN := Lib.hid ((HSD3.out.below hbw11).below (Below.refl _ _).drew)
      have HNEO := Lib.hid hneo
      have hbW11 := HO11.out.be.size
      clear hbw11 hv1 ho1 hneo hLL11
      go_upto_region 56 with fail
      refine wp_region_tail 5 (by kernel_rfl) (by kernel_rfl) ?_
      simp only [List.take_succ_cons, List.take_zero, List.drop_succ_cons, List.drop_zero]
      repeat still_step
      refine wpStill_nil ?_
      go_upto_region 108 with (at_builtin; refine wpList_append_sl _ rfl (.tmp 301) (.tmp 305) _ rfl W.heap.size 5 i0 _ 1 Tryz.underlying25 hi0 hz0 hz1 hz2 rfl (.slice AO L11 cO) L11 (bcs X10) rfl HOB.out w.heap.size A3 d3.length q3 (bcs d3) rfl HSN.out bcs_one (by simp only [maxLen]; omega) (by omega) (by simpa using hbW11) ?_; intro v5 wz ho5 hg5 hv5; obtain ⟨A5, c5, hv, hc5, hs5, hn5⟩ := own_form ho5.out; rw [hv]; have hk2 := HCB.out.grown hg5 (fun e => HNEO.out _ e.symm rfl); have c0 := hk2.cell 0; have f0 := hk2.frozen 0; simp only [List.getElem?_cons_zero] at c0)
      have hb5 : Below W.heap.size W wz := HO11.out.be.trans (((Below.refl _ w11).drew).trans ((Below.refl _ _).grown hg5 (by simpa using hbW11) (fun k hk => (HOB.out.lt k hk).1)))
      have hO12 := out_appended (ys := X10 ++ d3) hk2 ho5.out (by rw [List.length_append, HLL11.out]) (by rw [bcs_append]) hb5 HO11.out.hg
      rw [hv] at hO12
      obtain ⟨w12, hw12⟩ : ∃ w', w' = wz.setCell ⟨go, 0, none⟩ (.slice A5 (L11 + d3.length) c5) := ⟨_, rfl⟩
      rw [← hw12] at hO12
      rw [← hw12]
      have hL10 : X10.length = L11 := HLL11.out
      obtain ⟨X11, hX11⟩ : ∃ X, X = X10 ++ d3 := ⟨_, rfl⟩
      rw [← hX11] at hO12
      have hL11 : X11.length = 95 + d3.length := by have := HLX.out; rw [hX11, List.length_append, hL10]; omega
      have HO12 := Lib.hid hO12
      have HX11 := Lib.hid hX11
      clear hO12 hX11 hw12 hk2 ho5 hg5 hv5 hv hs5 hc5 hn5 c0 f0 hb5 v0 bx1 e3 hL10 hlx
      obtain ⟨AO, cO, hv2, ho2⟩ := HO12.out.sl
      have v0 := hv2.cell 0
      have p3 := (HBX.out.below HO12.out.be (by have := HSZ.out; omega)).cell 3
      simp only [List.getElem?_cons_zero, List.getElem?_cons_succ] at v0 p3
      have hP2 := (HPW.out.more (B' := W.heap.size) (by have := HSZ.out; omega)).below HO12.out.be
      have hbW := HO12.out.be.size
      have HP2 := Lib.hid hP2
      have HOW2 := Lib.hid ho2
      clear hP2 ho2 hv2
      have hl2 : X11.length ≤ 1000 := by omega
      clear hL11
      generalize hLL : X11.length = L at *
      have HLL := Lib.hid hLL
      clear hLL
      go_wp2_with (at_builtin; refine wpList_append_sl _ rfl (.tmp 620) (.tmp 622) _ rfl W.heap.size 5 i0 _ 1 Tryz.underlying25 hi0 hz0 hz1 hz2 rfl (.slice AO L cO) L (bcs X11) rfl HOW2.out W.heap.size AB pay.length cB (bcs pay) rfl HP2.out bcs_one (by simp only [maxLen]; omega) (by omega) hbW ?_; intro v5 wz ho5 hg5 hv5)
      obtain ⟨A5, c5, hv, hc5, hs5, hn5⟩ := own_form ho5.out
      rw [hv]
      have hb5 : Below W.heap.size w12 wz := (Below.refl _ _).grown hg5 hbW (fun k hk => (HOW2.out.lt k hk).1)
      have hz1' := HSZ.out
      refine hR.out _ _ ⟨A5, L + pay.length, c5, rfl, HBE.out.trans ((HO12.out.be.trans hb5).mono (by omega)), hc5, fun h => by have := hn5 h; omega, ?_⟩
      refine Sl.cast hs5 ?_
      rw [HX11.out, HX10.out, HX9.out, HX8.out, HX7.out, HX6.out, HX4.out, HX3.out, HX2.out, HX1.out, HX0.out, List.nil_append, ← bcs_append]
      rw [HK8.out]; simp [keyHdr]
set_option maxRecDepth 1000000 in
set_option maxHeartbeats 10000000 in
theorem sw_key_no1 (fix : Bool) (n0 n1 n2 n3 n4 n5 n6 n7 n8 n9 n10 n11 n12 n13 n14 n15 n16 : Nat) (d0 d1 d2 d3 : List UInt8) (h0 : n0 < 256) (h1 : n1 < 8) (h2 : n2 < 2) (h3 : n3 < 4) (h4 : n4 < 2) (h5 : n5 < 2) (h6 : n6 < 2) (h7 : n7 < 2) (h8 : n8 < 2) (h9 : n9 < 2) (h10 : n10 < 2) (h11 : n11 < 2) (h12 : n12 < 65536) (h13 : n13 < 18446744073709551616) (h14 : n14 < 18446744073709551616) (h15 : n15 < 18446744073709551616) (h16 : n16 < 65536) (hd0 : d0.length = 32) (hd1 : d1.length = 16) (hd2 : d2.length = 16) (hd3 : d3.length ≤ 300) (qa : n10 = 0) (qb : 0 < d3.length) (pay : List UInt8) (hp : pay.length ≤ 300) (v : Value) (w : World) (hv : Lyr w w.heap.size v [n0, n1, n2, n3, n4, n5, n6, n7, n8, n9, n10, n11, n12, n13, n14, n15, n16] [d0, d1, d2, d3] pay) :
    Calls Tryz.prog 21 #[.string k_eapolkey, v, .bool fix] w fun e w' => e = .returned (.tuple #[.slice none 0 0, .bool false]) ∧ Below w.heap.size w w' := by
  refine calls_hid fun R hR => ?_
  obtain ⟨i0, hi0, hz0, hz1, hz2⟩ := info_parts info5
  obtain ⟨AN, cN, AD, cD, AP, cP, AB, cB, ds, rfl, hN, hD, hE, hP⟩ := hv
  obtain ⟨A0, q0, hq0, hs0⟩ := hE.2 0 d0 rfl
  obtain ⟨A1, q1, hq1, hs1⟩ := hE.2 1 d1 rfl
  obtain ⟨A2, q2, hq2, hs2⟩ := hE.2 2 d2 rfl
  obtain ⟨A3, q3, hq3, hs3⟩ := hE.2 3 d3 rfl
  simp only [List.length_cons, List.length_nil, Nat.zero_add, Nat.reduceAdd] at hN hD ⊢
  obtain ⟨gD, oD, rfl, hgD, hcD⟩ := hD.2 (by omega)
  have HE0 := Lib.hid (hcD 0 _ hq0)
  have HSD0 := Lib.hid hs0
  have HE1 := Lib.hid (hcD 1 _ hq1)
  have HSD1 := Lib.hid hs1
  have HE2 := Lib.hid (hcD 2 _ hq2)
  have HSD2 := Lib.hid hs2
  have HE3 := Lib.hid (hcD 3 _ hq3)
  have HSD3 := Lib.hid hs3
  have HN := Lib.hid hN
  have HP := Lib.hid hP
  clear hN hD hE hP hq0 hs0 hq1 hs1 hq2 hs2 hq3 hs3 hcD
  have hmf : ∀ (fn : Fn) (first cap : Array Value) (w : World), (Instr.makeFunc fn first cap).run Tryz.prog w = .ok (.func fn first cap) w := fun _ _ _ _ => rfl
  obtain ⟨gN, oN, rfl, hgN, _⟩ := HN.out.2 (by omega)
  obtain ⟨W, hW⟩ : ∃ W, W = w.alloc (.cells #[.slice (some ⟨gN, oN, none⟩) 17 cN, .slice (some ⟨gD, oD, none⟩) 4 cD, .slice AP 0 cP, .slice AB pay.length cB] 27) := ⟨_, rfl⟩
  obtain ⟨go, hgo⟩ : ∃ go, go = w.heap.size + 1 + 1 := ⟨_, rfl⟩
  obtain ⟨w1, hw1⟩ : ∃ w1, w1 = (W.alloc (.cells #[] 5)).alloc (.cells #[.slice (some ⟨w.heap.size + 1, 0, none⟩) 0 0] 25) := ⟨_, rfl⟩
  have hsz : W.heap.size = w.heap.size + 1 := by rw [hW]; simp
  have hO1 : Out W w1 go [] := by rw [hw1, hgo, ← hsz]; exact Out.start W _ rfl
  have hbe : Below w.heap.size w W := by rw [hW]; exact (Below.refl _ _).alloc (Nat.le_refl _) _
  have hbx : Bk W w.heap.size 27 [.slice (some ⟨gN, oN, none⟩) 17 cN, .slice (some ⟨gD, oD, none⟩) 4 cD, .slice AP 0 cP, .slice AB pay.length cB] := by rw [hW]; exact Bk.new _ _ _
  have HNW := Lib.hid (HN.out.below hbe)
  have HPW := Lib.hid (HP.out.below hbe)
  have HBE := Lib.hid hbe
  have HBX := Lib.hid hbx
  have HSZ := Lib.hid hsz
  have hgW : gN < W.heap.size := by omega
  have HW := Lib.hid hW
  have HG := Lib.hid hgo
  have HW1 := Lib.hid hw1
  have HO1 := Lib.hid hO1
  obtain ⟨X0, hX0⟩ : ∃ X : List UInt8, X = [] := ⟨_, rfl⟩
  have HX0 := Lib.hid hX0
  have hL0 : X0.length = 0 := by rw [hX0]; rfl
  clear hW hgo hw1 hsz hbe hbx hO1 hX0
  have wu3 : IntKind.u64.wrap (d3.length : Int) = d3.length := IntWalk.u64_in _ (by omega)
  have t1 : ((n10 : Int) == 0) = true := by first | (rw [beq_iff_eq]; omega) | (rw [beq_eq_false_iff_ne]; omega) | (rw [bne_iff_ne]; omega) | (rw [bne_eq_false_iff_eq]; omega) | (rw [decide_eq_true_eq]; omega) | (rw [decide_eq_false_iff_not]; omega)
  have t2 : decide (0 < d3.length) = true := by first | (rw [beq_iff_eq]; omega) | (rw [beq_eq_false_iff_ne]; omega) | (rw [bne_iff_ne]; omega) | (rw [bne_eq_false_iff_eq]; omega) | (rw [decide_eq_true_eq]; omega) | (rw [decide_eq_false_iff_not]; omega)
  have QA := Lib.hid qa
  clear qa
  have HD0 := Lib.hid hd0
  have HD1 := Lib.hid hd1
  have HD2 := Lib.hid hd2
  clear hd0 hd1 hd2
  go_enter Tryz.func21, Tryz.ntmps21
  go_wp2_with fail
  rw [← HW.out, ← HG.out, ← HW1.out]
  have hbw1 : Below w.heap.size w w1 := HBE.out.trans (HO1.out.be.mono (by have := HSZ.out; omega))
  have bx1 := (HBX.out.below HO1.out.be (by have := HSZ.out; omega)).cell 1
  simp only [List.getElem?_cons_zero, List.getElem?_cons_succ] at bx1
  have e3 := (low_below (g := gD) (i := oD + 3) hbw1 hgD).trans HE3.out
  have HNS1 := Lib.hid ((HNW.out.more (B' := W.heap.size) (by have := HSZ.out; omega)).below HO1.out.be)
  have c10 := HNS1.out.numE 10 (n10) (by omega) rfl
  have c16 := HNS1.out.numE 16 (n16) (by omega) rfl
  go_quiet (fail)
  clear c10 c16 e3 bx1 hbw1
  have hOq := HO1.out.drewN nq
  obtain ⟨w1, hwq⟩ : ∃ w', w' = w1.drewN nq := ⟨_, rfl⟩
  rw [← hwq] at hOq
  rw [← hwq]
  have HO1 := Lib.hid hOq
  clear hwq hOq
  go_wp2_with fail
  exact hR.out _ _ ⟨rfl, HBE.out.trans ((HO1.out.be).mono (by have := HSZ.out; omega))⟩
set_option maxRecDepth 1000000 in
set_option maxHeartbeats 10000000 in
theorem sw_key_no2 (fix : Bool) (n0 n1 n2 n3 n4 n5 n6 n7 n8 n9 n10 n11 n12 n13 n14 n15 n16 : Nat) (d0 d1 d2 d3 : List UInt8) (h0 : n0 < 256) (h1 : n1 < 8) (h2 : n2 < 2) (h3 : n3 < 4) (h4 : n4 < 2) (h5 : n5 < 2) (h6 : n6 < 2) (h7 : n7 < 2) (h8 : n8 < 2) (h9 : n9 < 2) (h10 : n10 < 2) (h11 : n11 < 2) (h12 : n12 < 65536) (h13 : n13 < 18446744073709551616) (h14 : n14 < 18446744073709551616) (h15 : n15 < 18446744073709551616) (h16 : n16 < 65536) (hd0 : d0.length = 32) (hd1 : d1.length = 16) (hd2 : d2.length = 16) (hd3 : d3.length ≤ 300) (qa : n10 = 1) (qb : n16 ≠ d3.length) (pay : List UInt8) (hp : pay.length ≤ 300) (v : Value) (w : World) (hv : Lyr w w.heap.size v [n0, n1, n2, n3, n4, n5, n6, n7, n8, n9, n10, n11, n12, n13, n14, n15, n16] [d0, d1, d2, d3] pay) :
    Calls Tryz.prog 21 #[.string k_eapolkey, v, .bool fix] w fun e w' => e = .returned (.tuple #[.slice none 0 0, .bool false]) ∧ Below w.heap.size w w' := by
  refine calls_hid fun R hR => ?_
  obtain ⟨i0, hi0, hz0, hz1, hz2⟩ := info_parts info5
  obtain ⟨AN, cN, AD, cD, AP, cP, AB, cB, ds, rfl, hN, hD, hE, hP⟩ := hv
  obtain ⟨A0, q0, hq0, hs0⟩ := hE.2 0 d0 rfl
  obtain ⟨A1, q1, hq1, hs1⟩ := hE.2 1 d1 rfl
  obtain ⟨A2, q2, hq2, hs2⟩ := hE.2 2 d2 rfl
  obtain ⟨A3, q3, hq3, hs3⟩ := hE.2 3 d3 rfl
  simp only [List.length_cons, List.length_nil, Nat.zero_add, Nat.reduceAdd] at hN hD ⊢
  obtain ⟨gD, oD, rfl, hgD, hcD⟩ := hD.2 (by omega)
  have HE0 := Lib.hid (hcD 0 _ hq0)
  have HSD0 := Lib.hid hs0
  have HE1 := Lib.hid (hcD 1 _ hq1)
  have HSD1 := Lib.hid hs1
  have HE2 := Lib.hid (hcD 2 _ hq2)
  have HSD2 := Lib.hid hs2
  have HE3 := Lib.hid (hcD 3 _ hq3)
  have HSD3 := Lib.hid hs3
  have HN := Lib.hid hN
  have HP := Lib.hid hP
  clear hN hD hE hP hq0 hs0 hq1 hs1 hq2 hs2 hq3 hs3 hcD
  have hmf : ∀ (fn : Fn) (first cap : Array Value) (w : World), (Instr.makeFunc fn first cap).run Tryz.prog w = .ok (.func fn first cap) w := fun _ _ _ _ => rfl
  obtain ⟨gN, oN, rfl, hgN, _⟩ := HN.out.2 (by omega)
  obtain ⟨W, hW⟩ : ∃ W, W = w.alloc (.cells #[.slice (some ⟨gN, oN, none⟩) 17 cN, .slice (some ⟨gD, oD, none⟩) 4 cD, .slice AP 0 cP, .slice AB pay.length cB] 27) := ⟨_, rfl⟩
  obtain ⟨go, hgo⟩ : ∃ go, go = w.heap.size + 1 + 1 := ⟨_, rfl⟩
  obtain ⟨w1, hw1⟩ : ∃ w1, w1 = (W.alloc (.cells #[] 5)).alloc (.cells #[.slice (some ⟨w.heap.size + 1, 0, none⟩) 0 0] 25) := ⟨_, rfl⟩
  have hsz : W.heap.size = w.heap.size + 1 := by rw [hW]; simp
  have hO1 : Out W w1 go [] := by rw [hw1, hgo, ← hsz]; exact Out.start W _ rfl
  have hbe : Below w.heap.size w W := by rw [hW]; exact (Below.refl _ _).alloc (Nat.le_refl _) _
  have hbx : Bk W w.heap.size 27 [.slice (some ⟨gN, oN, none⟩) 17 cN, .slice (some ⟨gD, oD, none⟩) 4 cD, .slice AP 0 cP, .slice AB pay.length cB] := by rw [hW]; exact Bk.new _ _ _
  have HNW := Lib.hid (HN.out.below hbe)
  have HPW := Lib.hid (HP.out.below hbe)
  have HBE := Lib.hid hbe
  have HBX := Lib.hid hbx
  have HSZ := Lib.hid hsz
  have hgW : gN < W.heap.size := by omega
  have HW := Lib.hid hW
  have HG := Lib.hid hgo
  have HW1 := Lib.hid hw1
  have HO1 := Lib.hid hO1
  obtain ⟨X0, hX0⟩ : ∃ X : List UInt8, X = [] := ⟨_, rfl⟩
  have HX0 := Lib.hid hX0
  have hL0 : X0.length = 0 := by rw [hX0]; rfl
  clear hW hgo hw1 hsz hbe hbx hO1 hX0
  have wu3 : IntKind.u64.wrap (d3.length : Int) = d3.length := IntWalk.u64_in _ (by omega)
  have t1 : ((n10 : Int) == 0) = false := by first | (rw [beq_iff_eq]; omega) | (rw [beq_eq_false_iff_ne]; omega) | (rw [bne_iff_ne]; omega) | (rw [bne_eq_false_iff_eq]; omega) | (rw [decide_eq_true_eq]; omega) | (rw [decide_eq_false_iff_not]; omega)
  have t3 : ((n10 : Int) == 1) = true := by first | (rw [beq_iff_eq]; omega) | (rw [beq_eq_false_iff_ne]; omega) | (rw [bne_iff_ne]; omega) | (rw [bne_eq_false_iff_eq]; omega) | (rw [decide_eq_true_eq]; omega) | (rw [decide_eq_false_iff_not]; omega)
  have t4 : ((n16 : Int) != (d3.length : Int)) = true := by first | (rw [beq_iff_eq]; omega) | (rw [beq_eq_false_iff_ne]; omega) | (rw [bne_iff_ne]; omega) | (rw [bne_eq_false_iff_eq]; omega) | (rw [decide_eq_true_eq]; omega) | (rw [decide_eq_false_iff_not]; omega)
  have QA := Lib.hid qa
  clear qa
  have HD0 := Lib.hid hd0
  have HD1 := Lib.hid hd1
  have HD2 := Lib.hid hd2
  clear hd0 hd1 hd2
  go_enter Tryz.func21, Tryz.ntmps21
  go_wp2_with fail
  rw [← HW.out, ← HG.out, ← HW1.out]
  have hbw1 : Below w.heap.size w w1 := HBE.out.trans (HO1.out.be.mono (by have := HSZ.out; omega))
  have bx1 := (HBX.out.below HO1.out.be (by have := HSZ.out; omega)).cell 1
  simp only [List.getElem?_cons_zero, List.getElem?_cons_succ] at bx1
  have e3 := (low_below (g := gD) (i := oD + 3) hbw1 hgD).trans HE3.out
  have HNS1 := Lib.hid ((HNW.out.more (B' := W.heap.size) (by have := HSZ.out; omega)).below HO1.out.be)
  have c10 := HNS1.out.numE 10 (n10) (by omega) rfl
  have c16 := HNS1.out.numE 16 (n16) (by omega) rfl
  go_quiet (fail)
  clear c10 c16 e3 bx1 hbw1
  have hOq := HO1.out.drewN nq
  obtain ⟨w1, hwq⟩ : ∃ w', w' = w1.drewN nq := ⟨_, rfl⟩
  rw [← hwq] at hOq
  rw [← hwq]
  have HO1 := Lib.hid hOq
  clear hwq hOq
  go_wp2_with fail
  exact hR.out _ _ ⟨rfl, HBE.out.trans ((HO1.out.be).mono (by have := HSZ.out; omega))⟩
def outKey (nums : List Nat) (data : List (List UInt8)) (pay : List UInt8) : List UInt8 := keyHdr (nums.getD 0 0) (nums.getD 1 0) (nums.getD 2 0) (nums.getD 3 0) (nums.getD 4 0) (nums.getD 5 0) (nums.getD 6 0) (nums.getD 7 0) (nums.getD 8 0) (nums.getD 9 0) (nums.getD 10 0) (nums.getD 11 0) (nums.getD 12 0) (nums.getD 13 0) (nums.getD 14 0) (nums.getD 15 0) (nums.getD 16 0) (data.getD 0 []) (data.getD 1 []) (data.getD 2 []) (data.getD 3 []) ++ pay
theorem swrite_key (fix : Bool) : SWrite k_eapolkey fix [8, 3, 1, 2, 1, 1, 1, 1, 1, 1, 1, 1, 16, 64, 64, 64, 16] [32, 16, 16, 0] (fun nums data _ => (nums.getD 10 0) = 0 ∧ (data.getD 3 []).length = 0 ∨ (nums.getD 10 0) = 1 ∧ (nums.getD 16 0) = (data.getD 3 []).length) outKey := by
  intro nums data pay v w hf hv
  have hn := hf.nN
  have hd := hf.nD
  match nums, hn, data, hd with
  | [n0, n1, n2, n3, n4, n5, n6, n7, n8, n9, n10, n11, n12, n13, n14, n15, n16], _, [d0, d1, d2, d3], _ =>
  have h0 : n0 < 256 := hf.num 0 (by decide)
  have h1 : n1 < 8 := hf.num 1 (by decide)
  have h2 : n2 < 2 := hf.num 2 (by decide)
  have h3 : n3 < 4 := hf.num 3 (by decide)
  have h4 : n4 < 2 := hf.num 4 (by decide)
  have h5 : n5 < 2 := hf.num 5 (by decide)
  have h6 : n6 < 2 := hf.num 6 (by decide)
  have h7 : n7 < 2 := hf.num 7 (by decide)
  have h8 : n8 < 2 := hf.num 8 (by decide)
  have h9 : n9 < 2 := hf.num 9 (by decide)
  have h10 : n10 < 2 := hf.num 10 (by decide)
  have h11 : n11 < 2 := hf.num 11 (by decide)
  have h12 : n12 < 65536 := hf.num 12 (by decide)
  have h13 : n13 < 18446744073709551616 := hf.num 13 (by decide)
  have h14 : n14 < 18446744073709551616 := hf.num 14 (by decide)
  have h15 : n15 < 18446744073709551616 := hf.num 15 (by decide)
  have h16 : n16 < 65536 := hf.num 16 (by decide)
  have hd0 : d0.length ≤ 300 := (hf.dat 0 (by decide)).2
  have hs0 : d0.length = 32 := (hf.dat 0 (by decide)).1 (by decide)
  have hd1 : d1.length ≤ 300 := (hf.dat 1 (by decide)).2
  have hs1 : d1.length = 16 := (hf.dat 1 (by decide)).1 (by decide)
  have hd2 : d2.length ≤ 300 := (hf.dat 2 (by decide)).2
  have hs2 : d2.length = 16 := (hf.dat 2 (by decide)).1 (by decide)
  have hd3 : d3.length ≤ 300 := (hf.dat 3 (by decide)).2
  have hp := hf.pay
  clear hf
  rcases (show n10 = 0 ∨ n10 = 1 by omega) with q1 | q1
  · rcases Nat.eq_zero_or_pos d3.length with q2 | q2
    · refine (sw_key fix n0 n1 n2 n3 n4 n5 n6 n7 n8 n9 n10 n11 n12 n13 n14 n15 n16 d0 d1 d2 d3 h0 h1 h2 h3 h4 h5 h6 h7 h8 h9 h10 h11 h12 h13 h14 h15 h16 hs0 hs1 hs2 hd3 (.inl ⟨q1, q2⟩) pay hp v w hv).mono ?_
      rintro e w' ⟨A, n, c, rfl, hb, h1, h2, h3⟩
      exact ⟨A, n, c, true, rfl, hb, fun _ => ⟨.inl ⟨q1, q2⟩, h1, h2, h3⟩⟩
    · refine (sw_key_no1 fix n0 n1 n2 n3 n4 n5 n6 n7 n8 n9 n10 n11 n12 n13 n14 n15 n16 d0 d1 d2 d3 h0 h1 h2 h3 h4 h5 h6 h7 h8 h9 h10 h11 h12 h13 h14 h15 h16 hs0 hs1 hs2 hd3 q1 q2 pay hp v w hv).mono ?_
      rintro e w' ⟨rfl, hb⟩
      exact ⟨none, 0, 0, false, rfl, hb, fun h => by cases h⟩
  · by_cases q2 : n16 = d3.length
    · refine (sw_key fix n0 n1 n2 n3 n4 n5 n6 n7 n8 n9 n10 n11 n12 n13 n14 n15 n16 d0 d1 d2 d3 h0 h1 h2 h3 h4 h5 h6 h7 h8 h9 h10 h11 h12 h13 h14 h15 h16 hs0 hs1 hs2 hd3 (.inr ⟨q1, q2⟩) pay hp v w hv).mono ?_
      rintro e w' ⟨A, n, c, rfl, hb, h1, h2, h3⟩
      exact ⟨A, n, c, true, rfl, hb, fun _ => ⟨.inr ⟨q1, q2⟩, h1, h2, h3⟩⟩
    · refine (sw_key_no2 fix n0 n1 n2 n3 n4 n5 n6 n7 n8 n9 n10 n11 n12 n13 n14 n15 n16 d0 d1 d2 d3 h0 h1 h2 h3 h4 h5 h6 h7 h8 h9 h10 h11 h12 h13 h14 h15 h16 hs0 hs1 hs2 hd3 q1 q2 pay hp v w hv).mono ?_
      rintro e w' ⟨rfl, hb⟩
      exact ⟨none, 0, 0, false, rfl, hb, fun h => by cases h⟩
end Go.Proofs.YtphmklgbbpiafaaGreat
