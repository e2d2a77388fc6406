/-
  Contracts of slices.EqualFunc and of same, where both layers hold the same. No condition.
-/
import Derived.Test.YtphmklgbbpiafaaGreatFitA
namespace Go.Proofs.YtphmklgbbpiafaaGreat
open Go Go.RowKit
set_option linter.unusedVariables false
attribute [local go_sem] sd_drewN ad_drewN

set_option maxRecDepth 100000 in
set_option maxHeartbeats 2000000 in
/-- slices.EqualFunc of the same byte lists, by bytes.Equal. -/
theorem datEq (A A' : Option Addr) (n c c' B B' : Nat) (ds ds' : List Value) (data : List (List UInt8)) (w : World) (hn : n ≤ 1000) (hl : n = data.length)
    (h1 : Sl w B A n ds) (e1 : Each w B ds data) (h2 : Sl w B' A' n ds') (e2 : Each w B' ds' data) :
    Calls Tryz.prog 62 #[.slice A n c, .slice A' n c', .func (.func 23) #[] #[]] w fun e w' => e = .returned (.bool true) ∧ w = w' := by
  refine calls_hid fun R hR => ?_
  have H1 := Lib.hid h1
  have H2 := Lib.hid h2
  have E1 := Lib.hid e1
  have E2 := Lib.hid e2
  have HL := Lib.hid hl
  clear h1 h2 e1 e2 hl
  go_enter Tryz.func62, Tryz.ntmps62
  go_wp2_with fail
  go_loop [17] (fun i => ∃ k : Nat, k ≤ n ∧ i = .int .i64 k) (fun i => n - (intOf i).toNat)
  case atStart => exact ⟨0, by omega, rfl⟩
  case round =>
    obtain ⟨k, hk, rfl⟩ := hrel
    by_cases hlt : k < n
    · obtain ⟨g, o, rfl, _, _⟩ := H1.out.2 (by omega)
      obtain ⟨g', o', rfl, _, _⟩ := H2.out.2 (by omega)
      obtain ⟨P1, p1, c1, s1⟩ := H1.out.each E1.out hlt HL.out
      obtain ⟨P2, p2, c2, s2⟩ := H2.out.each E2.out hlt HL.out
      have S1 := Lib.hid s1
      have S2 := Lib.hid s2
      clear s1 s2
      generalize data.getD k [] = d at *
      go_wp2_with fail
      refine (bytesEq P1 P2 d.length p1 p2 B B' d w S1.out S2.out).mono ?_
      rintro e w1 ⟨rfl, rfl⟩
      go_wp2_with fail
      go_round
      case rel => exact ⟨k + 1, by omega, by go_num⟩
      case measure => simp [intOf]; omega
    · go_wp2
      exact hR.out _ _ ⟨rfl, rfl⟩
set_option maxRecDepth 100000 in
/-- slices.EqualFunc of no parts. -/
theorem parEq (A A' : Option Addr) (c c' : Nat) (f : Value) (w : World) :
    Calls Tryz.prog 63 #[.slice A 0 c, .slice A' 0 c', f] w fun e w' => e = .returned (.bool true) ∧ w = w' := by
  refine calls_hid fun R hR => ?_
  go_enter Tryz.func63, Tryz.ntmps63
  go_wp2_with fail
  refine wp_loop_rounds 1 ?_
  rw [rounds_succ]
  go_wp2
  exact hR.out _ _ ⟨rfl, rfl⟩
set_option maxRecDepth 100000 in
set_option maxHeartbeats 2000000 in
/-- laws.same of two layers that hold the same. -/
theorem same_any (v v' : Value) (nums : List Nat) (data : List (List UInt8)) (pay : List UInt8) (w : World) (hn : nums.length ≤ 1000) (hd : data.length ≤ 1000) (h1 : Lyr w w.heap.size v nums data pay) (h2 : Lyr w w.heap.size v' nums data pay) :
    Calls Tryz.prog 35 #[v, v'] w fun e w' => e = .returned (.bool true) ∧ Below w.heap.size w w' := by
  refine calls_hid fun R hR => ?_
  obtain ⟨AN, cN, AD, cD, AP, cP, AB, cB, ds, rfl, hN, hD, hE, hP⟩ := h1
  obtain ⟨AN', cN', AD', cD', AP', cP', AB', cB', ds', rfl, hN', hD', hE', hP'⟩ := h2
  have HN := Lib.hid hN
  have HD := Lib.hid hD
  have HE := Lib.hid hE
  have HP := Lib.hid hP
  have HN' := Lib.hid hN'
  have HD' := Lib.hid hD'
  have HE' := Lib.hid hE'
  have HP' := Lib.hid hP'
  clear hN hD hE hP hN' hD' hE' hP'
  go_enter Tryz.func35, Tryz.ntmps35
  go_wp2_with fail
  obtain ⟨W, hW⟩ : ∃ W, W = (w.alloc (.cells #[.slice AN nums.length cN, .slice AD data.length cD, .slice AP 0 cP, .slice AB pay.length cB] 27)).alloc (.cells #[.slice AN' nums.length cN', .slice AD' data.length cD', .slice AP' 0 cP', .slice AB' pay.length cB'] 27) := ⟨_, rfl⟩
  rw [← hW]
  have hbe : Below w.heap.size w W := by rw [hW]; exact ((Below.refl _ _).alloc (Nat.le_refl _) _).alloc (by simp) _
  have b1 : Bk W w.heap.size 27 [.slice AN nums.length cN, .slice AD data.length cD, .slice AP 0 cP, .slice AB pay.length cB] := by rw [hW]; exact (Bk.new w 27 _).alloc _
  have b2 : Bk W (w.heap.size + 1) 27 [.slice AN' nums.length cN', .slice AD' data.length cD', .slice AP' 0 cP', .slice AB' pay.length cB'] := by rw [hW]; exact Bk.new2 w 27 27 _ _
  clear hW
  have c0 := b1.cell 0
  have c1 := b1.cell 1
  have c2 := b1.cell 2
  have c3 := b1.cell 3
  have d0 := b2.cell 0
  have d1 := b2.cell 1
  have d2 := b2.cell 2
  have d3 := b2.cell 3
  simp only [List.getElem?_cons_zero, List.getElem?_cons_succ] at c0 c1 c2 c3 d0 d1 d2 d3
  have HB := Lib.hid hbe
  clear hbe b1 b2
  refine (numsEq AN AN' nums.length cN cN' w.heap.size w.heap.size nums W hn (HN.out.below HB.out) (HN'.out.below HB.out)).mono ?_
  rintro e w1 ⟨rfl, q, rfl⟩
  go_wp2_with fail
  refine (datEq AD AD' data.length cD cD' w.heap.size w.heap.size ds ds' data (W.drewN q) hd rfl (HD.out.below (below_drewN HB.out q)) (HE.out.below (below_drewN HB.out q)) (HD'.out.below (below_drewN HB.out q)) (HE'.out.below (below_drewN HB.out q))).mono ?_
  rintro e w1 ⟨rfl, rfl⟩
  go_wp2_with fail
  refine (parEq AP AP' cP cP' _ _).mono ?_
  rintro e w1 ⟨rfl, rfl⟩
  go_wp2_with fail
  refine (bytesEq AB AB' pay.length cB cB' w.heap.size w.heap.size pay (W.drewN q) (HP.out.below (below_drewN HB.out q)) (HP'.out.below (below_drewN HB.out q))).mono ?_
  rintro e w1 ⟨rfl, rfl⟩
  go_wp2_with fail
  exact hR.out _ _ ⟨rfl, below_drewN HB.out q⟩
end Go.Proofs.YtphmklgbbpiafaaGreat
