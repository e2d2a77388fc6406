/-
  EAPOL's key: its SerializeTo. No condition.
-/
import Derived.Deep.Cut
import Derived.Deep.CutRange
import Derived.Test.YtphmklgbbpiafaaGreatSerB
namespace Go.Proofs.YtphmklgbbpiafaaGreat
open Go Go.RowKit
set_option linter.unusedVariables false
attribute [local go_sem] sd_drewN ad_drewN
attribute [local simp] Lib.beBytes_length Lib.leBytes_length

def keyInfo (n1 n2 n3 n4 n5 n6 n7 n8 n9 n10 n11 : Nat) : Nat := n1 + n2 * 8 + n3 * 16 + n4 * 64 + n5 * 128 + n6 * 256 + n7 * 512 + n8 * 1024 + n9 * 2048 + n10 * 4096 + n11 * 8192
def keyHdr (n0 n1 n2 n3 n4 n5 n6 n7 n8 n9 n10 n11 n12 n13 n14 n15 n16 : Nat) (d0 d1 d2 d3 : List UInt8) : List UInt8 := Lib.beBytes 1 n0 ++ Lib.beBytes 2 (keyInfo n1 n2 n3 n4 n5 n6 n7 n8 n9 n10 n11) ++ Lib.beBytes 2 n12 ++ Lib.beBytes 8 n13 ++ d0 ++ d1 ++ Lib.beBytes 8 n14 ++ Lib.beBytes 8 n15 ++ d2 ++ Lib.beBytes 2 n16 ++ d3
def MKey (n0 n1 n2 n3 n4 n5 n6 n7 n8 n9 n10 n11 n12 n13 n14 n15 n16 : Nat) (d0 d1 d2 d3 : List UInt8) (w : World) (gx gb : Nat) : Prop := ∃ C P Q0 q0 Q1 q1 Q2 q2 Q3 q3, Bk w gx 105 [C, P, .int .u8 n0, .int .u8 n1, .int .u8 n2, .int .u8 n3, .bool (bt n4), .bool (bt n5), .bool (bt n6), .bool (bt n7), .bool (bt n8), .bool (bt n9), .bool (bt n10), .bool (bt n11), .int .u16 n12, .int .u64 n13, .slice Q0 32 q0, .slice Q1 16 q1, .int .u64 n14, .int .u64 n15, .slice Q2 16 q2, .int .u16 n16, .slice Q3 d3.length q3] ∧
  Sl w gb Q0 32 (bcs d0) ∧ Sl w gb Q1 16 (bcs d1) ∧ Sl w gb Q2 16 (bcs d2) ∧ Sl w gb Q3 d3.length (bcs d3)
set_option maxRecDepth 100000 in
set_option maxHeartbeats 8000000 in
theorem ser_key (n0 n1 n2 n3 n4 n5 n6 n7 n8 n9 n10 n11 n12 n13 n14 n15 n16 : Nat) (d0 d1 d2 d3 : List UInt8) (h0 : n0 < 256) (h1 : n1 < 8) (h2 : n2 < 2) (h3 : n3 < 4) (h4 : n4 < 2) (h5 : n5 < 2) (h6 : n6 < 2) (h7 : n7 < 2) (h8 : n8 < 2) (h9 : n9 < 2) (h10 : n10 < 2) (h11 : n11 < 2) (h12 : n12 < 65536) (h13 : n13 < 18446744073709551616) (h14 : n14 < 18446744073709551616) (h15 : n15 < 18446744073709551616) (h16 : n16 < 65536) (hd3 : d3.length ≤ 300) (fix sum : Bool) (pay : List UInt8) (hp : pay.length ≤ 300) :
    Ser 151 fix sum pay (keyHdr n0 n1 n2 n3 n4 n5 n6 n7 n8 n9 n10 n11 n12 n13 n14 n15 n16 d0 d1 d2 d3) (MKey n0 n1 n2 n3 n4 n5 n6 n7 n8 n9 n10 n11 n12 n13 n14 n15 n16 d0 d1 d2 d3) := by
  rintro gx gb a D L w ⟨C, P, Q0, q0, Q1, q1, Q2, q2, Q3, q3, hx, hq0, hq1, hq2, hq3⟩ hb ha hD
  refine calls_hid fun R hR => ?_
  have hne := hx.ne hb (by decide)
  have hgx := hx.lt
  have hl0 : d0.length = 32 := by rw [← bcs_length]; exact hq0.1
  have hl1 : d1.length = 16 := by rw [← bcs_length]; exact hq1.1
  have hl2 : d2.length = 16 := by rw [← bcs_length]; exact hq2.1
  have hgb := hb.lt
  have c22 := hx.cell 22
  simp only [List.getElem?_cons_zero, List.getElem?_cons_succ] at c22
  have H0 := Lib.hid hq0
  have H1 := Lib.hid hq1
  have H2 := Lib.hid hq2
  have H3 := Lib.hid hq3
  clear hq0 hq1 hq2 hq3
  have hnil := nil_prepend gb
  go_enter Tryz.func151, Tryz.ntmps151
  go_upto_region 1 with fail
  go_cut [7, 8] from 10 to 23 (fun v7 v8 wc => ∃ g, v7 = .slice (some ⟨g, 0, none⟩) (d3.length + 95) (pay.length + (d3.length + 95)) ∧ v8 = .nilIface ∧ (w.alloc (.cells #[.bool fix, .bool sum] 62)).heap.size ≤ g ∧ Bk wc g 5 (zs (d3.length + 95) ++ bcs pay) ∧
    Bk wc gb 163 [.slice (some ⟨g, 0, none⟩) (pay.length + (d3.length + 95)) (pay.length + (d3.length + 95)), .int .i64 0, .int .i64 (((0 : Nat) : Int) + ((d3.length + 95 : Nat) : Int)), .int .i64 a, L] ∧
    (w.alloc (.cells #[.bool fix, .bool sum] 62)).grownBy wc (some gb))
  case first =>
    have HB := Lib.hid hb
    have HD := Lib.hid hD
    have HX := Lib.hid hx
    have hm := method_prepend gb
    have ew : IntKind.i64.wrap (95 + (d3.length : Int)) = ((d3.length + 95 : Nat) : Int) := by rw [IntWalk.i64_in _ (by omega)]; omega
    have EW := Lib.hid ew
    clear ew hb hD hx
    go_region_law (go_simp; go_at_call 179; rw [EW.out]; refine (prepend_any gb pay.length (d3.length + 95) 0 a D (bcs pay) L _ ((HB.out.alloc _).drewN 1) ((HD.out.alloc _).drewN 1) bcs_one (by omega) (by omega) (by omega) (by omega)).mono ?_; rintro e w1 ⟨g, rfl, hg, hbk, hbuf, hgr⟩; have HK := Lib.hid hbk; have HF := Lib.hid hbuf; have HG := Lib.hid hgr; clear hbk hbuf hgr)
    all_goals
      go_wp2_with fail
      go_meet
      case rel => exact ⟨g, rfl, rfl, hg, HK.out, HF.out, HG.out.os, HG.out.tape, HG.out.output, HG.out.size, HG.out.block⟩
  case rest =>
  obtain ⟨w1, ew1⟩ : ∃ w1, w1 = wc := ⟨_, rfl⟩
  subst ew1
  obtain ⟨g, rfl, rfl, hg, hbk, hbuf, hgr⟩ := hcut
  have hg' : w.heap.size ≤ g := by simp at hg; omega
  have hB : ∀ base, base ≤ w.heap.size → base ≤ gb → base ≤ gx → Below base w w1 := fun base k1 k2 _ => ((Below.refl _ w).alloc k1 _).trans (below_of_some hgr (by simp; omega) k2)
  obtain ⟨bc, hbc⟩ : ∃ bc : List Value, bc = [.slice (some ⟨g, 0, none⟩) (pay.length + (d3.length + 95)) (pay.length + (d3.length + 95)), .int .i64 0, .int .i64 (((0 : Nat) : Int) + (((d3.length + 95) : Nat) : Int)), .int .i64 a, L] := ⟨_, rfl⟩
  rw [← hbc] at hbuf
  have hs1 := Hd.start ((hx.alloc _).grown hgr (by simpa using hne)) hbk hbuf (by omega) (by omega)
  have hgx' : g ≠ gx := by omega
  have hgb1 := hs1.bb.lt
  have hbg : gb ≤ g := by omega
  have J0 : Hid (Sl w1 gb Q0 32 (bcs d0)) := Lib.hid (H0.out.keep fun g' hg' => (hgr.block g' (by simp; omega) (by simp; omega)).trans (Below.heap_alloc w _ g' (by omega)))
  have J1 : Hid (Sl w1 gb Q1 16 (bcs d1)) := Lib.hid (H1.out.keep fun g' hg' => (hgr.block g' (by simp; omega) (by simp; omega)).trans (Below.heap_alloc w _ g' (by omega)))
  have J2 : Hid (Sl w1 gb Q2 16 (bcs d2)) := Lib.hid (H2.out.keep fun g' hg' => (hgr.block g' (by simp; omega) (by simp; omega)).trans (Below.heap_alloc w _ g' (by omega)))
  have J3 : Hid (Sl w1 gb Q3 d3.length (bcs d3)) := Lib.hid (H3.out.keep fun g' hg' => (hgr.block g' (by simp; omega) (by simp; omega)).trans (Below.heap_alloc w _ g' (by omega)))
  clear hx hb hD hgr hbk hbuf hg c22 H0 H1 H2 H3 hnil
  have c2 := hs1.bx.cell 2
  have c3 := hs1.bx.cell 3
  have c4 := hs1.bx.cell 4
  have c5 := hs1.bx.cell 5
  have c6 := hs1.bx.cell 6
  have c7 := hs1.bx.cell 7
  have c8 := hs1.bx.cell 8
  have c9 := hs1.bx.cell 9
  have c10 := hs1.bx.cell 10
  have c11 := hs1.bx.cell 11
  have c12 := hs1.bx.cell 12
  have c13 := hs1.bx.cell 13
  simp only [List.getElem?_cons_zero, List.getElem?_cons_succ] at c2 c3 c4 c5 c6 c7 c8 c9 c10 c11 c12 c13
  have k0 := (hs1.bg.cell 0).trans (part_get _ _ 0 _ (by simp) (by simp))
  have f0 := hs1.bg.frozen 0
  have j0 : (0 : Int) < (d3.length : Int) + 95 := by omega
  have j3 : (3 : Int) ≤ (pay.length : Int) + ((d3.length : Int) + 95) := by omega
  have j5 : (5 : Int) ≤ (pay.length : Int) + ((d3.length : Int) + 95) := by omega
  have j13 : (13 : Int) ≤ (pay.length : Int) + ((d3.length : Int) + 95) := by omega
  have j45 : (45 : Int) ≤ (pay.length : Int) + ((d3.length : Int) + 95) := by omega
  have j61 : (61 : Int) ≤ (pay.length : Int) + ((d3.length : Int) + 95) := by omega
  have j69 : (69 : Int) ≤ (pay.length : Int) + ((d3.length : Int) + 95) := by omega
  have j77 : (77 : Int) ≤ (pay.length : Int) + ((d3.length : Int) + 95) := by omega
  have j93 : (93 : Int) ≤ (pay.length : Int) + ((d3.length : Int) + 95) := by omega
  have j95 : (95 : Int) ≤ (pay.length : Int) + ((d3.length : Int) + 95) := by omega
  have i1 : ¬ pay.length + (d3.length + 95) = 1 := by omega
  have i3 : ¬ pay.length + (d3.length + 95) = 3 := by omega
  have i5 : ¬ pay.length + (d3.length + 95) = 5 := by omega
  have i13 : ¬ pay.length + (d3.length + 95) = 13 := by omega
  have i45 : ¬ pay.length + (d3.length + 95) = 45 := by omega
  have i61 : ¬ pay.length + (d3.length + 95) = 61 := by omega
  have i69 : ¬ pay.length + (d3.length + 95) = 69 := by omega
  have i77 : ¬ pay.length + (d3.length + 95) = 77 := by omega
  have i93 : ¬ pay.length + (d3.length + 95) = 93 := by omega
  have HS1 := Lib.hid hs1
  clear hs1
  go_upto_if 59 with fail
  go_cut [9] from 59 to 61 (fun v wc => v = .int .u16 ((n1 + n2 * 8 + n3 * 16 + n4 * 64 : Nat) : Int) ∧ wc = w1.setCell ⟨g, 0, none⟩ (.int .u8 (n0 : Int)))
  case first =>
    cases hbt : bt n4
    · go_wp2_with fail
      go_meet
      case rel =>
        have hv := bt_false hbt h4
        refine ⟨congrArg (Value.int .u16) ?_, rfl⟩
        simp (disch := omega) only [orm16 0 3, orm16 3 4, orm16 4 6]; omega
    · go_wp2_with fail
      go_meet
      case rel =>
        have hv := bt_true hbt
        refine ⟨congrArg (Value.int .u16) ?_, rfl⟩
        simp (disch := omega) only [orm16 0 3, orm16 3 4, orm16 4 6, orm16 6 7]; omega
  case rest =>
  obtain ⟨rfl, rfl⟩ := hcut
  go_upto_if 65 with fail
  go_cut [9] from 65 to 67 (fun v wc => v = .int .u16 ((n1 + n2 * 8 + n3 * 16 + n4 * 64 + n5 * 128 : Nat) : Int) ∧ wc = w1.setCell ⟨g, 0, none⟩ (.int .u8 (n0 : Int)))
  case first =>
    cases hbt : bt n5
    · go_wp2_with fail
      go_meet
      case rel =>
        have hv := bt_false hbt h5
        refine ⟨congrArg (Value.int .u16) ?_, rfl⟩
        omega
    · go_wp2_with fail
      go_meet
      case rel =>
        have hv := bt_true hbt
        refine ⟨congrArg (Value.int .u16) ?_, rfl⟩
        rw [orm16 7 8 _ _ (by omega) (by omega) (by omega) (by omega) (by omega) (by omega) (by omega)]; omega
  case rest =>
  obtain ⟨rfl, rfl⟩ := hcut
  go_upto_if 71 with fail
  go_cut [9] from 71 to 73 (fun v wc => v = .int .u16 ((n1 + n2 * 8 + n3 * 16 + n4 * 64 + n5 * 128 + n6 * 256 : Nat) : Int) ∧ wc = w1.setCell ⟨g, 0, none⟩ (.int .u8 (n0 : Int)))
  case first =>
    cases hbt : bt n6
    · go_wp2_with fail
      go_meet
      case rel =>
        have hv := bt_false hbt h6
        refine ⟨congrArg (Value.int .u16) ?_, rfl⟩
        omega
    · go_wp2_with fail
      go_meet
      case rel =>
        have hv := bt_true hbt
        refine ⟨congrArg (Value.int .u16) ?_, rfl⟩
        rw [orm16 8 9 _ _ (by omega) (by omega) (by omega) (by omega) (by omega) (by omega) (by omega)]; omega
  case rest =>
  obtain ⟨rfl, rfl⟩ := hcut
  go_upto_if 77 with fail
  go_cut [9] from 77 to 79 (fun v wc => v = .int .u16 ((n1 + n2 * 8 + n3 * 16 + n4 * 64 + n5 * 128 + n6 * 256 + n7 * 512 : Nat) : Int) ∧ wc = w1.setCell ⟨g, 0, none⟩ (.int .u8 (n0 : Int)))
  case first =>
    cases hbt : bt n7
    · go_wp2_with fail
      go_meet
      case rel =>
        have hv := bt_false hbt h7
        refine ⟨congrArg (Value.int .u16) ?_, rfl⟩
        omega
    · go_wp2_with fail
      go_meet
      case rel =>
        have hv := bt_true hbt
        refine ⟨congrArg (Value.int .u16) ?_, rfl⟩
        rw [orm16 9 10 _ _ (by omega) (by omega) (by omega) (by omega) (by omega) (by omega) (by omega)]; omega
  case rest =>
  obtain ⟨rfl, rfl⟩ := hcut
  go_upto_if 83 with fail
  go_cut [9] from 83 to 85 (fun v wc => v = .int .u16 ((n1 + n2 * 8 + n3 * 16 + n4 * 64 + n5 * 128 + n6 * 256 + n7 * 512 + n8 * 1024 : Nat) : Int) ∧ wc = w1.setCell ⟨g, 0, none⟩ (.int .u8 (n0 : Int)))
  case first =>
    cases hbt : bt n8
    · go_wp2_with fail
      go_meet
      case rel =>
        have hv := bt_false hbt h8
        refine ⟨congrArg (Value.int .u16) ?_, rfl⟩
        omega
    · go_wp2_with fail
      go_meet
      case rel =>
        have hv := bt_true hbt
        refine ⟨congrArg (Value.int .u16) ?_, rfl⟩
        rw [orm16 10 11 _ _ (by omega) (by omega) (by omega) (by omega) (by omega) (by omega) (by omega)]; omega
  case rest =>
  obtain ⟨rfl, rfl⟩ := hcut
  go_upto_if 89 with fail
  go_cut [9] from 89 to 91 (fun v wc => v = .int .u16 ((n1 + n2 * 8 + n3 * 16 + n4 * 64 + n5 * 128 + n6 * 256 + n7 * 512 + n8 * 1024 + n9 * 2048 : Nat) : Int) ∧ wc = w1.setCell ⟨g, 0, none⟩ (.int .u8 (n0 : Int)))
  case first =>
    cases hbt : bt n9
    · go_wp2_with fail
      go_meet
      case rel =>
        have hv := bt_false hbt h9
        refine ⟨congrArg (Value.int .u16) ?_, rfl⟩
        omega
    · go_wp2_with fail
      go_meet
      case rel =>
        have hv := bt_true hbt
        refine ⟨congrArg (Value.int .u16) ?_, rfl⟩
        rw [orm16 11 12 _ _ (by omega) (by omega) (by omega) (by omega) (by omega) (by omega) (by omega)]; omega
  case rest =>
  obtain ⟨rfl, rfl⟩ := hcut
  go_upto_if 95 with fail
  go_cut [9] from 95 to 97 (fun v wc => v = .int .u16 ((n1 + n2 * 8 + n3 * 16 + n4 * 64 + n5 * 128 + n6 * 256 + n7 * 512 + n8 * 1024 + n9 * 2048 + n10 * 4096 : Nat) : Int) ∧ wc = w1.setCell ⟨g, 0, none⟩ (.int .u8 (n0 : Int)))
  case first =>
    cases hbt : bt n10
    · go_wp2_with fail
      go_meet
      case rel =>
        have hv := bt_false hbt h10
        refine ⟨congrArg (Value.int .u16) ?_, rfl⟩
        omega
    · go_wp2_with fail
      go_meet
      case rel =>
        have hv := bt_true hbt
        refine ⟨congrArg (Value.int .u16) ?_, rfl⟩
        rw [orm16 12 13 _ _ (by omega) (by omega) (by omega) (by omega) (by omega) (by omega) (by omega)]; omega
  case rest =>
  obtain ⟨rfl, rfl⟩ := hcut
  go_upto_if 101 with fail
  go_cut [9] from 101 to 103 (fun v wc => v = .int .u16 ((n1 + n2 * 8 + n3 * 16 + n4 * 64 + n5 * 128 + n6 * 256 + n7 * 512 + n8 * 1024 + n9 * 2048 + n10 * 4096 + n11 * 8192 : Nat) : Int) ∧ wc = w1.setCell ⟨g, 0, none⟩ (.int .u8 (n0 : Int)))
  case first =>
    cases hbt : bt n11
    · go_wp2_with fail
      go_meet
      case rel =>
        have hv := bt_false hbt h11
        refine ⟨congrArg (Value.int .u16) ?_, rfl⟩
        omega
    · go_wp2_with fail
      go_meet
      case rel =>
        have hv := bt_true hbt
        refine ⟨congrArg (Value.int .u16) ?_, rfl⟩
        rw [orm16 13 14 _ _ (by omega) (by omega) (by omega) (by omega) (by omega) (by omega) (by omega)]; omega
  case rest =>
  obtain ⟨rfl, rfl⟩ := hcut
  go_wp2_with fail
  have HS2 := Lib.hid (HS1.out.store n0 n0 0 (d3.length + 94) (by simp) (by omega) rfl (by omega))
  clear c13 c12 c11 c10 c9 c8 c7 c6 c5 c4 c3 c2 k0 f0
  refine wp_region_tail 4 (by kernel_rfl) (by kernel_rfl) ?_
  simp only [List.take_succ_cons, List.take_zero, List.drop_succ_cons, List.drop_zero]
  repeat still_step
  refine wpStill_nil ?_
  go_wp2_with fail
  refine (Hd.put16 HS2.out.drew (keyInfo n1 n2 n3 n4 n5 n6 n7 n8 n9 n10 n11) _ 1 _ _ (d3.length + 92) (by simp <;> omega) (by omega) (by omega) rfl (by unfold keyInfo; omega)).mono ?_
  rintro e w3 ⟨rfl, hs3⟩
  have c14 := hs3.bx.cell 14
  simp only [List.getElem?_cons_zero, List.getElem?_cons_succ] at c14
  have HS3 := Lib.hid hs3
  clear hs3
  go_wp2_with fail
  refine wp_region_tail 7 (by kernel_rfl) (by kernel_rfl) ?_
  simp only [List.take_succ_cons, List.take_zero, List.drop_succ_cons, List.drop_zero]
  repeat still_step
  refine wpStill_nil ?_
  go_wp2_with fail
  refine (Hd.put16 HS3.out.drew n12 _ 3 _ _ (d3.length + 90) (by simp <;> omega) (by omega) (by omega) rfl (by omega)).mono ?_
  rintro e w4 ⟨rfl, hs4⟩
  clear c14
  have c15 := hs4.bx.cell 15
  simp only [List.getElem?_cons_zero, List.getElem?_cons_succ] at c15
  have HS4 := Lib.hid hs4
  clear hs4
  go_wp2_with fail
  refine wp_region_tail 7 (by kernel_rfl) (by kernel_rfl) ?_
  simp only [List.take_succ_cons, List.take_zero, List.drop_succ_cons, List.drop_zero]
  repeat still_step
  refine wpStill_nil ?_
  go_wp2_with fail
  refine (Hd.put64 HS4.out.drew n13 _ 5 _ _ (d3.length + 82) (by simp <;> omega) (by omega) (by omega) rfl (by omega)).mono ?_
  rintro e w5 ⟨rfl, hs5⟩
  clear c15
  have c16 := hs5.bx.cell 16
  simp only [List.getElem?_cons_zero, List.getElem?_cons_succ] at c16
  have HS5 := Lib.hid hs5
  clear hs5
  go_wp2_with fail
  refine wp_region_tail 6 (by kernel_rfl) (by kernel_rfl) ?_
  simp only [List.take_succ_cons, List.take_zero, List.drop_succ_cons, List.drop_zero]
  repeat still_step
  refine wpStill_nil ?_
  have HD5 := Lib.hid HS5.out.drew
  refine wpList_copy_bk rfl (.tmp 126) (.tmp 130) 25 rfl Tryz.underlying25 size5 g 13 _ _ gb 32 q0 Q0 _ d0 rfl rfl HD5.out.bg (HD5.out.slice J0.out hgb1 hbg) ?hle ?hfit ?k
  case hle => omega
  case hfit => rw [part_length]; simp <;> omega
  case k =>
  intro w6 hb6 hg6
  have hs6 := HD5.out.laid d0 13 (d3.length + 50) (by simp <;> omega) (by omega) hb6 hg6
  clear HD5 hb6 hg6 c16
  have c17 := hs6.bx.cell 17
  simp only [List.getElem?_cons_zero, List.getElem?_cons_succ] at c17
  have HS6 := Lib.hid hs6
  clear hs6
  go_wp2_with fail
  refine wp_region_tail 6 (by kernel_rfl) (by kernel_rfl) ?_
  simp only [List.take_succ_cons, List.take_zero, List.drop_succ_cons, List.drop_zero]
  repeat still_step
  refine wpStill_nil ?_
  have HD6 := Lib.hid HS6.out.drew
  refine wpList_copy_bk rfl (.tmp 133) (.tmp 137) 25 rfl Tryz.underlying25 size5 g 45 _ _ gb 16 q1 Q1 _ d1 rfl rfl HD6.out.bg (HD6.out.slice J1.out hgb1 hbg) ?hle ?hfit ?k
  case hle => omega
  case hfit => rw [part_length]; simp <;> omega
  case k =>
  intro w7 hb7 hg7
  have hs7 := HD6.out.laid d1 45 (d3.length + 34) (by simp <;> omega) (by omega) hb7 hg7
  clear HD6 hb7 hg7 c17
  have c18 := hs7.bx.cell 18
  simp only [List.getElem?_cons_zero, List.getElem?_cons_succ] at c18
  have HS7 := Lib.hid hs7
  clear hs7
  go_wp2_with fail
  refine wp_region_tail 7 (by kernel_rfl) (by kernel_rfl) ?_
  simp only [List.take_succ_cons, List.take_zero, List.drop_succ_cons, List.drop_zero]
  repeat still_step
  refine wpStill_nil ?_
  go_wp2_with fail
  refine (Hd.put64 HS7.out.drew n14 _ 61 _ _ (d3.length + 26) (by simp <;> omega) (by omega) (by omega) rfl (by omega)).mono ?_
  rintro e w8 ⟨rfl, hs8⟩
  clear c18
  have c19 := hs8.bx.cell 19
  simp only [List.getElem?_cons_zero, List.getElem?_cons_succ] at c19
  have HS8 := Lib.hid hs8
  clear hs8
  go_wp2_with fail
  refine wp_region_tail 7 (by kernel_rfl) (by kernel_rfl) ?_
  simp only [List.take_succ_cons, List.take_zero, List.drop_succ_cons, List.drop_zero]
  repeat still_step
  refine wpStill_nil ?_
  go_wp2_with fail
  refine (Hd.put64 HS8.out.drew n15 _ 69 _ _ (d3.length + 18) (by simp <;> omega) (by omega) (by omega) rfl (by omega)).mono ?_
  rintro e w9 ⟨rfl, hs9⟩
  clear c19
  have c20 := hs9.bx.cell 20
  simp only [List.getElem?_cons_zero, List.getElem?_cons_succ] at c20
  have HS9 := Lib.hid hs9
  clear hs9
  go_wp2_with fail
  refine wp_region_tail 6 (by kernel_rfl) (by kernel_rfl) ?_
  simp only [List.take_succ_cons, List.take_zero, List.drop_succ_cons, List.drop_zero]
  repeat still_step
  refine wpStill_nil ?_
  have HD9 := Lib.hid HS9.out.drew
  refine wpList_copy_bk rfl (.tmp 156) (.tmp 160) 25 rfl Tryz.underlying25 size5 g 77 _ _ gb 16 q2 Q2 _ d2 rfl rfl HD9.out.bg (HD9.out.slice J2.out hgb1 hbg) ?hle ?hfit ?k
  case hle => omega
  case hfit => rw [part_length]; simp <;> omega
  case k =>
  intro w10 hb10 hg10
  have hs10 := HD9.out.laid d2 77 (d3.length + 2) (by simp <;> omega) (by omega) hb10 hg10
  clear HD9 hb10 hg10 c20
  have c21 := hs10.bx.cell 21
  simp only [List.getElem?_cons_zero, List.getElem?_cons_succ] at c21
  have HS10 := Lib.hid hs10
  clear hs10
  go_wp2_with fail
  refine wp_region_tail 7 (by kernel_rfl) (by kernel_rfl) ?_
  simp only [List.take_succ_cons, List.take_zero, List.drop_succ_cons, List.drop_zero]
  repeat still_step
  refine wpStill_nil ?_
  go_wp2_with fail
  refine (Hd.put16 HS10.out.drew n16 _ 93 _ _ (d3.length + 0) (by simp <;> omega) (by omega) (by omega) rfl (by omega)).mono ?_
  rintro e w11 ⟨rfl, hs11⟩
  clear c21
  have c22 := hs11.bx.cell 22
  simp only [List.getElem?_cons_zero, List.getElem?_cons_succ] at c22
  have HS11 := Lib.hid hs11
  clear hs11
  go_wp2_with fail
  · have hpos : 0 < d3.length := by omega
    have e35 : IntKind.i64.wrap (95 + (d3.length : Int)) = (d3.length : Int) + 95 := by rw [IntWalk.i64_in _ (by omega)]; omega
    have b35 : (95 : Int) ≤ (d3.length : Int) + 95 := by omega
    have t35 : (d3.length : Int) + 95 ≤ (pay.length : Int) + ((d3.length : Int) + 95) := by omega
    have i95 : ¬ pay.length + (d3.length + 95) = 95 := by omega
    refine wp_region_tail 12 (by kernel_rfl) (by kernel_rfl) ?_
    simp only [List.take_succ_cons, List.take_zero, List.drop_succ_cons, List.drop_zero]
    repeat still_step
    refine wpStill_nil ?_
    have HD := Lib.hid HS11.out.drew
    refine wpList_copy_bk rfl (.tmp 183) (.tmp 187) 25 rfl Tryz.underlying25 size5 g 95 _ _ gb d3.length q3 Q3 _ d3 rfl rfl HD.out.bg (HD.out.slice J3.out hgb1 hbg) ?hle ?hfit ?k
    case hle => omega
    case hfit => rw [part_length]; simp <;> omega
    case k =>
    intro wz hbz hgz
    have HS := Lib.hid (HD.out.laid d3 95 0 (by simp <;> omega) (by omega) hbz hgz)
    clear HD hbz hgz
    go_wp2_with fail
    subst hbc
    exact hR.out _ _ ⟨rfl, Hd.fin HS.out (by simp [keyHdr]) (by simp [keyHdr] <;> omega) hB hg'⟩
  · have hz : d3.length = 0 := by omega
    obtain rfl : d3 = [] := List.eq_nil_of_length_eq_zero hz
    subst hbc
    exact hR.out _ _ ⟨rfl, Hd.fin HS11.out (by simp [keyHdr]) (by simp [keyHdr]; omega) hB hg'⟩
end Go.Proofs.YtphmklgbbpiafaaGreat
