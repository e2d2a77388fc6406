/-
  BFD: its SerializeTo. No condition.
-/
import Derived.Test.YtphmklgbbpiafaaGreatSerA
namespace Go.Proofs.YtphmklgbbpiafaaGreat
open Go Go.RowKit
set_option linter.unusedVariables false
attribute [local go_sem] sd_drewN ad_drewN
attribute [local simp] Lib.beBytes_length Lib.leBytes_length

set_option maxRecDepth 100000 in
/-- bool2uint8 -/
theorem b2u (n : Nat) (h : n < 2) (w : World) : Calls Tryz.prog 167 #[.bool (bt n)] w fun e w' => e = .returned (.int .u8 n) ∧ ∃ q, w' = w.drewN q := by
  refine calls_hid fun R hR => ?_
  rcases (show n = 0 ∨ n = 1 by omega) with rfl | rfl
  · go_enter Tryz.func167, Tryz.ntmps167
    go_wp2
    exact hR.out _ _ ⟨rfl, 0, rfl⟩
  · go_enter Tryz.func167, Tryz.ntmps167
    go_wp2
    exact hR.out _ _ ⟨rfl, 0, rfl⟩
set_option maxRecDepth 100000 in
/-- BFD.Length where nothing is authenticated -/
theorem bfd_len (gx : Nat) (w : World) (c8 : w.cell? ⟨gx, 8, none⟩ = some (.bool false)) : Calls Tryz.prog 165 #[.pointer (some ⟨gx, 0, none⟩)] w fun e w' => e = .returned (.int .i64 24) ∧ ∃ q, w' = w.drewN q := by
  refine calls_hid fun R hR => ?_
  go_enter Tryz.func165, Tryz.ntmps165
  go_wp2
  exact hR.out _ _ ⟨rfl, 0, rfl⟩
def bfdHdr (n0 n1 n2 n3 n4 n5 n7 n8 n9 n10 n11 n12 n13 n14 : Nat) : List UInt8 := Lib.beBytes 1 (n0 * 32 + n1) ++ Lib.beBytes 1 (n2 * 64 + n3 * 32 + n4 * 16 + n5 * 8 + n7 * 2 + n8) ++ Lib.beBytes 1 n9 ++ Lib.beBytes 1 24 ++ Lib.beBytes 4 n10 ++ Lib.beBytes 4 n11 ++ Lib.beBytes 4 n12 ++ Lib.beBytes 4 n13 ++ Lib.beBytes 4 n14
def MBfd (n0 n1 n2 n3 n4 n5 n7 n8 n9 n10 n11 n12 n13 n14 : Nat) (w : World) (gx gb : Nat) : Prop := ∃ C P, Bk w gx 134 [C, P, .int .u8 n0, .int .u8 n1, .int .u8 n2, .bool (bt n3), .bool (bt n4), .bool (bt n5), .bool false, .bool (bt n7), .bool (bt n8), .int .u8 n9, .int .u32 n10, .int .u32 n11, .int .u32 n12, .int .u32 n13, .int .u32 n14, .pointer none]
set_option maxRecDepth 100000 in
set_option maxHeartbeats 4000000 in
theorem ser_bfd (n0 n1 n2 n3 n4 n5 n7 n8 n9 n10 n11 n12 n13 n14 : Nat) (h0 : n0 < 8) (h1 : n1 < 32) (h2 : n2 < 4) (h3 : n3 < 2) (h4 : n4 < 2) (h5 : n5 < 2) (h7 : n7 < 2) (h8 : n8 < 2) (h9 : n9 < 256) (h10 : n10 < 4294967296) (h11 : n11 < 4294967296) (h12 : n12 < 4294967296) (h13 : n13 < 4294967296) (h14 : n14 < 4294967296) (fix sum : Bool) (pay : List UInt8) (hp : pay.length ≤ 300) :
    Ser 166 fix sum pay (bfdHdr n0 n1 n2 n3 n4 n5 n7 n8 n9 n10 n11 n12 n13 n14) (MBfd n0 n1 n2 n3 n4 n5 n7 n8 n9 n10 n11 n12 n13 n14) := by
  rintro gx gb a D L w ⟨C, P, hx⟩ hb ha hD
  refine calls_hid fun R hR => ?_
  have hne := hx.ne hb (by decide)
  have hgx := hx.lt
  have hgb := hb.lt
  go_enter Tryz.func166, Tryz.ntmps166
  go_wp2_with fail
  refine (prepend_any gb pay.length 24 0 a D (bcs pay) L _ (hb.alloc _) (hD.alloc _) bcs_one (by omega) (by omega) (by omega) (by omega)).mono ?_
  rintro e w1 ⟨g, rfl, hg, hbk, hbuf, hgr⟩
  have hg' : w.heap.size ≤ g := by simp at hg; omega
  have hB : ∀ base, base ≤ w.heap.size → base ≤ gb → base ≤ gx → Below base w w1 := fun base k1 k2 _ => ((Below.refl _ w).alloc k1 _).trans (below_of_some hgr (by simp; omega) k2)
  obtain ⟨bc, hbc⟩ : ∃ bc : List Value, bc = [.slice (some ⟨g, 0, none⟩) (pay.length + 24) (pay.length + 24), .int .i64 0, .int .i64 (((0 : Nat) : Int) + ((24 : Nat) : Int)), .int .i64 a, L] := ⟨_, rfl⟩
  rw [← hbc] at hbuf
  have hs1 := Hd.start ((hx.alloc _).grown hgr (by simpa using hne)) hbk hbuf (by omega) (by omega)
  have hgx' : g ≠ gx := by omega
  clear hx hb hD hgr hbk hbuf hg
  have c2 := hs1.bx.cell 2
  have c3 := hs1.bx.cell 3
  have c4 := hs1.bx.cell 4
  have c5 := hs1.bx.cell 5
  have c6 := hs1.bx.cell 6
  have c7 := hs1.bx.cell 7
  have c8 := hs1.bx.cell 8
  have c9 := hs1.bx.cell 9
  have c10 := hs1.bx.cell 10
  have c11 := hs1.bx.cell 11
  have c12 := hs1.bx.cell 12
  simp only [List.getElem?_cons_zero, List.getElem?_cons_succ] at c2 c3 c4 c5 c6 c7 c8 c9 c10 c11 c12
  have k0 := (hs1.bg.cell 0).trans (part_get _ _ 0 _ (by simp) (by simp))
  have f0 := hs1.bg.frozen 0
  have k1 := (hs1.bg.cell 1).trans (part_get _ _ 1 _ (by simp) (by simp))
  have f1 := hs1.bg.frozen 1
  have k2 := (hs1.bg.cell 2).trans (part_get _ _ 2 _ (by simp) (by simp))
  have f2 := hs1.bg.frozen 2
  have k3 := (hs1.bg.cell 3).trans (part_get _ _ 3 _ (by simp) (by simp))
  have f3 := hs1.bg.frozen 3
  have HS1 := Lib.hid hs1
  clear hs1
  have c8' : ∀ (W : World) A k, Hd w1 W g gb gx 134 [C, P, .int .u8 n0, .int .u8 n1, .int .u8 n2, .bool (bt n3), .bool (bt n4), .bool (bt n5), .bool false, .bool (bt n7), .bool (bt n8), .int .u8 n9, .int .u32 n10, .int .u32 n11, .int .u32 n12, .int .u32 n13, .int .u32 n14, .pointer none] A k (bcs pay) bc → W.cell? ⟨gx, 8, none⟩ = some (.bool false) := fun W A k h => (h.bx.cell 8).trans rfl
  go_wp2_with fail
  refine wp_region_tail 12 (by kernel_rfl) (by kernel_rfl) ?_
  simp only [List.take_succ_cons, List.take_zero, List.drop_succ_cons, List.drop_zero]
  repeat still_step
  refine wpStill_nil ?_
  go_wp2_with fail
  refine (b2u n3 (by omega) _).mono ?_
  rintro e wb ⟨rfl, q0, rfl⟩
  go_wp2_with fail
  refine (b2u n4 (by omega) _).mono ?_
  rintro e wb ⟨rfl, q1, rfl⟩
  go_wp2_with fail
  refine (b2u n5 (by omega) _).mono ?_
  rintro e wb ⟨rfl, q2, rfl⟩
  go_wp2_with fail
  refine (b2u 0 (by omega) _).mono ?_
  rintro e wb ⟨rfl, q3, rfl⟩
  go_wp2_with fail
  refine (b2u n7 (by omega) _).mono ?_
  rintro e wb ⟨rfl, q4, rfl⟩
  go_wp2_with fail
  refine (b2u n8 (by omega) _).mono ?_
  rintro e wb ⟨rfl, q5, rfl⟩
  go_wp2_with fail
  refine (bfd_len gx _ (c8' _ (((([] ++ Lib.beBytes 1 (n0 * 32 + n1)) ++ Lib.beBytes 1 (n2 * 64 + n3 * 32 + n4 * 16 + n5 * 8 + n7 * 2 + n8)) ++ Lib.beBytes 1 (n9))) 21 ?h)).mono ?k
  case h => exact (Hd.drewN (Hd.store (Hd.store (Hd.store HS1.out (n0 * 32 + n1) _ 0 23 (by simp) rfl (by simp (disch := omega) only [orm8 0 5]; omega) (by omega)) (n2 * 64 + n3 * 32 + n4 * 16 + n5 * 8 + n7 * 2 + n8) _ 1 22 (by simp) rfl (by simp (disch := omega) only [orm8 6 8, orm8 5 6, orm8 4 5, orm8 3 4, orm8 0 0, orm8 1 2, orm8 0 1]; omega) (by omega)) (n9) _ 2 21 (by simp) rfl rfl (by omega)) _)
  case k =>
    rintro e wb ⟨rfl, q6, rfl⟩
    go_wp2_with fail
    refine wp_region_tail 7 (by kernel_rfl) (by kernel_rfl) ?_
    simp only [List.take_succ_cons, List.take_zero, List.drop_succ_cons, List.drop_zero]
    repeat still_step
    refine wpStill_nil ?_
    go_wp2_with fail
    refine (Hd.put32 (w1 := w1) (gb := gb) (gx := gx) (A := (((([] ++ Lib.beBytes 1 (n0 * 32 + n1)) ++ Lib.beBytes 1 (n2 * 64 + n3 * 32 + n4 * 16 + n5 * 8 + n7 * 2 + n8)) ++ Lib.beBytes 1 (n9)) ++ Lib.beBytes 1 (24))) (k := 20) (R := bcs pay) (T := 134) (cs := [C, P, .int .u8 n0, .int .u8 n1, .int .u8 n2, .bool (bt n3), .bool (bt n4), .bool (bt n5), .bool false, .bool (bt n7), .bool (bt n8), .int .u8 n9, .int .u32 n10, .int .u32 n11, .int .u32 n12, .int .u32 n13, .int .u32 n14, .pointer none]) (bc := bc) ?h (n10) _ 4 _ _ 16 (by simp) rfl (by omega) rfl (by omega)).mono ?k
    case h => exact (Hd.drew (Hd.drewN (Hd.store (Hd.store (Hd.store (Hd.store HS1.out (n0 * 32 + n1) _ 0 23 (by simp) rfl (by simp (disch := omega) only [orm8 0 5]; omega) (by omega)) (n2 * 64 + n3 * 32 + n4 * 16 + n5 * 8 + n7 * 2 + n8) _ 1 22 (by simp) rfl (by simp (disch := omega) only [orm8 6 8, orm8 5 6, orm8 4 5, orm8 3 4, orm8 0 0, orm8 1 2, orm8 0 1]; omega) (by omega)) (n9) _ 2 21 (by simp) rfl rfl (by omega)) (24) _ 3 20 (by simp) rfl rfl (by omega)) _))
    case k =>
      rintro e w2 ⟨rfl, hs2⟩
      clear f3 f2 f1 f0 k3 k2 k1 k0 c12 c11 c10 c9 c8 c7 c6 c5 c4 c3 c2
      have c13 := hs2.bx.cell 13
      simp only [List.getElem?_cons_zero, List.getElem?_cons_succ] at c13
      have HS2 := Lib.hid hs2
      clear hs2
      go_wp2_with fail
      refine wp_region_tail 7 (by kernel_rfl) (by kernel_rfl) ?_
      simp only [List.take_succ_cons, List.take_zero, List.drop_succ_cons, List.drop_zero]
      repeat still_step
      refine wpStill_nil ?_
      go_wp2_with fail
      refine (Hd.put32 (w1 := w1) (gb := gb) (gx := gx) (A := ((((([] ++ Lib.beBytes 1 (n0 * 32 + n1)) ++ Lib.beBytes 1 (n2 * 64 + n3 * 32 + n4 * 16 + n5 * 8 + n7 * 2 + n8)) ++ Lib.beBytes 1 (n9)) ++ Lib.beBytes 1 (24)) ++ Lib.beBytes 4 (n10))) (k := 16) (R := bcs pay) (T := 134) (cs := [C, P, .int .u8 n0, .int .u8 n1, .int .u8 n2, .bool (bt n3), .bool (bt n4), .bool (bt n5), .bool false, .bool (bt n7), .bool (bt n8), .int .u8 n9, .int .u32 n10, .int .u32 n11, .int .u32 n12, .int .u32 n13, .int .u32 n14, .pointer none]) (bc := bc) ?h (n11) _ 8 _ _ 12 (by simp) rfl (by omega) rfl (by omega)).mono ?k
      case h => exact (Hd.drew HS2.out)
      case k =>
        rintro e w3 ⟨rfl, hs3⟩
        clear c13
        have c14 := hs3.bx.cell 14
        simp only [List.getElem?_cons_zero, List.getElem?_cons_succ] at c14
        have HS3 := Lib.hid hs3
        clear hs3
        go_wp2_with fail
        refine wp_region_tail 7 (by kernel_rfl) (by kernel_rfl) ?_
        simp only [List.take_succ_cons, List.take_zero, List.drop_succ_cons, List.drop_zero]
        repeat still_step
        refine wpStill_nil ?_
        go_wp2_with fail
        refine (Hd.put32 (w1 := w1) (gb := gb) (gx := gx) (A := (((((([] ++ Lib.beBytes 1 (n0 * 32 + n1)) ++ Lib.beBytes 1 (n2 * 64 + n3 * 32 + n4 * 16 + n5 * 8 + n7 * 2 + n8)) ++ Lib.beBytes 1 (n9)) ++ Lib.beBytes 1 (24)) ++ Lib.beBytes 4 (n10)) ++ Lib.beBytes 4 (n11))) (k := 12) (R := bcs pay) (T := 134) (cs := [C, P, .int .u8 n0, .int .u8 n1, .int .u8 n2, .bool (bt n3), .bool (bt n4), .bool (bt n5), .bool false, .bool (bt n7), .bool (bt n8), .int .u8 n9, .int .u32 n10, .int .u32 n11, .int .u32 n12, .int .u32 n13, .int .u32 n14, .pointer none]) (bc := bc) ?h (n12) _ 12 _ _ 8 (by simp) rfl (by omega) rfl (by omega)).mono ?k
        case h => exact (Hd.drew HS3.out)
        case k =>
          rintro e w4 ⟨rfl, hs4⟩
          clear c14
          have c15 := hs4.bx.cell 15
          simp only [List.getElem?_cons_zero, List.getElem?_cons_succ] at c15
          have HS4 := Lib.hid hs4
          clear hs4
          go_wp2_with fail
          refine wp_region_tail 7 (by kernel_rfl) (by kernel_rfl) ?_
          simp only [List.take_succ_cons, List.take_zero, List.drop_succ_cons, List.drop_zero]
          repeat still_step
          refine wpStill_nil ?_
          go_wp2_with fail
          refine (Hd.put32 (w1 := w1) (gb := gb) (gx := gx) (A := ((((((([] ++ Lib.beBytes 1 (n0 * 32 + n1)) ++ Lib.beBytes 1 (n2 * 64 + n3 * 32 + n4 * 16 + n5 * 8 + n7 * 2 + n8)) ++ Lib.beBytes 1 (n9)) ++ Lib.beBytes 1 (24)) ++ Lib.beBytes 4 (n10)) ++ Lib.beBytes 4 (n11)) ++ Lib.beBytes 4 (n12))) (k := 8) (R := bcs pay) (T := 134) (cs := [C, P, .int .u8 n0, .int .u8 n1, .int .u8 n2, .bool (bt n3), .bool (bt n4), .bool (bt n5), .bool false, .bool (bt n7), .bool (bt n8), .int .u8 n9, .int .u32 n10, .int .u32 n11, .int .u32 n12, .int .u32 n13, .int .u32 n14, .pointer none]) (bc := bc) ?h (n13) _ 16 _ _ 4 (by simp) rfl (by omega) rfl (by omega)).mono ?k
          case h => exact (Hd.drew HS4.out)
          case k =>
            rintro e w5 ⟨rfl, hs5⟩
            clear c15
            have c16 := hs5.bx.cell 16
            simp only [List.getElem?_cons_zero, List.getElem?_cons_succ] at c16
            have HS5 := Lib.hid hs5
            clear hs5
            go_wp2_with fail
            refine wp_region_tail 7 (by kernel_rfl) (by kernel_rfl) ?_
            simp only [List.take_succ_cons, List.take_zero, List.drop_succ_cons, List.drop_zero]
            repeat still_step
            refine wpStill_nil ?_
            go_wp2_with fail
            refine (Hd.put32 (w1 := w1) (gb := gb) (gx := gx) (A := (((((((([] ++ Lib.beBytes 1 (n0 * 32 + n1)) ++ Lib.beBytes 1 (n2 * 64 + n3 * 32 + n4 * 16 + n5 * 8 + n7 * 2 + n8)) ++ Lib.beBytes 1 (n9)) ++ Lib.beBytes 1 (24)) ++ Lib.beBytes 4 (n10)) ++ Lib.beBytes 4 (n11)) ++ Lib.beBytes 4 (n12)) ++ Lib.beBytes 4 (n13))) (k := 4) (R := bcs pay) (T := 134) (cs := [C, P, .int .u8 n0, .int .u8 n1, .int .u8 n2, .bool (bt n3), .bool (bt n4), .bool (bt n5), .bool false, .bool (bt n7), .bool (bt n8), .int .u8 n9, .int .u32 n10, .int .u32 n11, .int .u32 n12, .int .u32 n13, .int .u32 n14, .pointer none]) (bc := bc) ?h (n14) _ 20 _ _ 0 (by simp) rfl (by omega) rfl (by omega)).mono ?k
            case h => exact (Hd.drew HS5.out)
            case k =>
              rintro e w6 ⟨rfl, hs6⟩
              clear c16
              have c8 := hs6.bx.cell 8
              simp only [List.getElem?_cons_zero, List.getElem?_cons_succ] at c8
              have HS6 := Lib.hid hs6
              clear hs6
              go_wp2_with fail
              subst hbc
              exact hR.out _ _ ⟨rfl, Hd.fin HS6.out (by simp [bfdHdr]) (by simp [bfdHdr]; omega) hB hg'⟩
end Go.Proofs.YtphmklgbbpiafaaGreat
