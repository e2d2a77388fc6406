/-
  NTP: its SerializeTo. No condition.
-/
import Derived.Deep.Cut
import Derived.Deep.CutRange
import Derived.Test.YtphmklgbbpiafaaGreatSerB
namespace Go.Proofs.YtphmklgbbpiafaaGreat
open Go Go.RowKit
set_option linter.unusedVariables false
attribute [local go_sem] sd_drewN ad_drewN
attribute [local simp] Lib.beBytes_length Lib.leBytes_length

/-- a byte, read as a number with a sign -/
def s8 (n : Nat) : Int := IntKind.i8.wrap n
theorem u8_s8 (n : Nat) (h : n < 256) : IntKind.u8.wrap (s8 n) = n := by
  unfold s8
  simp only [IntKind.wrap, IntKind.bits, IntKind.signed]
  simp
  omega
theorem and8_192 (n : Nat) (h : n < 4) : bits .and .u8 ((n : Int) * 64) 192 = (n : Int) * 64 := by
  rcases (show n = 0 ∨ n = 1 ∨ n = 2 ∨ n = 3 by omega) with rfl | rfl | rfl | rfl <;> rfl
theorem and8_56 (n : Nat) (h : n < 8) : bits .and .u8 ((n : Int) * 8) 56 = (n : Int) * 8 := by
  rcases (show n = 0 ∨ n = 1 ∨ n = 2 ∨ n = 3 ∨ n = 4 ∨ n = 5 ∨ n = 6 ∨ n = 7 by omega) with rfl | rfl | rfl | rfl | rfl | rfl | rfl | rfl <;> rfl
def ntpHdr (n0 n1 n2 n3 n4 n5 n6 n7 n8 n9 n10 n11 n12 : Nat) (d0 : List UInt8) : List UInt8 := Lib.beBytes 1 (n0 * 64 + n1 * 8 + n2) ++ Lib.beBytes 1 n3 ++ Lib.beBytes 1 n4 ++ Lib.beBytes 1 n5 ++ Lib.beBytes 4 n6 ++ Lib.beBytes 4 n7 ++ Lib.beBytes 4 n8 ++ Lib.beBytes 8 n9 ++ Lib.beBytes 8 n10 ++ Lib.beBytes 8 n11 ++ Lib.beBytes 8 n12 ++ d0
def MNtp (n0 n1 n2 n3 n4 n5 n6 n7 n8 n9 n10 n11 n12 : Nat) (d0 : List UInt8) (w : World) (gx gb : Nat) : Prop := ∃ C P Q cQ, Bk w gx 152 [C, P, .int .u8 n0, .int .u8 n1, .int .u8 n2, .int .u8 n3, .int .i8 (s8 n4), .int .i8 (s8 n5), .int .u32 n6, .int .u32 n7, .int .u32 n8, .int .u64 n9, .int .u64 n10, .int .u64 n11, .int .u64 n12, .slice Q d0.length cQ] ∧ Sl w gb Q d0.length (bcs d0)
set_option maxRecDepth 100000 in
set_option maxHeartbeats 4000000 in
theorem ser_ntp (n0 n1 n2 n3 n4 n5 n6 n7 n8 n9 n10 n11 n12 : Nat) (d0 : List UInt8) (h0 : n0 < 4) (h1 : n1 < 8) (h2 : n2 < 8) (h3 : n3 < 256) (h4 : n4 < 256) (h5 : n5 < 256) (h6 : n6 < 4294967296) (h7 : n7 < 4294967296) (h8 : n8 < 4294967296) (h9 : n9 < 18446744073709551616) (h10 : n10 < 18446744073709551616) (h11 : n11 < 18446744073709551616) (h12 : n12 < 18446744073709551616) (hd : d0.length ≤ 300) (fix sum : Bool) :
    Ser 170 fix sum [] (ntpHdr n0 n1 n2 n3 n4 n5 n6 n7 n8 n9 n10 n11 n12 d0) (MNtp n0 n1 n2 n3 n4 n5 n6 n7 n8 n9 n10 n11 n12 d0) := by
  rintro gx gb a D L w ⟨C, P, Q, cQ, hx, hQ⟩ hb ha hD
  obtain ⟨pay, hpay⟩ : ∃ pay : List UInt8, pay = [] := ⟨_, rfl⟩
  rw [← hpay] at hb ha hD ⊢
  have hp : pay.length ≤ 300 := by rw [hpay]; simp
  refine calls_hid fun R hR => ?_
  have hne := hx.ne hb (by decide)
  have hgx := hx.lt
  have hgb := hb.lt
  go_enter Tryz.func170, Tryz.ntmps170
  go_wp2_with fail
  refine (prepend_any gb pay.length 48 0 a D (bcs pay) L _ (hb.alloc _) (hD.alloc _) bcs_one (by omega) (by omega) (by omega) (by omega)).mono ?_
  rintro e w1 ⟨g, rfl, hg, hbk, hbuf, hgr⟩
  have hg' : w.heap.size ≤ g := by simp at hg; omega
  have hB : ∀ base, base ≤ w.heap.size → base ≤ gb → base ≤ gx → Below base w w1 := fun base k1 k2 _ => ((Below.refl _ w).alloc k1 _).trans (below_of_some hgr (by simp; omega) k2)
  obtain ⟨bc, hbc⟩ : ∃ bc : List Value, bc = [.slice (some ⟨g, 0, none⟩) (pay.length + 48) (pay.length + 48), .int .i64 0, .int .i64 (((0 : Nat) : Int) + ((48 : Nat) : Int)), .int .i64 a, L] := ⟨_, rfl⟩
  rw [← hbc] at hbuf
  have hs1 := Hd.start ((hx.alloc _).grown hgr (by simpa using hne)) hbk hbuf (by omega) (by omega)
  have hgx' : g ≠ gx := by omega
  have hQ1 : Sl w1 gb Q d0.length (bcs d0) := hQ.keep fun g' hg' => (hgr.block g' (by simp; omega) (by simp; omega)).trans (Below.heap_alloc w _ g' (by omega))
  clear hQ
  clear hx hb hD hgr hbk hbuf hg
  have c2 := hs1.bx.cell 2
  have c3 := hs1.bx.cell 3
  have c4 := hs1.bx.cell 4
  have c5 := hs1.bx.cell 5
  have c6 := hs1.bx.cell 6
  have c7 := hs1.bx.cell 7
  have c8 := hs1.bx.cell 8
  simp only [List.getElem?_cons_zero, List.getElem?_cons_succ] at c2 c3 c4 c5 c6 c7 c8
  have k0 := (hs1.bg.cell 0).trans (part_get _ _ 0 _ (by simp) (by simp))
  have f0 := hs1.bg.frozen 0
  have k1 := (hs1.bg.cell 1).trans (part_get _ _ 1 _ (by simp) (by simp))
  have f1 := hs1.bg.frozen 1
  have k2 := (hs1.bg.cell 2).trans (part_get _ _ 2 _ (by simp) (by simp))
  have f2 := hs1.bg.frozen 2
  have k3 := (hs1.bg.cell 3).trans (part_get _ _ 3 _ (by simp) (by simp))
  have f3 := hs1.bg.frozen 3
  have HS1 := Lib.hid hs1
  clear hs1
  have HQ1 := Lib.hid hQ1
  clear hQ1
  have hgb1 : gb < w1.heap.size := HS1.out.bb.lt
  have hbg : gb ≤ g := by omega
  have e4 := u8_s8 n4 h4
  have e5 := u8_s8 n5 h5
  go_wp2_with fail
  refine wp_region_tail 7 (by kernel_rfl) (by kernel_rfl) ?_
  simp only [List.take_succ_cons, List.take_zero, List.drop_succ_cons, List.drop_zero]
  repeat still_step
  refine wpStill_nil ?_
  go_wp2_with fail
  refine (Hd.put32 (w1 := w1) (gb := gb) (gx := gx) (A := (((([] ++ Lib.beBytes 1 (n0 * 64 + n1 * 8 + n2)) ++ Lib.beBytes 1 (n3)) ++ Lib.beBytes 1 (n4)) ++ Lib.beBytes 1 (n5))) (k := 44) (R := bcs pay) (T := 152) (cs := [C, P, .int .u8 n0, .int .u8 n1, .int .u8 n2, .int .u8 n3, .int .i8 (s8 n4), .int .i8 (s8 n5), .int .u32 n6, .int .u32 n7, .int .u32 n8, .int .u64 n9, .int .u64 n10, .int .u64 n11, .int .u64 n12, .slice Q d0.length cQ]) (bc := bc) ?h (n6) _ 4 _ _ 40 (by simp) rfl (by omega) rfl (by omega)).mono ?k
  case h => exact (Hd.drew (Hd.store (Hd.store (Hd.store (Hd.store HS1.out (n0 * 64 + n1 * 8 + n2) _ 0 47 (by simp) rfl (by rw [and8_192 n0 h0, and8_56 n1 h1]; simp (disch := omega) only [orm8 6 8, orm8 3 6, orm8 0 3]; omega) (by omega)) (n3) _ 1 46 (by simp) rfl rfl (by omega)) (n4) _ 2 45 (by simp) rfl rfl (by omega)) (n5) _ 3 44 (by simp) rfl rfl (by omega)))
  case k =>
    rintro e w2 ⟨rfl, hs2⟩
    clear f3 f2 f1 f0 k3 k2 k1 k0 c8 c7 c6 c5 c4 c3 c2
    have c9 := hs2.bx.cell 9
    simp only [List.getElem?_cons_zero, List.getElem?_cons_succ] at c9
    have HS2 := Lib.hid hs2
    clear hs2
    go_wp2_with fail
    refine wp_region_tail 7 (by kernel_rfl) (by kernel_rfl) ?_
    simp only [List.take_succ_cons, List.take_zero, List.drop_succ_cons, List.drop_zero]
    repeat still_step
    refine wpStill_nil ?_
    go_wp2_with fail
    refine (Hd.put32 (w1 := w1) (gb := gb) (gx := gx) (A := ((((([] ++ Lib.beBytes 1 (n0 * 64 + n1 * 8 + n2)) ++ Lib.beBytes 1 (n3)) ++ Lib.beBytes 1 (n4)) ++ Lib.beBytes 1 (n5)) ++ Lib.beBytes 4 (n6))) (k := 40) (R := bcs pay) (T := 152) (cs := [C, P, .int .u8 n0, .int .u8 n1, .int .u8 n2, .int .u8 n3, .int .i8 (s8 n4), .int .i8 (s8 n5), .int .u32 n6, .int .u32 n7, .int .u32 n8, .int .u64 n9, .int .u64 n10, .int .u64 n11, .int .u64 n12, .slice Q d0.length cQ]) (bc := bc) ?h (n7) _ 8 _ _ 36 (by simp) rfl (by omega) rfl (by omega)).mono ?k
    case h => exact (Hd.drew HS2.out)
    case k =>
      rintro e w3 ⟨rfl, hs3⟩
      clear c9
      have c10 := hs3.bx.cell 10
      simp only [List.getElem?_cons_zero, List.getElem?_cons_succ] at c10
      have HS3 := Lib.hid hs3
      clear hs3
      go_wp2_with fail
      refine wp_region_tail 7 (by kernel_rfl) (by kernel_rfl) ?_
      simp only [List.take_succ_cons, List.take_zero, List.drop_succ_cons, List.drop_zero]
      repeat still_step
      refine wpStill_nil ?_
      go_wp2_with fail
      refine (Hd.put32 (w1 := w1) (gb := gb) (gx := gx) (A := (((((([] ++ Lib.beBytes 1 (n0 * 64 + n1 * 8 + n2)) ++ Lib.beBytes 1 (n3)) ++ Lib.beBytes 1 (n4)) ++ Lib.beBytes 1 (n5)) ++ Lib.beBytes 4 (n6)) ++ Lib.beBytes 4 (n7))) (k := 36) (R := bcs pay) (T := 152) (cs := [C, P, .int .u8 n0, .int .u8 n1, .int .u8 n2, .int .u8 n3, .int .i8 (s8 n4), .int .i8 (s8 n5), .int .u32 n6, .int .u32 n7, .int .u32 n8, .int .u64 n9, .int .u64 n10, .int .u64 n11, .int .u64 n12, .slice Q d0.length cQ]) (bc := bc) ?h (n8) _ 12 _ _ 32 (by simp) rfl (by omega) rfl (by omega)).mono ?k
      case h => exact (Hd.drew HS3.out)
      case k =>
        rintro e w4 ⟨rfl, hs4⟩
        clear c10
        have c11 := hs4.bx.cell 11
        simp only [List.getElem?_cons_zero, List.getElem?_cons_succ] at c11
        have HS4 := Lib.hid hs4
        clear hs4
        go_wp2_with fail
        refine wp_region_tail 7 (by kernel_rfl) (by kernel_rfl) ?_
        simp only [List.take_succ_cons, List.take_zero, List.drop_succ_cons, List.drop_zero]
        repeat still_step
        refine wpStill_nil ?_
        go_wp2_with fail
        refine (Hd.put64 (w1 := w1) (gb := gb) (gx := gx) (A := ((((((([] ++ Lib.beBytes 1 (n0 * 64 + n1 * 8 + n2)) ++ Lib.beBytes 1 (n3)) ++ Lib.beBytes 1 (n4)) ++ Lib.beBytes 1 (n5)) ++ Lib.beBytes 4 (n6)) ++ Lib.beBytes 4 (n7)) ++ Lib.beBytes 4 (n8))) (k := 32) (R := bcs pay) (T := 152) (cs := [C, P, .int .u8 n0, .int .u8 n1, .int .u8 n2, .int .u8 n3, .int .i8 (s8 n4), .int .i8 (s8 n5), .int .u32 n6, .int .u32 n7, .int .u32 n8, .int .u64 n9, .int .u64 n10, .int .u64 n11, .int .u64 n12, .slice Q d0.length cQ]) (bc := bc) ?h (n9) _ 16 _ _ 24 (by simp) rfl (by omega) rfl (by omega)).mono ?k
        case h => exact (Hd.drew HS4.out)
        case k =>
          rintro e w5 ⟨rfl, hs5⟩
          clear c11
          have c12 := hs5.bx.cell 12
          simp only [List.getElem?_cons_zero, List.getElem?_cons_succ] at c12
          have HS5 := Lib.hid hs5
          clear hs5
          go_wp2_with fail
          refine wp_region_tail 7 (by kernel_rfl) (by kernel_rfl) ?_
          simp only [List.take_succ_cons, List.take_zero, List.drop_succ_cons, List.drop_zero]
          repeat still_step
          refine wpStill_nil ?_
          go_wp2_with fail
          refine (Hd.put64 (w1 := w1) (gb := gb) (gx := gx) (A := (((((((([] ++ Lib.beBytes 1 (n0 * 64 + n1 * 8 + n2)) ++ Lib.beBytes 1 (n3)) ++ Lib.beBytes 1 (n4)) ++ Lib.beBytes 1 (n5)) ++ Lib.beBytes 4 (n6)) ++ Lib.beBytes 4 (n7)) ++ Lib.beBytes 4 (n8)) ++ Lib.beBytes 8 (n9))) (k := 24) (R := bcs pay) (T := 152) (cs := [C, P, .int .u8 n0, .int .u8 n1, .int .u8 n2, .int .u8 n3, .int .i8 (s8 n4), .int .i8 (s8 n5), .int .u32 n6, .int .u32 n7, .int .u32 n8, .int .u64 n9, .int .u64 n10, .int .u64 n11, .int .u64 n12, .slice Q d0.length cQ]) (bc := bc) ?h (n10) _ 24 _ _ 16 (by simp) rfl (by omega) rfl (by omega)).mono ?k
          case h => exact (Hd.drew HS5.out)
          case k =>
            rintro e w6 ⟨rfl, hs6⟩
            clear c12
            have c13 := hs6.bx.cell 13
            simp only [List.getElem?_cons_zero, List.getElem?_cons_succ] at c13
            have HS6 := Lib.hid hs6
            clear hs6
            go_wp2_with fail
            refine wp_region_tail 7 (by kernel_rfl) (by kernel_rfl) ?_
            simp only [List.take_succ_cons, List.take_zero, List.drop_succ_cons, List.drop_zero]
            repeat still_step
            refine wpStill_nil ?_
            go_wp2_with fail
            refine (Hd.put64 (w1 := w1) (gb := gb) (gx := gx) (A := ((((((((([] ++ Lib.beBytes 1 (n0 * 64 + n1 * 8 + n2)) ++ Lib.beBytes 1 (n3)) ++ Lib.beBytes 1 (n4)) ++ Lib.beBytes 1 (n5)) ++ Lib.beBytes 4 (n6)) ++ Lib.beBytes 4 (n7)) ++ Lib.beBytes 4 (n8)) ++ Lib.beBytes 8 (n9)) ++ Lib.beBytes 8 (n10))) (k := 16) (R := bcs pay) (T := 152) (cs := [C, P, .int .u8 n0, .int .u8 n1, .int .u8 n2, .int .u8 n3, .int .i8 (s8 n4), .int .i8 (s8 n5), .int .u32 n6, .int .u32 n7, .int .u32 n8, .int .u64 n9, .int .u64 n10, .int .u64 n11, .int .u64 n12, .slice Q d0.length cQ]) (bc := bc) ?h (n11) _ 32 _ _ 8 (by simp) rfl (by omega) rfl (by omega)).mono ?k
            case h => exact (Hd.drew HS6.out)
            case k =>
              rintro e w7 ⟨rfl, hs7⟩
              clear c13
              have c14 := hs7.bx.cell 14
              simp only [List.getElem?_cons_zero, List.getElem?_cons_succ] at c14
              have HS7 := Lib.hid hs7
              clear hs7
              go_wp2_with fail
              refine wp_region_tail 7 (by kernel_rfl) (by kernel_rfl) ?_
              simp only [List.take_succ_cons, List.take_zero, List.drop_succ_cons, List.drop_zero]
              repeat still_step
              refine wpStill_nil ?_
              go_wp2_with fail
              refine (Hd.put64 (w1 := w1) (gb := gb) (gx := gx) (A := (((((((((([] ++ Lib.beBytes 1 (n0 * 64 + n1 * 8 + n2)) ++ Lib.beBytes 1 (n3)) ++ Lib.beBytes 1 (n4)) ++ Lib.beBytes 1 (n5)) ++ Lib.beBytes 4 (n6)) ++ Lib.beBytes 4 (n7)) ++ Lib.beBytes 4 (n8)) ++ Lib.beBytes 8 (n9)) ++ Lib.beBytes 8 (n10)) ++ Lib.beBytes 8 (n11))) (k := 8) (R := bcs pay) (T := 152) (cs := [C, P, .int .u8 n0, .int .u8 n1, .int .u8 n2, .int .u8 n3, .int .i8 (s8 n4), .int .i8 (s8 n5), .int .u32 n6, .int .u32 n7, .int .u32 n8, .int .u64 n9, .int .u64 n10, .int .u64 n11, .int .u64 n12, .slice Q d0.length cQ]) (bc := bc) ?h (n12) _ 40 _ _ 0 (by simp) rfl (by omega) rfl (by omega)).mono ?k
              case h => exact (Hd.drew HS7.out)
              case k =>
                rintro e w8 ⟨rfl, hs8⟩
                clear c14
                have c15 := hs8.bx.cell 15
                simp only [List.getElem?_cons_zero, List.getElem?_cons_succ] at c15
                have HS8 := Lib.hid hs8
                clear hs8
                have ha0 : a = 0 := by rcases ha with rfl | rfl <;> simp [hpay]
                subst ha0
                have hbg8 := HS8.out.bg
                rw [part_end, hpay, List.append_nil] at hbg8
                have hbb8 := HS8.out.bb
                rw [hbc, hpay] at hbb8
                have hB8 := HS8.out.kept hB hg'
                have hsz : w.heap.size ≤ w8.heap.size := (hB8 0 (by omega) (by omega) (by omega)).size
                have hgb8 := hbb8.lt
                have HQ8 : Hid (Sl w8 gb Q d0.length (bcs d0)) := Lib.hid (HS8.out.slice HQ1.out hgb1 hbg)
                have HK := Lib.hid hbg8
                have HF := Lib.hid hbb8
                clear hbg8 hbb8
                rcases Nat.eq_zero_or_pos d0.length with hz | hz
                · obtain rfl : d0 = [] := List.eq_nil_of_length_eq_zero hz
                  go_upto_region 19 with fail
                  go_cut [10, 8] from 121 to 133 (fun v10 v8 wc => ∃ A c, v10 = .slice A 0 c ∧ v8 = .nilIface ∧ Bk wc gb 163 [.slice (some ⟨g, 0, none⟩) 48 48, .int .i64 0, .int .i64 48, .int .i64 0, L] ∧ w8.grownBy wc (some gb))
                  case first =>
                    have hm := method_append gb
                    have hn := nil_append gb
                    go_region_law (go_simp; go_at_call 175; refine (append_zero gb 48 (some ⟨g, 0, none⟩) _ _ _ L _ (HF.out.drewN 1) (by omega)).mono ?_; rintro e wz ⟨A, c, rfl, hbz, hgz⟩; have HZ := Lib.hid hbz; have HG := Lib.hid hgz; clear hbz hgz)
                    all_goals
                      go_wp2_with fail
                      go_meet
                      case rel => exact ⟨_, _, rfl, rfl, HZ.out, HG.out.os, HG.out.tape, HG.out.output, HG.out.size, HG.out.block⟩
                  case rest =>
                  obtain ⟨A, c, rfl, rfl, hbz, hgz⟩ := hcut
                  have c15 := (HS8.out.bx.grown hgz (by simpa using hne)).cell 15
                  simp only [List.getElem?_cons_zero, List.getElem?_cons_succ, List.length_nil] at c15
                  have hbk := HK.out.grown hgz (by simp; omega)
                  have HZ := Lib.hid hbz
                  have HG := Lib.hid hgz
                  have HY := Lib.hid hbk
                  clear hbz hgz hbk
                  go_wp2_with (refine wpList_copy_nothing rfl (.tmp 137) (.tmp 141) 25 25 rfl 5 Tryz.underlying25 size5 A Q 0 c 0 cQ rfl rfl rfl ?_)
                  refine hR.out _ _ ⟨rfl, Done.of HY.out HZ.out (by simp [ntpHdr, hpay]) (by simp [ntpHdr, hpay]), fun base k1 k2 k3 => ?_⟩
                  exact (hB8 base k1 k2 k3).trans (below_of_some HG.out (by omega) k2)
                · go_upto_region 19 with fail
                  go_cut [10, 8] from 121 to 133 (fun v10 v8 wc => ∃ g2, v10 = .slice (some ⟨g2, 48, none⟩) d0.length d0.length ∧ v8 = .nilIface ∧ w8.heap.size ≤ g2 ∧ Bk wc g2 5 (bcs ((((((((((([] ++ Lib.beBytes 1 (n0 * 64 + n1 * 8 + n2)) ++ Lib.beBytes 1 (n3)) ++ Lib.beBytes 1 (n4)) ++ Lib.beBytes 1 (n5)) ++ Lib.beBytes 4 (n6)) ++ Lib.beBytes 4 (n7)) ++ Lib.beBytes 4 (n8)) ++ Lib.beBytes 8 (n9)) ++ Lib.beBytes 8 (n10)) ++ Lib.beBytes 8 (n11)) ++ Lib.beBytes 8 (n12)) ++ zs d0.length) ∧ Bk wc gb 163 [.slice (some ⟨g2, 0, none⟩) (48 + d0.length) (48 + d0.length), .int .i64 0, .int .i64 48, .int .i64 d0.length, L] ∧ w8.grownBy wc (some gb))
                  case first =>
                    have hm := method_append gb
                    have hn := nil_append gb
                    go_region_law (go_simp; go_at_call 175; refine (append_pos gb 48 d0.length (some ⟨g, 0, none⟩) _ _ L _ (HF.out.drewN 1) (.inr ⟨g, rfl, HK.out.drewN 1, by simp [bcs_length]⟩) bcs_one (by omega) hz (by omega)).mono ?_; rintro e wz ⟨g2, rfl, hg2, hbk2, hbz, hgz⟩; have HZ := Lib.hid hbz; have HG := Lib.hid hgz; have HY := Lib.hid hbk2; clear hbz hgz hbk2)
                    all_goals
                      go_wp2_with fail
                      go_meet
                      case rel => exact ⟨_, rfl, rfl, hg2, HY.out, HZ.out, HG.out.os, HG.out.tape, HG.out.output, HG.out.size, HG.out.block⟩
                  case rest =>
                  obtain ⟨g2, rfl, rfl, hg2, hbk2, hbz, hgz⟩ := hcut
                  have c15 := (HS8.out.bx.grown hgz (by simpa using hne)).cell 15
                  simp only [List.getElem?_cons_zero, List.getElem?_cons_succ] at c15
                  have HQ9 : Hid (Sl wc gb Q d0.length (bcs d0)) := Lib.hid (HQ8.out.keep fun g' hg' => hgz.block g' (by omega) (by simp; omega))
                  have HZ := Lib.hid hbz
                  have HG := Lib.hid hgz
                  have HY := Lib.hid hbk2
                  have hsz2 : w8.heap.size ≤ wc.heap.size := hgz.size
                  have hne3 : gb ≠ g2 := by omega
                  clear hbz hgz hbk2
                  go_wp2_with (refine wpList_copy_bk rfl (.tmp 137) (.tmp 141) 25 rfl Tryz.underlying25 size5 g2 48 d0.length d0.length gb d0.length cQ Q _ d0 rfl rfl HY.out HQ9.out (Nat.le_refl _) (by simp [bcs_length, zs_length]) ?_; intro wz hbz2 hgz2)
                  have hbz3 := HZ.out.grown hgz2 (by simpa using hne3)
                  have e9 : ∀ (A : List UInt8), A.length = 48 → splice (bcs A ++ zs d0.length) 48 (bcs d0) = bcs (A ++ d0) := fun A hA => by
                    have := part_lay A d0 d0.length 0 48 [] hA.symm (by omega)
                    simpa [part, zs] using this
                  rw [e9 _ (by simp)] at hbz2
                  refine hR.out _ _ ⟨rfl, Done.of hbz2 hbz3 (by simp [ntpHdr, hpay]) (by simp [ntpHdr, hpay]; omega), fun base k1 k2 k3 => ?_⟩
                  exact ((hB8 base k1 k2 k3).trans (below_of_some HG.out (by omega) k2)).trans (below_of_some hgz2 (by omega) (by omega))
end Go.Proofs.YtphmklgbbpiafaaGreat
