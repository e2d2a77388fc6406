/-
  ERSPAN: its SerializeTo. No condition.
-/
import Derived.Test.YtphmklgbbpiafaaGreatSerA
namespace Go.Proofs.YtphmklgbbpiafaaGreat
open Go Go.RowKit
set_option linter.unusedVariables false
attribute [local go_sem] sd_drewN ad_drewN
attribute [local simp] Lib.beBytes_length Lib.leBytes_length

def erspanHdr (n0 n1 n2 n3 n4 n5 n6 n7 : Nat) : List UInt8 := Lib.beBytes 2 (n1 * 4096 + n4) ++ Lib.beBytes 2 (n2 * 8192 + n3 * 2048 + n0 * 1024 + n5) ++ Lib.beBytes 4 (n6 * 1048576 + n7)
def MErspan (n0 n1 n2 n3 n4 n5 n6 n7 : Nat) (w : World) (gx gb : Nat) : Prop := ∃ C P, Bk w gx 124 [C, P, .bool (bt n0), .int .u8 n1, .int .u8 n2, .int .u8 n3, .int .u16 n4, .int .u16 n5, .int .u16 n6, .int .u32 n7]
set_option maxRecDepth 100000 in
set_option maxHeartbeats 4000000 in
theorem ser_erspan (n0 n1 n2 n3 n4 n5 n6 n7 : Nat) (h0 : n0 < 2) (h1 : n1 < 16) (h2 : n2 < 8) (h3 : n3 < 4) (h4 : n4 < 4096) (h5 : n5 < 1024) (h6 : n6 < 4096) (h7 : n7 < 1048576) (fix sum : Bool) (pay : List UInt8) (hp : pay.length ≤ 300) :
    Ser 163 fix sum pay (erspanHdr n0 n1 n2 n3 n4 n5 n6 n7) (MErspan n0 n1 n2 n3 n4 n5 n6 n7) := by
  rintro gx gb a D L w ⟨C, P, hx⟩ hb ha hD
  refine calls_hid fun R hR => ?_
  have hne := hx.ne hb (by decide)
  have hgx := hx.lt
  have hgb := hb.lt
  go_enter Tryz.func163, Tryz.ntmps163
  go_wp2_with fail
  refine (prepend_any gb pay.length 8 0 a D (bcs pay) L _ (hb.alloc _) (hD.alloc _) bcs_one (by omega) (by omega) (by omega) (by omega)).mono ?_
  rintro e w1 ⟨g, rfl, hg, hbk, hbuf, hgr⟩
  have hg' : w.heap.size ≤ g := by simp at hg; omega
  have hB : ∀ base, base ≤ w.heap.size → base ≤ gb → base ≤ gx → Below base w w1 := fun base k1 k2 _ => ((Below.refl _ w).alloc k1 _).trans (below_of_some hgr (by simp; omega) k2)
  obtain ⟨bc, hbc⟩ : ∃ bc : List Value, bc = [.slice (some ⟨g, 0, none⟩) (pay.length + 8) (pay.length + 8), .int .i64 0, .int .i64 (((0 : Nat) : Int) + ((8 : Nat) : Int)), .int .i64 a, L] := ⟨_, rfl⟩
  rw [← hbc] at hbuf
  have hs1 := Hd.start ((hx.alloc _).grown hgr (by simpa using hne)) hbk hbuf (by omega) (by omega)
  have hgx' : g ≠ gx := by omega
  clear hx hb hD hgr hbk hbuf hg
  have c2 := hs1.bx.cell 2
  have c3 := hs1.bx.cell 3
  have c4 := hs1.bx.cell 4
  have c5 := hs1.bx.cell 5
  have c6 := hs1.bx.cell 6
  have c7 := hs1.bx.cell 7
  have c8 := hs1.bx.cell 8
  have c9 := hs1.bx.cell 9
  simp only [List.getElem?_cons_zero, List.getElem?_cons_succ] at c2 c3 c4 c5 c6 c7 c8 c9
  have HS1 := Lib.hid hs1
  clear hs1
  go_wp2_with fail
  go_quiet (fail)
  go_wp2_with fail
  refine (Hd.put16 (w1 := w1) (gb := gb) (gx := gx) (A := []) (k := 8) (R := bcs pay) (T := 124) (cs := [C, P, .bool (bt n0), .int .u8 n1, .int .u8 n2, .int .u8 n3, .int .u16 n4, .int .u16 n5, .int .u16 n6, .int .u32 n7]) (bc := bc) ?h (n1 * 4096 + n4) _ 0 _ _ 6 (by simp) rfl (by omega) (by simp (disch := omega) only [and16_4095, orm16 0 12]; omega) (by omega)).mono ?k
  case h => exact (Hd.drewN HS1.out _)
  case k =>
    rintro e w2 ⟨rfl, hs2⟩
    clear c9 c8 c7 c6 c5 c4 c3 c2
    have c2 := hs2.bx.cell 2
    have c3 := hs2.bx.cell 3
    have c4 := hs2.bx.cell 4
    have c5 := hs2.bx.cell 5
    have c6 := hs2.bx.cell 6
    have c7 := hs2.bx.cell 7
    have c8 := hs2.bx.cell 8
    have c9 := hs2.bx.cell 9
    simp only [List.getElem?_cons_zero, List.getElem?_cons_succ] at c2 c3 c4 c5 c6 c7 c8 c9
    have HS2 := Lib.hid hs2
    clear hs2
    go_wp2_with fail
    go_quiet (fail)
    go_wp2_with fail
    all_goals
      refine wp_region_tail 4 (by kernel_rfl) (by kernel_rfl) ?_
      simp only [List.take_succ_cons, List.take_zero, List.drop_succ_cons, List.drop_zero]
      repeat still_step
      refine wpStill_nil ?_
      go_wp2_with fail
      refine (Hd.put16 (w1 := w1) (gb := gb) (gx := gx) (A := ([] ++ Lib.beBytes 2 (n1 * 4096 + n4))) (k := 6) (R := bcs pay) (T := 124) (cs := [C, P, .bool (bt n0), .int .u8 n1, .int .u8 n2, .int .u8 n3, .int .u16 n4, .int .u16 n5, .int .u16 n6, .int .u32 n7]) (bc := bc) ?h (n2 * 8192 + n3 * 2048 + n0 * 1024 + n5) _ 2 _ _ 4 (by simp) rfl (by omega) (by simp (disch := omega) only [and16_1023, and8_3, u16_wrap_id, orm16 0 10, orm16 11 13, orm16 10 11]; first | (have := bt_true ‹bt n0 = true›; omega) | (have := bt_false ‹bt n0 = false› h0; omega)) (by omega)).mono ?k
      case h => exact (Hd.drew (Hd.drewN HS2.out _))
      case k =>
        rintro e w3 ⟨rfl, hs3⟩
        clear c9 c8 c7 c6 c5 c4 c3 c2
        have c2 := hs3.bx.cell 2
        have c3 := hs3.bx.cell 3
        have c4 := hs3.bx.cell 4
        have c5 := hs3.bx.cell 5
        have c6 := hs3.bx.cell 6
        have c7 := hs3.bx.cell 7
        have c8 := hs3.bx.cell 8
        have c9 := hs3.bx.cell 9
        simp only [List.getElem?_cons_zero, List.getElem?_cons_succ] at c2 c3 c4 c5 c6 c7 c8 c9
        have HS3 := Lib.hid hs3
        clear hs3
        go_wp2_with fail
        go_quiet (fail)
        go_wp2_with fail
        refine wp_region_tail 4 (by kernel_rfl) (by kernel_rfl) ?_
        simp only [List.take_succ_cons, List.take_zero, List.drop_succ_cons, List.drop_zero]
        repeat still_step
        refine wpStill_nil ?_
        go_wp2_with fail
        refine (Hd.put32 (w1 := w1) (gb := gb) (gx := gx) (A := (([] ++ Lib.beBytes 2 (n1 * 4096 + n4)) ++ Lib.beBytes 2 (n2 * 8192 + n3 * 2048 + n0 * 1024 + n5))) (k := 4) (R := bcs pay) (T := 124) (cs := [C, P, .bool (bt n0), .int .u8 n1, .int .u8 n2, .int .u8 n3, .int .u16 n4, .int .u16 n5, .int .u16 n6, .int .u32 n7]) (bc := bc) ?h (n6 * 1048576 + n7) _ 4 _ _ 0 (by simp) rfl (by omega) (by simp (disch := omega) only [and32_1048575, and16_4095, orm32 0 20]; omega) (by omega)).mono ?k
        case h => exact (Hd.drew (Hd.drewN HS3.out _))
        case k =>
          rintro e w4 ⟨rfl, hs4⟩
          clear c9 c8 c7 c6 c5 c4 c3 c2
          have HS4 := Lib.hid hs4
          clear hs4
          go_wp2_with fail
          subst hbc
          exact hR.out _ _ ⟨rfl, Hd.fin HS4.out (by simp [erspanHdr]) (by simp [erspanHdr]; omega) hB hg'⟩
end Go.Proofs.YtphmklgbbpiafaaGreat
