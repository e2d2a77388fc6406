/-
  GTP: its SerializeTo. No condition.
-/
import Derived.Test.YtphmklgbbpiafaaGreatSerA
namespace Go.Proofs.YtphmklgbbpiafaaGreat
open Go Go.RowKit
set_option linter.unusedVariables false
attribute [local go_sem] sd_drewN ad_drewN
attribute [local simp] Lib.beBytes_length Lib.leBytes_length

def gtpHdr (n0 n6 n7 n8 : Nat) : List UInt8 := Lib.beBytes 1 (n0 * 32 + 16) ++ Lib.beBytes 1 n6 ++ Lib.beBytes 2 n7 ++ Lib.beBytes 4 n8
def MGtp (n0 n6 n7 n8 : Nat) (w : World) (gx gb : Nat) : Prop := ∃ C P, Bk w gx 118 [C, P, .int .u8 n0, .int .u8 1, .int .u8 0, .bool false, .bool false, .bool false, .int .u8 n6, .int .u16 n7, .int .u32 n8, .int .u16 0, .int .u8 0, .slice none 0 0]
set_option maxRecDepth 100000 in
set_option maxHeartbeats 4000000 in
theorem ser_gtp (n0 n6 n7 n8 : Nat) (h0 : n0 < 8) (h6 : n6 < 256) (h7 : n7 < 65536) (h8 : n8 < 4294967296) (fix sum : Bool) (pay : List UInt8) (hp : pay.length ≤ 300) :
    Ser 160 fix sum pay (gtpHdr n0 n6 n7 n8) (MGtp n0 n6 n7 n8) := by
  rintro gx gb a D L w ⟨C, P, hx⟩ hb ha hD
  refine calls_hid fun R hR => ?_
  have hne := hx.ne hb (by decide)
  have hgx := hx.lt
  have hgb := hb.lt
  go_enter Tryz.func160, Tryz.ntmps160
  go_wp2_with fail
  refine (prepend_any gb pay.length 8 0 a D (bcs pay) L _ (hb.alloc _) (hD.alloc _) bcs_one (by omega) (by omega) (by omega) (by omega)).mono ?_
  rintro e w1 ⟨g, rfl, hg, hbk, hbuf, hgr⟩
  have hg' : w.heap.size ≤ g := by simp at hg; omega
  have hB : ∀ base, base ≤ w.heap.size → base ≤ gb → base ≤ gx → Below base w w1 := fun base k1 k2 _ => ((Below.refl _ w).alloc k1 _).trans (below_of_some hgr (by simp; omega) k2)
  obtain ⟨bc, hbc⟩ : ∃ bc : List Value, bc = [.slice (some ⟨g, 0, none⟩) (pay.length + 8) (pay.length + 8), .int .i64 0, .int .i64 (((0 : Nat) : Int) + ((8 : Nat) : Int)), .int .i64 a, L] := ⟨_, rfl⟩
  rw [← hbc] at hbuf
  have hs1 := Hd.start ((hx.alloc _).grown hgr (by simpa using hne)) hbk hbuf (by omega) (by omega)
  have hgx' : g ≠ gx := by omega
  have j4 : (4 : Int) ≤ (pay.length : Int) + 8 := by omega
  have j8 : (8 : Int) ≤ (pay.length : Int) + 8 := by omega
  clear hx hb hD hgr hbk hbuf hg
  have c2 := hs1.bx.cell 2
  have c6 := hs1.bx.cell 6
  have c7 := hs1.bx.cell 7
  have c8 := hs1.bx.cell 8
  have c9 := hs1.bx.cell 9
  have c13 := hs1.bx.cell 13
  simp only [List.getElem?_cons_zero, List.getElem?_cons_succ] at c2 c6 c7 c8 c9 c13
  have k0 := (hs1.bg.cell 0).trans (part_get _ _ 0 _ (by simp) (by simp))
  have f0 := hs1.bg.frozen 0
  have k1 := (hs1.bg.cell 1).trans (part_get _ _ 1 _ (by simp) (by simp))
  have f1 := hs1.bg.frozen 1
  have HS1 := Lib.hid hs1
  clear hs1
  go_wp2_with fail
  refine wp_region_tail 10 (by kernel_rfl) (by kernel_rfl) ?_
  simp only [List.take_succ_cons, List.take_zero, List.drop_succ_cons, List.drop_zero]
  repeat still_step
  refine wpStill_nil ?_
  go_wp2_with fail
  refine wp_region_tail 7 (by kernel_rfl) (by kernel_rfl) ?_
  simp only [List.take_succ_cons, List.take_zero, List.drop_succ_cons, List.drop_zero]
  repeat still_step
  refine wpStill_nil ?_
  go_wp2_with fail
  refine (Hd.put16 (w1 := w1) (gb := gb) (gx := gx) (A := (([] ++ Lib.beBytes 1 (n0 * 32 + 16)) ++ Lib.beBytes 1 (n6))) (k := 6) (R := bcs pay) (T := 118) (cs := [C, P, .int .u8 n0, .int .u8 1, .int .u8 0, .bool false, .bool false, .bool false, .int .u8 n6, .int .u16 n7, .int .u32 n8, .int .u16 0, .int .u8 0, .slice none 0 0]) (bc := bc) ?h (n7) _ 2 _ _ 4 (by simp) rfl (by omega) rfl (by omega)).mono ?k
  case h => exact (Hd.drew (Hd.drew (Hd.store (Hd.again (Hd.store HS1.out (n0 * 32) _ 0 7 (by simp) rfl (by simp (disch := omega) only [orm8 5 8]; omega) (by omega)) (n0 * 32 + 16) _ 0 (by simp) (by simp (disch := omega) only [orm8 5 8, orm8 4 5]; omega) (by omega)) (n6) _ 1 6 (by simp) rfl rfl (by omega))))
  case k =>
    rintro e w2 ⟨rfl, hs2⟩
    clear f1 f0 k1 k0 c13 c9 c8 c7 c6 c2
    have c10 := hs2.bx.cell 10
    simp only [List.getElem?_cons_zero, List.getElem?_cons_succ] at c10
    have HS2 := Lib.hid hs2
    clear hs2
    go_wp2_with fail
    refine wp_region_tail 7 (by kernel_rfl) (by kernel_rfl) ?_
    simp only [List.take_succ_cons, List.take_zero, List.drop_succ_cons, List.drop_zero]
    repeat still_step
    refine wpStill_nil ?_
    go_wp2_with fail
    refine (Hd.put32 (w1 := w1) (gb := gb) (gx := gx) (A := ((([] ++ Lib.beBytes 1 (n0 * 32 + 16)) ++ Lib.beBytes 1 (n6)) ++ Lib.beBytes 2 (n7))) (k := 4) (R := bcs pay) (T := 118) (cs := [C, P, .int .u8 n0, .int .u8 1, .int .u8 0, .bool false, .bool false, .bool false, .int .u8 n6, .int .u16 n7, .int .u32 n8, .int .u16 0, .int .u8 0, .slice none 0 0]) (bc := bc) ?h (n8) _ 4 _ _ 0 (by simp) rfl (by omega) rfl (by omega)).mono ?k
    case h => exact (Hd.drew HS2.out)
    case k =>
      rintro e w3 ⟨rfl, hs3⟩
      clear c10
      have c5 := hs3.bx.cell 5
      have c6 := hs3.bx.cell 6
      have c7 := hs3.bx.cell 7
      simp only [List.getElem?_cons_zero, List.getElem?_cons_succ] at c5 c6 c7
      have HS3 := Lib.hid hs3
      clear hs3
      go_wp2_with fail
      subst hbc
      exact hR.out _ _ ⟨rfl, Hd.fin HS3.out (by simp [gtpHdr]) (by simp [gtpHdr]; omega) hB hg'⟩
end Go.Proofs.YtphmklgbbpiafaaGreat
