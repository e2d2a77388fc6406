/-
  PPPoE: its SerializeTo. No condition.
-/
import Derived.Test.YtphmklgbbpiafaaGreatSerA
namespace Go.Proofs.YtphmklgbbpiafaaGreat
open Go Go.RowKit
set_option linter.unusedVariables false
attribute [local go_sem] sd_drewN ad_drewN
attribute [local simp] Lib.beBytes_length Lib.leBytes_length

def pppoeHdr (n0 n1 n2 n3 n4 : Nat) : List UInt8 := Lib.beBytes 1 (n0 * 16 + n1) ++ Lib.beBytes 1 n2 ++ Lib.beBytes 2 n3 ++ Lib.beBytes 2 n4
def MPppoe (n0 n1 n2 n3 n4 : Nat) (w : World) (gx gb : Nat) : Prop := ∃ C P, Bk w gx 79 [C, P, .int .u8 n0, .int .u8 n1, .int .u8 n2, .int .u16 n3, .int .u16 n4]
set_option maxRecDepth 100000 in
set_option maxHeartbeats 4000000 in
theorem ser_pppoe_plain (n0 n1 n2 n3 n4 : Nat) (h0 : n0 < 16) (h1 : n1 < 16) (h2 : n2 < 256) (h3 : n3 < 65536) (h4 : n4 < 65536) (sum : Bool) (pay : List UInt8) (hp : pay.length ≤ 300) :
    Ser 130 false sum pay (pppoeHdr n0 n1 n2 n3 n4) (MPppoe n0 n1 n2 n3 n4) := by
  rintro gx gb a D L w ⟨C, P, hx⟩ hb ha hD
  refine calls_hid fun R hR => ?_
  have hne := hx.ne hb (by decide)
  have hgx := hx.lt
  have hgb := hb.lt
  go_enter Tryz.func130, Tryz.ntmps130
  go_wp2_with fail
  refine (bufbytes_any gb pay.length D _ _ L _ (hb.alloc _)).mono ?_
  rintro e w1' ⟨rfl, q, rfl⟩
  go_wp2_with fail
  refine (prepend_any gb pay.length 6 0 a D (bcs pay) L _ ((hb.alloc _).drewN q) ((hD.alloc _).drewN q) bcs_one (by omega) (by omega) (by omega) (by omega)).mono ?_
  rintro e w1 ⟨g, rfl, hg, hbk, hbuf, hgr⟩
  have hg' : w.heap.size ≤ g := by simp at hg; omega
  have hgo : w.heap.size < g := by simp at hg; omega
  have hB : ∀ base, base ≤ w.heap.size → base ≤ gb → base ≤ gx → Below base w w1 := fun base k1 k2 _ => (below_drewN ((Below.refl _ w).alloc k1 _) q).trans (below_of_some hgr (by simp; omega) k2)
  obtain ⟨bc, hbc⟩ : ∃ bc : List Value, bc = [.slice (some ⟨g, 0, none⟩) (pay.length + 6) (pay.length + 6), .int .i64 0, .int .i64 (((0 : Nat) : Int) + ((6 : Nat) : Int)), .int .i64 a, L] := ⟨_, rfl⟩
  rw [← hbc] at hbuf
  have hs1 := Hd.start (((hx.alloc _).drewN q).grown hgr (by simpa using hne)) hbk hbuf (by omega) (by omega)
  have hgx' : g ≠ gx := by omega
  have ho1 : Bk w1 w.heap.size 62 [.bool false, .bool sum] := ((Bk.new w 62 _).drewN q).grown hgr (by simp; omega)
  clear hx hb hD hgr hbk hbuf hg
  have c2 := hs1.bx.cell 2
  have c3 := hs1.bx.cell 3
  have c4 := hs1.bx.cell 4
  have c5 := hs1.bx.cell 5
  have c6 := hs1.bx.cell 6
  simp only [List.getElem?_cons_zero, List.getElem?_cons_succ] at c2 c3 c4 c5 c6
  have k0 := (hs1.bg.cell 0).trans (part_get _ _ 0 _ (by simp) (by simp))
  have f0 := hs1.bg.frozen 0
  have k1 := (hs1.bg.cell 1).trans (part_get _ _ 1 _ (by simp) (by simp))
  have f1 := hs1.bg.frozen 1
  have HS1 := Lib.hid hs1
  clear hs1
  go_wp2_with fail
  refine wp_region_tail 12 (by kernel_rfl) (by kernel_rfl) ?_
  simp only [List.take_succ_cons, List.take_zero, List.drop_succ_cons, List.drop_zero]
  repeat still_step
  refine wpStill_nil ?_
  go_wp2_with fail
  refine wp_region_tail 7 (by kernel_rfl) (by kernel_rfl) ?_
  simp only [List.take_succ_cons, List.take_zero, List.drop_succ_cons, List.drop_zero]
  repeat still_step
  refine wpStill_nil ?_
  go_wp2_with fail
  refine (Hd.put16 (w1 := w1) (gb := gb) (gx := gx) (A := (([] ++ Lib.beBytes 1 (n0 * 16 + n1)) ++ Lib.beBytes 1 (n2))) (k := 4) (R := bcs pay) (T := 79) (cs := [C, P, .int .u8 n0, .int .u8 n1, .int .u8 n2, .int .u16 n3, .int .u16 n4]) (bc := bc) ?h (n3) _ 2 _ _ 2 (by simp) rfl (by omega) rfl (by omega)).mono ?k
  case h => exact (Hd.drew (Hd.drew (Hd.store (Hd.store HS1.out (n0 * 16 + n1) _ 0 5 (by simp) rfl (by simp (disch := omega) only [orm8 0 4]; omega) (by omega)) (n2) _ 1 4 (by simp) rfl rfl (by omega))))
  case k =>
    rintro e w2 ⟨rfl, hs2⟩
    clear f1 f0 k1 k0 c6 c5 c4 c3 c2
    have c6 := hs2.bx.cell 6
    simp only [List.getElem?_cons_zero, List.getElem?_cons_succ] at c6
    have HS2 := Lib.hid hs2
    clear hs2
    have o0 : w2.cell? ⟨w.heap.size, 0, none⟩ = some (.bool false) := ((ho1.grown HS2.out.gr (by simp; omega)).cell 0)
    go_wp2_with fail
    refine wp_region_tail 7 (by kernel_rfl) (by kernel_rfl) ?_
    simp only [List.take_succ_cons, List.take_zero, List.drop_succ_cons, List.drop_zero]
    repeat still_step
    refine wpStill_nil ?_
    go_wp2_with fail
    refine (Hd.put16 (w1 := w1) (gb := gb) (gx := gx) (A := ((([] ++ Lib.beBytes 1 (n0 * 16 + n1)) ++ Lib.beBytes 1 (n2)) ++ Lib.beBytes 2 (n3))) (k := 2) (R := bcs pay) (T := 79) (cs := [C, P, .int .u8 n0, .int .u8 n1, .int .u8 n2, .int .u16 n3, .int .u16 n4]) (bc := bc) ?h (n4) _ 4 _ _ 0 (by simp) rfl (by omega) rfl (by omega)).mono ?k
    case h => exact (Hd.drew HS2.out)
    case k =>
      rintro e w3 ⟨rfl, hs3⟩
      clear c6
      have HS3 := Lib.hid hs3
      clear hs3
      go_wp2_with fail
      subst hbc
      exact hR.out _ _ ⟨rfl, Hd.fin HS3.out (by simp [pppoeHdr]) (by simp [pppoeHdr]; omega) hB hg'⟩
set_option maxRecDepth 100000 in
set_option maxHeartbeats 4000000 in
theorem ser_pppoe_fix (n0 n1 n2 n3 n4 : Nat) (h0 : n0 < 16) (h1 : n1 < 16) (h2 : n2 < 256) (h3 : n3 < 65536) (h4 : n4 < 65536) (sum : Bool) (pay : List UInt8) (hp : pay.length ≤ 300) :
    Ser 130 true sum pay (pppoeHdr n0 n1 n2 n3 pay.length) (MPppoe n0 n1 n2 n3 n4) := by
  rintro gx gb a D L w ⟨C, P, hx⟩ hb ha hD
  refine calls_hid fun R hR => ?_
  have hne := hx.ne hb (by decide)
  have hgx := hx.lt
  have hgb := hb.lt
  go_enter Tryz.func130, Tryz.ntmps130
  go_wp2_with fail
  refine (bufbytes_any gb pay.length D _ _ L _ (hb.alloc _)).mono ?_
  rintro e w1' ⟨rfl, q, rfl⟩
  go_wp2_with fail
  refine (prepend_any gb pay.length 6 0 a D (bcs pay) L _ ((hb.alloc _).drewN q) ((hD.alloc _).drewN q) bcs_one (by omega) (by omega) (by omega) (by omega)).mono ?_
  rintro e w1 ⟨g, rfl, hg, hbk, hbuf, hgr⟩
  have hg' : w.heap.size ≤ g := by simp at hg; omega
  have hgo : w.heap.size < g := by simp at hg; omega
  have hB : ∀ base, base ≤ w.heap.size → base ≤ gb → base ≤ gx → Below base w w1 := fun base k1 k2 _ => (below_drewN ((Below.refl _ w).alloc k1 _) q).trans (below_of_some hgr (by simp; omega) k2)
  obtain ⟨bc, hbc⟩ : ∃ bc : List Value, bc = [.slice (some ⟨g, 0, none⟩) (pay.length + 6) (pay.length + 6), .int .i64 0, .int .i64 (((0 : Nat) : Int) + ((6 : Nat) : Int)), .int .i64 a, L] := ⟨_, rfl⟩
  rw [← hbc] at hbuf
  have hs1 := Hd.start (((hx.alloc _).drewN q).grown hgr (by simpa using hne)) hbk hbuf (by omega) (by omega)
  have hgx' : g ≠ gx := by omega
  have ho1 : Bk w1 w.heap.size 62 [.bool true, .bool sum] := ((Bk.new w 62 _).drewN q).grown hgr (by simp; omega)
  clear hx hb hD hgr hbk hbuf hg
  have c2 := hs1.bx.cell 2
  have c3 := hs1.bx.cell 3
  have c4 := hs1.bx.cell 4
  have c5 := hs1.bx.cell 5
  have c6 := hs1.bx.cell 6
  simp only [List.getElem?_cons_zero, List.getElem?_cons_succ] at c2 c3 c4 c5 c6
  have k0 := (hs1.bg.cell 0).trans (part_get _ _ 0 _ (by simp) (by simp))
  have f0 := hs1.bg.frozen 0
  have k1 := (hs1.bg.cell 1).trans (part_get _ _ 1 _ (by simp) (by simp))
  have f1 := hs1.bg.frozen 1
  have HS1 := Lib.hid hs1
  clear hs1
  go_wp2_with fail
  refine wp_region_tail 12 (by kernel_rfl) (by kernel_rfl) ?_
  simp only [List.take_succ_cons, List.take_zero, List.drop_succ_cons, List.drop_zero]
  repeat still_step
  refine wpStill_nil ?_
  go_wp2_with fail
  refine wp_region_tail 7 (by kernel_rfl) (by kernel_rfl) ?_
  simp only [List.take_succ_cons, List.take_zero, List.drop_succ_cons, List.drop_zero]
  repeat still_step
  refine wpStill_nil ?_
  go_wp2_with fail
  refine (Hd.put16 (w1 := w1) (gb := gb) (gx := gx) (A := (([] ++ Lib.beBytes 1 (n0 * 16 + n1)) ++ Lib.beBytes 1 (n2))) (k := 4) (R := bcs pay) (T := 79) (cs := [C, P, .int .u8 n0, .int .u8 n1, .int .u8 n2, .int .u16 n3, .int .u16 n4]) (bc := bc) ?h (n3) _ 2 _ _ 2 (by simp) rfl (by omega) rfl (by omega)).mono ?k
  case h => exact (Hd.drew (Hd.drew (Hd.store (Hd.store HS1.out (n0 * 16 + n1) _ 0 5 (by simp) rfl (by simp (disch := omega) only [orm8 0 4]; omega) (by omega)) (n2) _ 1 4 (by simp) rfl rfl (by omega))))
  case k =>
    rintro e w2 ⟨rfl, hs2⟩
    clear f1 f0 k1 k0 c6 c5 c4 c3 c2
    have c6 := hs2.bx.cell 6
    simp only [List.getElem?_cons_zero, List.getElem?_cons_succ] at c6
    have HS2 := Lib.hid hs2
    clear hs2
    have o0 : w2.cell? ⟨w.heap.size, 0, none⟩ = some (.bool true) := ((ho1.grown HS2.out.gr (by simp; omega)).cell 0)
    have z2 := HS2.out.bx.frozen 6
    go_wp2_with fail
    refine wp_region_tail 7 (by kernel_rfl) (by kernel_rfl) ?_
    simp only [List.take_succ_cons, List.take_zero, List.drop_succ_cons, List.drop_zero]
    repeat still_step
    refine wpStill_nil ?_
    go_wp2_with fail
    have hs3 := HS2.out.poke hne 6 (.int .u16 (pay.length : Int))
    have hB3 : ∀ base, base ≤ w.heap.size → base ≤ gb → base ≤ gx → Below base w (w2.setCell ⟨gx, 6, none⟩ (.int .u16 (pay.length : Int))) := fun base k1 k2 k3 => (HS2.out.kept hB hg' base k1 k2 k3).setCell k3 _
    have HS3 := Lib.hid hs3
    clear hs3
    refine (Hd.put16 HS3.out.drew pay.length _ 4 _ _ 0 (by simp) rfl (by omega) rfl (by omega)).mono ?k
    case k =>
      rintro e w4 ⟨rfl, hs4⟩
      have HS4 := Lib.hid hs4
      clear hs4
      go_wp2_with fail
      subst hbc
      exact hR.out _ _ ⟨rfl, Hd.fin HS4.out (by simp [pppoeHdr]) (by simp [pppoeHdr]; omega) hB3 hg'⟩
end Go.Proofs.YtphmklgbbpiafaaGreat
