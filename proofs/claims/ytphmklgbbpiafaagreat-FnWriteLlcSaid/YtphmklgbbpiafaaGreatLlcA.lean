/-
  LLC: its SerializeTo. No condition.
-/
import Derived.Test.YtphmklgbbpiafaaGreatSerA
namespace Go.Proofs.YtphmklgbbpiafaaGreat
open Go Go.RowKit
set_option linter.unusedVariables false
attribute [local go_sem] sd_drewN ad_drewN
attribute [local simp] Lib.beBytes_length Lib.leBytes_length

def llcHdr (n0 n1 n2 n3 n4 : Nat) : List UInt8 := Lib.beBytes 1 (n0 + n1) ++ Lib.beBytes 1 (n2 + n3) ++ (if n4 < 256 then Lib.beBytes 1 n4 else Lib.beBytes 2 n4)
def MLlc (n0 n1 n2 n3 n4 : Nat) (w : World) (gx gb : Nat) : Prop := ∃ C P, Bk w gx 87 [C, P, .int .u8 n0, .bool (bt n1), .int .u8 n2, .bool (bt n3), .int .u16 n4]
set_option maxRecDepth 100000 in
set_option maxHeartbeats 4000000 in
theorem ser_llc_short (n0 n1 n2 n3 n4 : Nat) (h0 : n0 < 256) (h1 : n1 < 2) (h2 : n2 < 256) (h3 : n3 < 2) (h4 : n4 < 65536) (he0 : n0 % 2 = 0) (he2 : n2 % 2 = 0) (hc : n4 < 256) (fix sum : Bool) (pay : List UInt8) (hp : pay.length ≤ 300) :
    Ser 137 fix sum pay (llcHdr n0 n1 n2 n3 n4) (MLlc n0 n1 n2 n3 n4) := by
  rintro gx gb a D L w ⟨C, P, hx⟩ hb ha hD
  refine calls_hid fun R hR => ?_
  have hne := hx.ne hb (by decide)
  have hgx := hx.lt
  have hgb := hb.lt
  have hc' : ¬ n4 < 256 ∨ n4 < 256 := by omega
  have c2 := hx.cell 2
  have c4 := hx.cell 4
  have c6 := hx.cell 6
  simp only [List.getElem?_cons_zero, List.getElem?_cons_succ] at c2 c4 c6
  have hand : bits .and .u16 (n4 : Int) 65280 = 0 := by rw [and16_65280 n4 h4]; omega
  have t0 : bits .and .u8 (n0 : Int) 1 = 0 := by rw [and8_1 _ (by omega) (by omega)]; omega
  have t2 : bits .and .u8 (n2 : Int) 1 = 0 := by rw [and8_1 _ (by omega) (by omega)]; omega
  go_enter Tryz.func137, Tryz.ntmps137
  go_wp2_with fail
  refine (prepend_any gb pay.length 3 0 a D (bcs pay) L _ (hb.alloc _) (hD.alloc _) bcs_one (by omega) (by omega) (by omega) (by omega)).mono ?_
  rintro e w1 ⟨g, rfl, hg, hbk, hbuf, hgr⟩
  have hg' : w.heap.size ≤ g := by simp at hg; omega
  have hB : ∀ base, base ≤ w.heap.size → base ≤ gb → base ≤ gx → Below base w w1 := fun base k1 k2 _ => ((Below.refl _ w).alloc k1 _).trans (below_of_some hgr (by simp; omega) k2)
  have hs1 := Hd.start ((hx.alloc _).grown hgr (by simpa using hne)) hbk hbuf (by omega) (by omega)
  have hgx' : g ≠ gx := by omega
  clear hx hb hD hgr hbk hbuf hg c2 c4 c6
  have c2 := hs1.bx.cell 2
  have c3 := hs1.bx.cell 3
  have c4 := hs1.bx.cell 4
  have c5 := hs1.bx.cell 5
  have c6 := hs1.bx.cell 6
  simp only [List.getElem?_cons_zero, List.getElem?_cons_succ] at c2 c3 c4 c5 c6
  have k0 := (hs1.bg.cell 0).trans (part_get _ _ 0 _ (by simp) (by simp))
  have f0 := hs1.bg.frozen 0
  have k1 := (hs1.bg.cell 1).trans (part_get _ _ 1 _ (by simp) (by simp))
  have f1 := hs1.bg.frozen 1
  have k2 := (hs1.bg.cell 2).trans (part_get _ _ 2 _ (by simp) (by simp))
  have f2 := hs1.bg.frozen 2
  have HS1 := Lib.hid hs1
  clear hs1
  rcases (show n1 = 0 ∨ n1 = 1 by omega) with rfl | rfl <;> rcases (show n3 = 0 ∨ n3 = 1 by omega) with rfl | rfl
  · have e0 : bt 0 = false := rfl
    have e1 : bt 0 = false := rfl
    rw [e0] at c3
    rw [e1] at c5
    go_wp2_with fail
    exact hR.out _ _ ⟨rfl, Hd.fin (((HS1.out.store (n0 + 0) _ 0 2 (by simp) rfl (by omega) (by omega)).store (n2 + 0) _ 1 1 (by simp) rfl (by omega) (by omega)).store n4 _ 2 0 (by simp) rfl (by first | rfl | omega) (by omega)) (by simp [llcHdr, hc]) (by simp [llcHdr, hc]; omega) hB hg'⟩
  · have e0 : bt 0 = false := rfl
    have e1 : bt 1 = true := rfl
    rw [e0] at c3
    rw [e1] at c5
    go_wp2_with fail
    exact hR.out _ _ ⟨rfl, Hd.fin (((HS1.out.store (n0 + 0) _ 0 2 (by simp) rfl (by omega) (by omega)).store (n2 + 1) _ 1 1 (by simp) rfl (by omega) (by omega)).store n4 _ 2 0 (by simp) rfl (by first | rfl | omega) (by omega)) (by simp [llcHdr, hc]) (by simp [llcHdr, hc]; omega) hB hg'⟩
  · have e0 : bt 1 = true := rfl
    have e1 : bt 0 = false := rfl
    rw [e0] at c3
    rw [e1] at c5
    go_wp2_with fail
    exact hR.out _ _ ⟨rfl, Hd.fin (((HS1.out.store (n0 + 1) _ 0 2 (by simp) rfl (by omega) (by omega)).store (n2 + 0) _ 1 1 (by simp) rfl (by omega) (by omega)).store n4 _ 2 0 (by simp) rfl (by first | rfl | omega) (by omega)) (by simp [llcHdr, hc]) (by simp [llcHdr, hc]; omega) hB hg'⟩
  · have e0 : bt 1 = true := rfl
    have e1 : bt 1 = true := rfl
    rw [e0] at c3
    rw [e1] at c5
    go_wp2_with fail
    exact hR.out _ _ ⟨rfl, Hd.fin (((HS1.out.store (n0 + 1) _ 0 2 (by simp) rfl (by omega) (by omega)).store (n2 + 1) _ 1 1 (by simp) rfl (by omega) (by omega)).store n4 _ 2 0 (by simp) rfl (by first | rfl | omega) (by omega)) (by simp [llcHdr, hc]) (by simp [llcHdr, hc]; omega) hB hg'⟩
set_option maxRecDepth 100000 in
set_option maxHeartbeats 4000000 in
theorem ser_llc_long (n0 n1 n2 n3 n4 : Nat) (h0 : n0 < 256) (h1 : n1 < 2) (h2 : n2 < 256) (h3 : n3 < 2) (h4 : n4 < 65536) (he0 : n0 % 2 = 0) (he2 : n2 % 2 = 0) (hc : 256 ≤ n4) (fix sum : Bool) (pay : List UInt8) (hp : pay.length ≤ 300) :
    Ser 137 fix sum pay (llcHdr n0 n1 n2 n3 n4) (MLlc n0 n1 n2 n3 n4) := by
  rintro gx gb a D L w ⟨C, P, hx⟩ hb ha hD
  refine calls_hid fun R hR => ?_
  have hne := hx.ne hb (by decide)
  have hgx := hx.lt
  have hgb := hb.lt
  have hc' : ¬ n4 < 256 ∨ n4 < 256 := by omega
  have c2 := hx.cell 2
  have c4 := hx.cell 4
  have c6 := hx.cell 6
  simp only [List.getElem?_cons_zero, List.getElem?_cons_succ] at c2 c4 c6
  obtain ⟨V, hand, hV⟩ : ∃ V : Int, bits .and .u16 (n4 : Int) 65280 = V ∧ (V != 0) = true := ⟨_, and16_65280 n4 h4, by simp; omega⟩
  have t0 : bits .and .u8 (n0 : Int) 1 = 0 := by rw [and8_1 _ (by omega) (by omega)]; omega
  have t2 : bits .and .u8 (n2 : Int) 1 = 0 := by rw [and8_1 _ (by omega) (by omega)]; omega
  go_enter Tryz.func137, Tryz.ntmps137
  go_wp2_with fail
  refine (prepend_any gb pay.length 4 0 a D (bcs pay) L _ (hb.alloc _) (hD.alloc _) bcs_one (by omega) (by omega) (by omega) (by omega)).mono ?_
  rintro e w1 ⟨g, rfl, hg, hbk, hbuf, hgr⟩
  have hg' : w.heap.size ≤ g := by simp at hg; omega
  have hB : ∀ base, base ≤ w.heap.size → base ≤ gb → base ≤ gx → Below base w w1 := fun base k1 k2 _ => ((Below.refl _ w).alloc k1 _).trans (below_of_some hgr (by simp; omega) k2)
  have hs1 := Hd.start ((hx.alloc _).grown hgr (by simpa using hne)) hbk hbuf (by omega) (by omega)
  have hgx' : g ≠ gx := by omega
  clear hx hb hD hgr hbk hbuf hg c2 c4 c6
  have c2 := hs1.bx.cell 2
  have c3 := hs1.bx.cell 3
  have c4 := hs1.bx.cell 4
  have c5 := hs1.bx.cell 5
  have c6 := hs1.bx.cell 6
  simp only [List.getElem?_cons_zero, List.getElem?_cons_succ] at c2 c3 c4 c5 c6
  have k0 := (hs1.bg.cell 0).trans (part_get _ _ 0 _ (by simp) (by simp))
  have f0 := hs1.bg.frozen 0
  have k1 := (hs1.bg.cell 1).trans (part_get _ _ 1 _ (by simp) (by simp))
  have f1 := hs1.bg.frozen 1
  have k2 := (hs1.bg.cell 2).trans (part_get _ _ 2 _ (by simp) (by simp))
  have f2 := hs1.bg.frozen 2
  have k3 := (hs1.bg.cell 3).trans (part_get _ _ 3 _ (by simp) (by simp))
  have f3 := hs1.bg.frozen 3
  have HS1 := Lib.hid hs1
  clear hs1
  rcases (show n1 = 0 ∨ n1 = 1 by omega) with rfl | rfl <;> rcases (show n3 = 0 ∨ n3 = 1 by omega) with rfl | rfl
  · have e0 : bt 0 = false := rfl
    have e1 : bt 0 = false := rfl
    rw [e0] at c3
    rw [e1] at c5
    go_wp2_with fail
    exact hR.out _ _ ⟨rfl, Hd.fin ((((HS1.out.store (n0 + 0) _ 0 3 (by simp) rfl (by omega) (by omega)).store (n2 + 0) _ 1 2 (by simp) rfl (by omega) (by omega)).store (n4 / 256) _ 2 1 (by simp) rfl (by omega) (by omega)).store (n4 % 256) _ 3 0 (by simp) rfl (by omega) (by omega)) (by simp [llcHdr, show ¬ n4 < 256 by omega, beBytes_two n4]) (by simp [llcHdr, show ¬ n4 < 256 by omega]; omega) hB hg'⟩
  · have e0 : bt 0 = false := rfl
    have e1 : bt 1 = true := rfl
    rw [e0] at c3
    rw [e1] at c5
    go_wp2_with fail
    exact hR.out _ _ ⟨rfl, Hd.fin ((((HS1.out.store (n0 + 0) _ 0 3 (by simp) rfl (by omega) (by omega)).store (n2 + 1) _ 1 2 (by simp) rfl (by omega) (by omega)).store (n4 / 256) _ 2 1 (by simp) rfl (by omega) (by omega)).store (n4 % 256) _ 3 0 (by simp) rfl (by omega) (by omega)) (by simp [llcHdr, show ¬ n4 < 256 by omega, beBytes_two n4]) (by simp [llcHdr, show ¬ n4 < 256 by omega]; omega) hB hg'⟩
  · have e0 : bt 1 = true := rfl
    have e1 : bt 0 = false := rfl
    rw [e0] at c3
    rw [e1] at c5
    go_wp2_with fail
    exact hR.out _ _ ⟨rfl, Hd.fin ((((HS1.out.store (n0 + 1) _ 0 3 (by simp) rfl (by omega) (by omega)).store (n2 + 0) _ 1 2 (by simp) rfl (by omega) (by omega)).store (n4 / 256) _ 2 1 (by simp) rfl (by omega) (by omega)).store (n4 % 256) _ 3 0 (by simp) rfl (by omega) (by omega)) (by simp [llcHdr, show ¬ n4 < 256 by omega, beBytes_two n4]) (by simp [llcHdr, show ¬ n4 < 256 by omega]; omega) hB hg'⟩
  · have e0 : bt 1 = true := rfl
    have e1 : bt 1 = true := rfl
    rw [e0] at c3
    rw [e1] at c5
    go_wp2_with fail
    exact hR.out _ _ ⟨rfl, Hd.fin ((((HS1.out.store (n0 + 1) _ 0 3 (by simp) rfl (by omega) (by omega)).store (n2 + 1) _ 1 2 (by simp) rfl (by omega) (by omega)).store (n4 / 256) _ 2 1 (by simp) rfl (by omega) (by omega)).store (n4 % 256) _ 3 0 (by simp) rfl (by omega) (by omega)) (by simp [llcHdr, show ¬ n4 < 256 by omega, beBytes_two n4]) (by simp [llcHdr, show ¬ n4 < 256 by omega]; omega) hB hg'⟩
end Go.Proofs.YtphmklgbbpiafaaGreat
