/-
  Loopback: its SerializeTo. No condition.
-/
import Derived.Test.YtphmklgbbpiafaaGreatSerA
namespace Go.Proofs.YtphmklgbbpiafaaGreat
open Go Go.RowKit
set_option linter.unusedVariables false
attribute [local go_sem] sd_drewN ad_drewN
attribute [local simp] Lib.beBytes_length Lib.leBytes_length

def loopbackHdr (n0 : Nat) : List UInt8 := Lib.leBytes 4 n0
def MLoopback (n0 : Nat) (w : World) (gx gb : Nat) : Prop := ∃ C P, Bk w gx 95 [C, P, .int .u8 n0]
set_option maxRecDepth 100000 in
set_option maxHeartbeats 4000000 in
theorem ser_loopback (n0 : Nat) (h0 : n0 < 256) (fix sum : Bool) (pay : List UInt8) (hp : pay.length ≤ 300) :
    Ser 142 fix sum pay (loopbackHdr n0) (MLoopback n0) := by
  rintro gx gb a D L w ⟨C, P, hx⟩ hb ha hD
  refine calls_hid fun R hR => ?_
  have hne := hx.ne hb (by decide)
  have hgx := hx.lt
  have hgb := hb.lt
  go_enter Tryz.func142, Tryz.ntmps142
  go_wp2_with fail
  refine (prepend_any gb pay.length 4 0 a D (bcs pay) L _ (hb.alloc _) (hD.alloc _) bcs_one (by omega) (by omega) (by omega) (by omega)).mono ?_
  rintro e w1 ⟨g, rfl, hg, hbk, hbuf, hgr⟩
  have hg' : w.heap.size ≤ g := by simp at hg; omega
  have hB : ∀ base, base ≤ w.heap.size → base ≤ gb → base ≤ gx → Below base w w1 := fun base k1 k2 _ => ((Below.refl _ w).alloc k1 _).trans (below_of_some hgr (by simp; omega) k2)
  obtain ⟨bc, hbc⟩ : ∃ bc : List Value, bc = [.slice (some ⟨g, 0, none⟩) (pay.length + 4) (pay.length + 4), .int .i64 0, .int .i64 (((0 : Nat) : Int) + ((4 : Nat) : Int)), .int .i64 a, L] := ⟨_, rfl⟩
  rw [← hbc] at hbuf
  have hs1 := Hd.start ((hx.alloc _).grown hgr (by simpa using hne)) hbk hbuf (by omega) (by omega)
  have hgx' : g ≠ gx := by omega
  clear hx hb hD hgr hbk hbuf hg
  have c2 := hs1.bx.cell 2
  simp only [List.getElem?_cons_zero, List.getElem?_cons_succ] at c2
  have HS1 := Lib.hid hs1
  clear hs1
  go_wp2_with fail
  refine wp_region_tail 7 (by kernel_rfl) (by kernel_rfl) ?_
  simp only [List.take_succ_cons, List.take_zero, List.drop_succ_cons, List.drop_zero]
  repeat still_step
  refine wpStill_nil ?_
  go_wp2_with fail
  refine (Hd.putl32 (w1 := w1) (gb := gb) (gx := gx) (A := []) (k := 4) (R := bcs pay) (T := 95) (cs := [C, P, .int .u8 n0]) (bc := bc) ?h (n0) _ 0 _ _ 0 (by simp) rfl (by omega) rfl (by omega)).mono ?k
  case h => exact (Hd.drew HS1.out)
  case k =>
    rintro e w2 ⟨rfl, hs2⟩
    clear c2
    have HS2 := Lib.hid hs2
    clear hs2
    go_wp2_with fail
    subst hbc
    exact hR.out _ _ ⟨rfl, Hd.fin HS2.out (by simp [loopbackHdr]) (by simp [loopbackHdr]; omega) hB hg'⟩
end Go.Proofs.YtphmklgbbpiafaaGreat
