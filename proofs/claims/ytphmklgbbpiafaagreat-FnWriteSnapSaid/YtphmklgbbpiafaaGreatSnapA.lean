/-
  SNAP: its SerializeTo. No condition.
-/
import Derived.Test.YtphmklgbbpiafaaGreatSerA
namespace Go.Proofs.YtphmklgbbpiafaaGreat
open Go Go.RowKit
set_option linter.unusedVariables false
attribute [local go_sem] sd_drewN ad_drewN
attribute [local simp] Lib.beBytes_length Lib.leBytes_length

def snapHdr (n0 : Nat) (b0 b1 b2 : UInt8) : List UInt8 := Lib.beBytes 1 b0.toNat ++ Lib.beBytes 1 b1.toNat ++ Lib.beBytes 1 b2.toNat ++ Lib.beBytes 2 n0
def MSnap (n0 : Nat) (b0 b1 b2 : UInt8) (w : World) (gx gb : Nat) : Prop := ∃ C P Q cQ, Bk w gx 91 [C, P, .slice Q 3 cQ, .int .u16 n0] ∧ Sl w gb Q 3 (bcs [b0, b1, b2])
set_option maxRecDepth 100000 in
set_option maxHeartbeats 4000000 in
theorem ser_snap (n0 : Nat) (b0 b1 b2 : UInt8) (h0 : n0 < 65536) (fix sum : Bool) (pay : List UInt8) (hp : pay.length ≤ 300) :
    Ser 139 fix sum pay (snapHdr n0 b0 b1 b2) (MSnap n0 b0 b1 b2) := by
  rintro gx gb a D L w ⟨C, P, Q, cQ, hx, hQ⟩ hb ha hD
  refine calls_hid fun R hR => ?_
  have hne := hx.ne hb (by decide)
  have hgx := hx.lt
  have hgb := hb.lt
  go_enter Tryz.func139, Tryz.ntmps139
  go_wp2_with fail
  refine (prepend_any gb pay.length 5 0 a D (bcs pay) L _ (hb.alloc _) (hD.alloc _) bcs_one (by omega) (by omega) (by omega) (by omega)).mono ?_
  rintro e w1 ⟨g, rfl, hg, hbk, hbuf, hgr⟩
  have hg' : w.heap.size ≤ g := by simp at hg; omega
  have hB : ∀ base, base ≤ w.heap.size → base ≤ gb → base ≤ gx → Below base w w1 := fun base k1 k2 _ => ((Below.refl _ w).alloc k1 _).trans (below_of_some hgr (by simp; omega) k2)
  obtain ⟨bc, hbc⟩ : ∃ bc : List Value, bc = [.slice (some ⟨g, 0, none⟩) (pay.length + 5) (pay.length + 5), .int .i64 0, .int .i64 (((0 : Nat) : Int) + ((5 : Nat) : Int)), .int .i64 a, L] := ⟨_, rfl⟩
  rw [← hbc] at hbuf
  have hs1 := Hd.start ((hx.alloc _).grown hgr (by simpa using hne)) hbk hbuf (by omega) (by omega)
  have hgx' : g ≠ gx := by omega
  have hQ1 : Sl w1 gb Q 3 (bcs [b0, b1, b2]) := hQ.keep fun g' hg' => (hgr.block g' (by simp; omega) (by simp; omega)).trans (Below.heap_alloc w _ g' (by omega))
  clear hQ
  obtain ⟨q, o, rfl, hq, _⟩ := hQ1.2 (by omega)
  have hqg : q ≠ g := by omega
  have q0 := hQ1.byte (k := 0) (by omega)
  have q1 := hQ1.byte (k := 1) (by omega)
  have q2 := hQ1.byte (k := 2) (by omega)
  simp only [Nat.add_zero, List.getD_cons_zero, List.getD_cons_succ] at q0 q1 q2
  have u0 := b0.toNat_lt
  have u1 := b1.toNat_lt
  have u2 := b2.toNat_lt
  have j5 : (5 : Int) ≤ (pay.length : Int) + 5 := by omega
  clear hQ1
  clear hx hb hD hgr hbk hbuf hg
  have c2 := hs1.bx.cell 2
  have c3 := hs1.bx.cell 3
  simp only [List.getElem?_cons_zero, List.getElem?_cons_succ] at c2 c3
  have k0 := (hs1.bg.cell 0).trans (part_get _ _ 0 _ (by simp) (by simp))
  have f0 := hs1.bg.frozen 0
  have k1 := (hs1.bg.cell 1).trans (part_get _ _ 1 _ (by simp) (by simp))
  have f1 := hs1.bg.frozen 1
  have k2 := (hs1.bg.cell 2).trans (part_get _ _ 2 _ (by simp) (by simp))
  have f2 := hs1.bg.frozen 2
  have HS1 := Lib.hid hs1
  clear hs1
  go_wp2_with fail
  refine wp_region_tail 7 (by kernel_rfl) (by kernel_rfl) ?_
  simp only [List.take_succ_cons, List.take_zero, List.drop_succ_cons, List.drop_zero]
  repeat still_step
  refine wpStill_nil ?_
  go_wp2_with fail
  refine (Hd.put16 (w1 := w1) (gb := gb) (gx := gx) (A := ((([] ++ Lib.beBytes 1 (b0.toNat)) ++ Lib.beBytes 1 (b1.toNat)) ++ Lib.beBytes 1 (b2.toNat))) (k := 2) (R := bcs pay) (T := 91) (cs := [C, P, .slice (some ⟨q, o, none⟩) 3 cQ, .int .u16 n0]) (bc := bc) ?h (n0) _ 3 _ _ 0 (by simp) rfl (by omega) rfl (by omega)).mono ?k
  case h => exact (Hd.drew (Hd.store (Hd.store (Hd.store HS1.out (b0.toNat) _ 0 4 (by simp) rfl rfl (by omega)) (b1.toNat) _ 1 3 (by simp) rfl rfl (by omega)) (b2.toNat) _ 2 2 (by simp) rfl rfl (by omega)))
  case k =>
    rintro e w2 ⟨rfl, hs2⟩
    clear f2 f1 f0 k2 k1 k0 c3 c2
    have HS2 := Lib.hid hs2
    clear hs2
    go_wp2_with fail
    subst hbc
    exact hR.out _ _ ⟨rfl, Hd.fin HS2.out (by simp [snapHdr]) (by simp [snapHdr]; omega) hB hg'⟩
end Go.Proofs.YtphmklgbbpiafaaGreat
