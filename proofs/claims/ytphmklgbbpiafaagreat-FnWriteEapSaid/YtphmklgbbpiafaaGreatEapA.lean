/-
  EAP: its SerializeTo. No condition.
-/
import Derived.Test.YtphmklgbbpiafaaGreatSerB
namespace Go.Proofs.YtphmklgbbpiafaaGreat
open Go Go.RowKit
set_option linter.unusedVariables false
attribute [local go_sem] sd_drewN ad_drewN
attribute [local simp] Lib.beBytes_length Lib.leBytes_length

def eapHdr (n0 n1 n2 n3 : Nat) (d0 : List UInt8) : List UInt8 := Lib.beBytes 1 n0 ++ Lib.beBytes 1 n1 ++ Lib.beBytes 2 n2 ++ Lib.beBytes 1 n3 ++ d0
def MEap (n0 n1 n2 n3 : Nat) (d0 : List UInt8) (w : World) (gx gb : Nat) : Prop := ∃ C P Q cQ, Bk w gx 110 [C, P, .int .u8 n0, .int .u8 n1, .int .u16 n2, .int .u8 n3, .slice Q d0.length cQ] ∧ Sl w gb Q d0.length (bcs d0)
set_option maxRecDepth 100000 in
set_option maxHeartbeats 4000000 in
theorem ser_eap (n0 n1 n2 n3 : Nat) (d0 : List UInt8) (h0 : n0 < 256) (h1 : n1 < 256) (h2 : n2 < 65536) (h3 : n3 < 256) (hd0 : 0 < d0.length) (hd : d0.length ≤ 300) (sum : Bool) (pay : List UInt8) (hp : pay.length ≤ 300) :
    Ser 155 false sum pay (eapHdr n0 n1 n2 n3 d0) (MEap n0 n1 n2 n3 d0) := by
  rintro gx gb a D L w ⟨C, P, Q, cQ, hx, hQ⟩ hb ha hD
  refine calls_hid fun R hR => ?_
  have hne := hx.ne hb (by decide)
  have hgx := hx.lt
  have hgb := hb.lt
  have c6 := hx.cell 6
  simp only [List.getElem?_cons_zero, List.getElem?_cons_succ] at c6
  have HQ := Lib.hid hQ
  clear hQ
  go_enter Tryz.func155, Tryz.ntmps155
  go_wp2_with fail
  have ei : (d0.length : Int) + 4 + 1 = ((d0.length + 5 : Nat) : Int) := by omega
  rw [ei]
  refine (prepend_any gb pay.length (d0.length + 5) 0 a D (bcs pay) L _ (hb.alloc _) (hD.alloc _) bcs_one (by omega) (by omega) (by omega) (by omega)).mono ?_
  rintro e w1 ⟨g, rfl, hg, hbk, hbuf, hgr⟩
  have hg' : w.heap.size ≤ g := by simp at hg; omega
  have hB : ∀ base, base ≤ w.heap.size → base ≤ gb → base ≤ gx → Below base w w1 := fun base k1 k2 _ => ((Below.refl _ w).alloc k1 _).trans (below_of_some hgr (by simp; omega) k2)
  obtain ⟨bc, hbc⟩ : ∃ bc : List Value, bc = [.slice (some ⟨g, 0, none⟩) (pay.length + (d0.length + 5)) (pay.length + (d0.length + 5)), .int .i64 0, .int .i64 (((0 : Nat) : Int) + ((d0.length + 5 : Nat) : Int)), .int .i64 a, L] := ⟨_, rfl⟩
  rw [← hbc] at hbuf
  have hs1 := Hd.start ((hx.alloc _).grown hgr (by simpa using hne)) hbk hbuf (by omega) (by omega)
  have hgx' : g ≠ gx := by omega
  have HQ1 : Hid (Sl w1 gb Q d0.length (bcs d0)) := Lib.hid (HQ.out.keep fun g' hg' => (hgr.block g' (by simp; omega) (by simp; omega)).trans (Below.heap_alloc w _ g' (by omega)))
  have hgb1 := hs1.bb.lt
  clear hx hb hD hgr hbk hbuf hg c6 HQ
  have c2 := hs1.bx.cell 2
  have c3 := hs1.bx.cell 3
  have c4 := hs1.bx.cell 4
  simp only [List.getElem?_cons_zero, List.getElem?_cons_succ] at c2 c3 c4
  have k0 := (hs1.bg.cell 0).trans (part_get _ _ 0 _ (by simp) (by simp))
  have f0 := hs1.bg.frozen 0
  have k1 := (hs1.bg.cell 1).trans (part_get _ _ 1 _ (by simp) (by simp))
  have f1 := hs1.bg.frozen 1
  have j0 : (0 : Int) < (d0.length : Int) + 5 := by omega
  have j1 : (1 : Int) < (d0.length : Int) + 5 := by omega
  have j2 : (2 : Int) ≤ (d0.length : Int) + 5 := by omega
  have j3 : ¬ pay.length + (d0.length + 5) = 2 := by omega
  have j6 : ¬ pay.length + (d0.length + 5) = 5 := by omega
  have HS1 := Lib.hid hs1
  clear hs1
  go_wp2_with fail
  refine wp_region_tail 7 (by kernel_rfl) (by kernel_rfl) ?_
  simp only [List.take_succ_cons, List.take_zero, List.drop_succ_cons, List.drop_zero]
  repeat still_step
  refine wpStill_nil ?_
  go_wp2_with fail
  refine (Hd.put16 (w1 := w1) (gb := gb) (gx := gx) (A := (([] ++ Lib.beBytes 1 n0) ++ Lib.beBytes 1 n1)) (k := d0.length + 3) (R := bcs pay) (T := 110) (cs := _) (bc := bc) ((HS1.out.store n0 _ 0 (d0.length + 4) (by simp) rfl rfl (by omega)).store n1 _ 1 (d0.length + 3) (by simp) rfl rfl (by omega)).drew n2 _ 2 _ _ (d0.length + 1) (by simp) (by omega) (by omega) rfl (by omega)).mono ?_
  rintro e w2 ⟨rfl, hs2⟩
  clear f1 k1 f0 k0 c4 c3 c2
  have c5 := hs2.bx.cell 5
  have c6 := hs2.bx.cell 6
  simp only [List.getElem?_cons_zero, List.getElem?_cons_succ] at c5 c6
  have k4 := (hs2.bg.cell 4).trans (part_get _ _ 4 _ (by simp) (by simp))
  have f4 := hs2.bg.frozen 4
  have HS2 := Lib.hid hs2
  clear hs2
  have j4 : (4 : Int) < (d0.length : Int) + 5 := by omega
  have j5 : (5 : Int) ≤ (d0.length : Int) + 5 := by omega
  go_wp2_with fail
  refine wp_region_tail 6 (by kernel_rfl) (by kernel_rfl) ?_
  simp only [List.take_succ_cons, List.take_zero, List.drop_succ_cons, List.drop_zero]
  repeat still_step
  refine wpStill_nil ?_
  have HS3 := Lib.hid ((HS2.out.store n3 n3 4 d0.length (by simp) (by omega) rfl (by omega)).drew)
  refine wpList_copy_bk rfl (.tmp 70) (.tmp 74) 25 rfl Tryz.underlying25 size5 g 5 _ _ gb d0.length cQ Q _ d0 rfl rfl HS3.out.bg (HS3.out.slice HQ1.out hgb1 (by omega)) ?hle ?hfit ?k
  case hle => omega
  case hfit => simp [part_length, bcs_length]
  case k =>
  intro w3 hb3 hg3
  have HS4 := Lib.hid (HS3.out.laid d0 5 0 (by simp) (by omega) hb3 hg3)
  clear c5 c6 k4 f4 HS3 hb3 hg3
  go_wp2_with fail
  subst hbc
  exact hR.out _ _ ⟨rfl, Hd.fin HS4.out (by simp [eapHdr]) (by simp [eapHdr]; omega) hB hg'⟩
end Go.Proofs.YtphmklgbbpiafaaGreat
