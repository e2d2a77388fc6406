/-
  PPP: its SerializeTo. No condition.
-/
import Derived.Test.YtphmklgbbpiafaaGreatSerA
namespace Go.Proofs.YtphmklgbbpiafaaGreat
open Go Go.RowKit
set_option linter.unusedVariables false
attribute [local go_sem] sd_drewN ad_drewN
attribute [local simp] Lib.beBytes_length Lib.leBytes_length

def pppHdr (n0 n1 : Nat) : List UInt8 := (if n1 = 1 then [255, 3] else []) ++ Lib.beBytes 2 n0
def MPpp (n0 n1 : Nat) (w : World) (gx gb : Nat) : Prop := ∃ C P, Bk w gx 84 [C, P, .int .u16 n0, .bool (bt n1)]
set_option maxRecDepth 100000 in
set_option maxHeartbeats 4000000 in
theorem ser_ppp (n0 n1 : Nat) (h0 : n0 < 65536) (h1 : n1 < 2) (hz : n0 / 256 % 2 = 0) (fix sum : Bool) (pay : List UInt8) (hp : pay.length ≤ 300) :
    Ser 134 fix sum pay (pppHdr n0 n1) (MPpp n0 n1) := by
  rintro gx gb a D L w ⟨C, P, hx⟩ hb ha hD
  refine calls_hid fun R hR => ?_
  have hne := hx.ne hb (by decide)
  have hgx := hx.lt
  have hgb := hb.lt
  have c2 := hx.cell 2
  simp only [List.getElem?_cons_zero, List.getElem?_cons_succ] at c2
  have hand : bits .and .u16 (n0 : Int) 256 = 0 := by rw [bit16_256 _ (by omega) (by omega)]; omega
  go_enter Tryz.func134, Tryz.ntmps134
  go_wp2_with fail
  refine (prepend_any gb pay.length 2 0 a D (bcs pay) L _ (hb.alloc _) (hD.alloc _) bcs_one (by omega) (by omega) (by omega) (by omega)).mono ?_
  rintro e w1 ⟨g, rfl, hg, hbk, hbuf, hgr⟩
  have hg' : w.heap.size ≤ g := by simp at hg; omega
  have hB : ∀ base, base ≤ w.heap.size → base ≤ gb → base ≤ gx → Below base w w1 := fun base k1 k2 _ => ((Below.refl _ w).alloc k1 _).trans (below_of_some hgr (by simp; omega) k2)
  obtain ⟨bc, hbc⟩ : ∃ bc : List Value, bc = [.slice (some ⟨g, 0, none⟩) (pay.length + 2) (pay.length + 2), .int .i64 0, .int .i64 (((0 : Nat) : Int) + ((2 : Nat) : Int)), .int .i64 a, L] := ⟨_, rfl⟩
  rw [← hbc] at hbuf
  have hs1 := Hd.start ((hx.alloc _).grown hgr (by simpa using hne)) hbk hbuf (by omega) (by omega)
  have hgx' : g ≠ gx := by omega
  clear hx hb hD hgr hbk hbuf hg c2
  have c2 := hs1.bx.cell 2
  simp only [List.getElem?_cons_zero, List.getElem?_cons_succ] at c2
  have HS1 := Lib.hid hs1
  clear hs1
  go_wp2_with fail
  refine wp_region_tail 6 (by kernel_rfl) (by kernel_rfl) ?_
  simp only [List.take_succ_cons, List.take_zero, List.drop_succ_cons, List.drop_zero]
  repeat still_step
  refine wpStill_nil ?_
  go_wp2_with fail
  refine (Hd.put16 HS1.out.drew n0 _ 0 _ _ 0 (by simp) rfl (by omega) rfl (by omega)).mono ?_
  rintro e w2 ⟨rfl, hs2⟩
  clear c2
  have c3 := hs2.bx.cell 3
  simp only [List.getElem?_cons_zero, List.getElem?_cons_succ] at c3
  have HS2 := Lib.hid hs2
  clear hs2
  rcases (show n1 = 0 ∨ n1 = 1 by omega) with rfl | rfl
  · have e0 : bt 0 = false := rfl
    rw [e0] at c3
    go_wp2_with fail
    subst hbc
    exact hR.out _ _ ⟨rfl, Hd.fin HS2.out (by simp [pppHdr]) (by simp [pppHdr]; omega) hB hg'⟩
  · have e0 : bt 1 = true := rfl
    rw [e0] at c3
    go_wp2_with fail
    subst hbc
    have hbg := HS2.out.bg
    rw [List.nil_append, part_end] at hbg
    refine (prepend_any gb (pay.length + 2) 2 2 a (some ⟨g, 0, none⟩) (bcs (Lib.beBytes 2 n0 ++ pay)) L w2 HS2.out.bb (.inr ⟨g, rfl, hbg, by simp [bcs_length]; omega⟩) bcs_one (by omega) (by omega) (by omega) (by omega)).mono ?_
    rintro e w3 ⟨g3, rfl, hg3, hbk3, hbuf3, hgr3⟩
    have hB2 := HS2.out.kept hB hg'
    have hs := (hB2 0 (by omega) (by omega) (by omega)).size
    have hg4 : w.heap.size ≤ g3 := by omega
    have hlt := HS2.out.bx.lt
    have hlt2 := HS2.out.bb.lt
    have hs3 := Hd.start (HS2.out.bx.grown hgr3 (by simpa using hne)) hbk3 hbuf3 (by omega) (by omega)
    have hB3 : ∀ base, base ≤ w.heap.size → base ≤ gb → base ≤ gx → Below base w w3 := fun base k1 k2 k3 => (hB2 base k1 k2 k3).trans (below_of_some hgr3 (by omega) k2)
    have k0 := (hs3.bg.cell 0).trans (part_get _ _ 0 _ (by simp) (by simp))
    have f0 := hs3.bg.frozen 0
    have k1 := (hs3.bg.cell 1).trans (part_get _ _ 1 _ (by simp) (by simp))
    have f1 := hs3.bg.frozen 1
    have HS3 := Lib.hid hs3
    clear hs3 hbk3 hbuf3 hgr3 hbg
    go_wp2_with fail
    have hf := Hd.fin ((HS3.out.store 255 _ 0 1 (by simp) rfl rfl (by omega)).store 3 _ 1 0 (by simp) rfl rfl (by omega)) rfl (by simp; omega) hB3 hg4
    refine hR.out _ _ ⟨rfl, ?_, hf.2⟩
    have e5 : ([] ++ Lib.beBytes 1 255 ++ Lib.beBytes 1 3 ++ (Lib.beBytes 2 n0 ++ pay)) = pppHdr n0 1 ++ pay := by
      simp [pppHdr, Lib.beBytes, Lib.leBytes]
    rw [← e5]
    exact hf.1
end Go.Proofs.YtphmklgbbpiafaaGreat
