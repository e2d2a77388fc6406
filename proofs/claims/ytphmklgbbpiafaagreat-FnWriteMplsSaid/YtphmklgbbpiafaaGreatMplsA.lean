/-
  MPLS: its SerializeTo. No condition.
-/
import Derived.Test.YtphmklgbbpiafaaGreatSerA
namespace Go.Proofs.YtphmklgbbpiafaaGreat
open Go Go.RowKit
set_option linter.unusedVariables false
attribute [local go_sem] sd_drewN ad_drewN

def mplsNum (n0 n1 n2 n3 : Nat) : Nat := n0 * 4096 + n1 * 512 + n2 * 256 + n3
def MMpls (n0 n1 n2 n3 : Nat) (w : World) (gx _gb : Nat) : Prop := ∃ C P, Bk w gx 114 [C, P, .int .u32 n0, .int .u8 n1, .bool (bt n2), .int .u8 n3]
set_option maxRecDepth 100000 in
set_option maxHeartbeats 1000000 in
theorem ser_mpls (n0 n1 n2 n3 : Nat) (h0 : n0 < 2 ^ 20) (h1 : n1 < 8) (h2 : n2 < 2) (h3 : n3 < 256) (fix sum : Bool) (pay : List UInt8) (hp : pay.length ≤ 300) :
    Ser 157 fix sum pay (Lib.beBytes 4 (mplsNum n0 n1 n2 n3)) (MMpls n0 n1 n2 n3) := by
  rintro gx gb a D L w ⟨C, P, hx⟩ hb ha hD
  refine calls_hid fun R hR => ?_
  have hne := hx.ne hb (by decide)
  have hgx := hx.lt
  have hgb := hb.lt
  go_enter Tryz.func157, Tryz.ntmps157
  go_wp2_with fail
  refine (prepend_any gb pay.length 4 0 a D (bcs pay) L _ (hb.alloc _) (hD.alloc _) bcs_one (by omega) (by omega) (by omega) (by omega)).mono ?_
  rintro e w1 ⟨g, rfl, hg, hbk, hbuf, hgr⟩
  have hx1 := (hx.alloc _).grown hgr (by simpa using hne)
  have c0 := hx1.cell 2
  have c1 := hx1.cell 3
  have c2 := hx1.cell 4
  have c3 := hx1.cell 5
  simp only [List.getElem?_cons_zero, List.getElem?_cons_succ] at c0 c1 c2 c3
  have hB : ∀ base, base ≤ w.heap.size → base ≤ gb → Below base w w1 := fun base k1 k2 => ((Below.refl _ w).alloc k1 _).trans (below_of_some hgr (by simp; omega) k2)
  clear hx hx1 hb hD hgr
  go_wp2_with fail
  all_goals
    simp (disch := omega) only [orm32 9 12, orm32 0 9, orm32 8 9]
    refine (put32_at g 0 4 _ _ _ w1 hbk (by simp [zs_length]) (by omega) (by omega) (by omega)).mono ?_
    rintro e w2 ⟨rfl, hbk2, hgr2⟩
    have hne2 := hbk.ne hbuf (by decide)
    have hbuf2 := hbuf.grown hgr2 (by simpa using Ne.symm hne2)
    go_wp2_with fail
    refine hR.out _ _ ⟨rfl, Done.of hbk2 hbuf2 ?_ (by simp [Lib.beBytes_length]; omega), ?_⟩
    · rw [part_start, part_lay [] _ 4 0 0 _ rfl (by simp [Lib.beBytes_length]), part_end]
      refine congrArg (fun v => bcs (Lib.beBytes 4 v ++ pay)) ?_
      first
      | have := bt_true ‹bt n2 = true›; unfold mplsNum; omega
      | have := bt_false ‹bt n2 = false› h2; unfold mplsNum; omega
    · intro base k1 k2 k3
      exact (hB base k1 k2).trans (below_of_some hgr2 (by have := (hB base k1 k2).size; omega) (by simp at hg; omega))
end Go.Proofs.YtphmklgbbpiafaaGreat
