/-
  snap: what impl.made makes of its numbers and bytes. No condition.
-/
import Derived.Test.YtphmklgbbpiafaaGreatTakA
import Derived.Test.YtphmklgbbpiafaaGreatSnapA
namespace Go.Proofs.YtphmklgbbpiafaaGreat
open Go Go.RowKit
set_option linter.unusedVariables false
set_option linter.unusedSimpArgs false
attribute [local go_sem] sd_drewN ad_drewN

set_option maxRecDepth 1000000 in
set_option maxHeartbeats 4000000 in
theorem made_snap (n0 : Nat) (h0 : n0 < 65536) (b0 b1 b2 : UInt8) (v : Value) (pay : List UInt8) (w : World) (hv : Lyr w w.heap.size v [n0] [[b0, b1, b2]] pay) :
    Calls Tryz.prog 30 #[.string k_snap, v] w fun e w' => ∃ gx, e = .returned (.iface 88 (.pointer (some ⟨gx, 0, none⟩))) ∧ Below w.heap.size w w' ∧ w.heap.size ≤ gx ∧ ∀ w2 gb, Below w'.heap.size w' w2 → w'.heap.size ≤ gb → MSnap n0 b0 b1 b2 w2 gx gb := by
  refine calls_hid fun R hR => ?_
  obtain ⟨AN, cN, AD, cD, AP, cP, AB, cB, ds, rfl, hN, hD, hE, hP⟩ := hv
  have HN := Lib.hid hN
  have HD := Lib.hid hD
  have HE := Lib.hid hE
  clear hN hD hE hP
  simp only [List.length_cons, List.length_nil, Nat.zero_add, Nat.reduceAdd] at HN HD ⊢
  have hT0 := Tak.start w 91 AN AD AP AB 1 cN 1 cD cP pay.length cB [.slice AN 1 cN, .slice AD 1 cD, .slice AP 0 cP, .slice AB pay.length cB] [.slice none 0 0, .slice none 0 0, .slice none 0 0, .int .u16 0]
  have HT0 := Lib.hid hT0
  clear hT0
  go_enter Tryz.func30, Tryz.ntmps30
  go_wp2_with fail
  refine (Tak.bytes HT0.out HD.out HE.out ([b0, b1, b2]) rfl (by omega) rfl (by simp) (by omega)).mono ?_
  rintro e w1 ⟨Q0, q0, rfl, hT1⟩
  simp only [List.length_cons, List.length_nil, Nat.zero_add, Nat.reduceAdd] at hT1 ⊢
  have c2 := hT1.bx.cell 2
  have f2 := hT1.bx.frozen 2
  simp only [List.getElem?_cons_zero, List.getElem?_cons_succ, List.set_cons_zero, List.set_cons_succ] at c2
  have HT1 := Lib.hid hT1
  clear hT1
  go_wp2_with fail
  clear c2 f2
  refine (Tak.number (HT1.out.store 2 (.slice Q0 3 q0)) HN.out (n0) _ rfl (by omega) (by omega) (by omega) (by omega) (by simp; omega)).mono ?_
  rintro e w2 ⟨rfl, hT2⟩
  have c3 := hT2.bx.cell 3
  have f3 := hT2.bx.frozen 3
  simp only [List.getElem?_cons_zero, List.getElem?_cons_succ, List.set_cons_zero, List.set_cons_succ] at c3
  have k2 := hT2.bx.cell 2
  simp only [List.getElem?_cons_zero, List.getElem?_cons_succ, List.set_cons_zero, List.set_cons_succ] at k2
  have HT2 := Lib.hid hT2
  clear hT2
  go_wp2_with fail
  clear c3 f3
  refine (Tak.whole (HT2.out.store 3 (.int .u16 n0)) rfl rfl (by omega) (by omega)).mono ?_
  rintro e wz ⟨rfl, hTz⟩
  have HTz := Lib.hid hTz
  clear hTz
  go_wp2_with fail
  exact hR.out _ _ ⟨_, rfl, HTz.out.be, HTz.out.lx, fun w2 gb hb hg => ⟨_, _, Q0, q0, HTz.out.bx.below hb HTz.out.bx.lt, ((HTz.out.sl (Q0, [b0, b1, b2]) (by simp)).1.below hb).more hg⟩⟩
end Go.Proofs.YtphmklgbbpiafaaGreat
