/-
  eap: what impl.made makes of its numbers and bytes. No condition.
-/
import Derived.Test.YtphmklgbbpiafaaGreatTakA
import Derived.Test.YtphmklgbbpiafaaGreatEapA
namespace Go.Proofs.YtphmklgbbpiafaaGreat
open Go Go.RowKit
set_option linter.unusedVariables false
set_option linter.unusedSimpArgs false
attribute [local go_sem] sd_drewN ad_drewN

set_option maxRecDepth 1000000 in
set_option maxHeartbeats 4000000 in
theorem made_eap (n0 n1 n2 n3 : Nat) (h0 : n0 < 256) (h1 : n1 < 256) (h2 : n2 < 65536) (h3 : n3 < 256) (d0 : List UInt8) (hd : d0.length ≤ 300) (v : Value) (pay : List UInt8) (w : World) (hv : Lyr w w.heap.size v [n0, n1, n2, n3] [d0] pay) :
    Calls Tryz.prog 30 #[.string k_eap, v] w fun e w' => ∃ gx, e = .returned (.iface 106 (.pointer (some ⟨gx, 0, none⟩))) ∧ Below w.heap.size w w' ∧ w.heap.size ≤ gx ∧ ∀ w2 gb, Below w'.heap.size w' w2 → w'.heap.size ≤ gb → MEap n0 n1 n2 n3 d0 w2 gx gb := by
  refine calls_hid fun R hR => ?_
  obtain ⟨AN, cN, AD, cD, AP, cP, AB, cB, ds, rfl, hN, hD, hE, hP⟩ := hv
  have HN := Lib.hid hN
  have HD := Lib.hid hD
  have HE := Lib.hid hE
  clear hN hD hE hP
  simp only [List.length_cons, List.length_nil, Nat.zero_add, Nat.reduceAdd] at HN HD ⊢
  have hT0 := Tak.start w 110 AN AD AP AB 4 cN 1 cD cP pay.length cB [.slice AN 4 cN, .slice AD 1 cD, .slice AP 0 cP, .slice AB pay.length cB] [.slice none 0 0, .slice none 0 0, .int .u8 0, .int .u8 0, .int .u16 0, .int .u8 0, .slice none 0 0]
  have HT0 := Lib.hid hT0
  clear hT0
  go_enter Tryz.func30, Tryz.ntmps30
  go_wp2_with fail
  refine (Tak.number HT0.out HN.out (n0) _ rfl (by omega) (by omega) (by omega) (by omega) (by simp; omega)).mono ?_
  rintro e w1 ⟨rfl, hT1⟩
  have c2 := hT1.bx.cell 2
  have f2 := hT1.bx.frozen 2
  simp only [List.getElem?_cons_zero, List.getElem?_cons_succ, List.set_cons_zero, List.set_cons_succ] at c2
  have HT1 := Lib.hid hT1
  clear hT1
  go_wp2_with fail
  clear c2 f2
  refine (Tak.number (HT1.out.store 2 (.int .u8 n0)) HN.out (n1) _ rfl (by omega) (by omega) (by omega) (by omega) (by simp; omega)).mono ?_
  rintro e w2 ⟨rfl, hT2⟩
  have c3 := hT2.bx.cell 3
  have f3 := hT2.bx.frozen 3
  simp only [List.getElem?_cons_zero, List.getElem?_cons_succ, List.set_cons_zero, List.set_cons_succ] at c3
  have HT2 := Lib.hid hT2
  clear hT2
  go_wp2_with fail
  clear c3 f3
  refine (Tak.number (HT2.out.store 3 (.int .u8 n1)) HN.out (n2) _ rfl (by omega) (by omega) (by omega) (by omega) (by simp; omega)).mono ?_
  rintro e w3 ⟨rfl, hT3⟩
  have c4 := hT3.bx.cell 4
  have f4 := hT3.bx.frozen 4
  simp only [List.getElem?_cons_zero, List.getElem?_cons_succ, List.set_cons_zero, List.set_cons_succ] at c4
  have HT3 := Lib.hid hT3
  clear hT3
  go_wp2_with fail
  clear c4 f4
  refine (Tak.number (HT3.out.store 4 (.int .u16 n2)) HN.out (n3) _ rfl (by omega) (by omega) (by omega) (by omega) (by simp; omega)).mono ?_
  rintro e w4 ⟨rfl, hT4⟩
  have c5 := hT4.bx.cell 5
  have f5 := hT4.bx.frozen 5
  simp only [List.getElem?_cons_zero, List.getElem?_cons_succ, List.set_cons_zero, List.set_cons_succ] at c5
  have HT4 := Lib.hid hT4
  clear hT4
  go_wp2_with fail
  clear c5 f5
  refine (Tak.bytes (HT4.out.store 5 (.int .u8 n3)) HD.out HE.out (d0) rfl (by omega) rfl (by omega) (by omega)).mono ?_
  rintro e w5 ⟨Q0, q0, rfl, hT5⟩
  have c6 := hT5.bx.cell 6
  have f6 := hT5.bx.frozen 6
  simp only [List.getElem?_cons_zero, List.getElem?_cons_succ, List.set_cons_zero, List.set_cons_succ] at c6
  have HT5 := Lib.hid hT5
  clear hT5
  go_wp2_with fail
  clear c6 f6
  refine (Tak.whole (HT5.out.store 6 (.slice Q0 d0.length q0)) rfl rfl (by omega) (by omega)).mono ?_
  rintro e wz ⟨rfl, hTz⟩
  have HTz := Lib.hid hTz
  clear hTz
  go_wp2_with fail
  exact hR.out _ _ ⟨_, rfl, HTz.out.be, HTz.out.lx, fun w2 gb hb hg => ⟨_, _, Q0, q0, HTz.out.bx.below hb HTz.out.bx.lt, ((HTz.out.sl (Q0, d0) (by simp)).1.below hb).more hg⟩⟩
end Go.Proofs.YtphmklgbbpiafaaGreat
