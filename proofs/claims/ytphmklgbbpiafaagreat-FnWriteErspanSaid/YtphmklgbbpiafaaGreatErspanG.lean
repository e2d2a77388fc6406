/-
  Erspan: what the reference writes. No condition.
-/
import Derived.Test.YtphmklgbbpiafaaGreatOutA
import Derived.Test.YtphmklgbbpiafaaGreatErspanA
import Derived.Test.YtphmklgbbpiafaaGreatBytesL
namespace Go.Proofs.YtphmklgbbpiafaaGreat
open Go Go.RowKit
set_option linter.unusedVariables false
set_option linter.unusedSimpArgs false
attribute [local go_sem] sd_drewN ad_drewN

def erspanNum (n0 n1 n2 n3 n4 n5 n6 n7 : Nat) : Nat := n1 * 1152921504606846976 + n4 * 281474976710656 + n2 * 35184372088832 + n3 * 8796093022208 + n0 * 4398046511104 + n5 * 4294967296 + n6 * 1048576 + n7
theorem erspan_bytes (n0 n1 n2 n3 n4 n5 n6 n7 : Nat) (h0 : n0 < 2) (h1 : n1 < 16) (h2 : n2 < 8) (h3 : n3 < 4) (h4 : n4 < 4096) (h5 : n5 < 1024) (h6 : n6 < 4096) (h7 : n7 < 1048576) : Lib.beBytes 8 (erspanNum n0 n1 n2 n3 n4 n5 n6 n7) = erspanHdr n0 n1 n2 n3 n4 n5 n6 n7 := by
  unfold erspanHdr
  rw [show (8 : Nat) = 4 + 4 from rfl, beBytes_cat 4 4, show (4 : Nat) = 2 + 2 from rfl, beBytes_cat 2 2 (_ / _), beBytes_mod 2 (_ / 256 ^ (2 + 2)), beBytes_mod (2 + 2)]
  have e1 : erspanNum n0 n1 n2 n3 n4 n5 n6 n7 / 256 ^ (2 + 2) / 256 ^ 2 = n1 * 4096 + n4 := by unfold erspanNum; omega
  have e2 : erspanNum n0 n1 n2 n3 n4 n5 n6 n7 / 256 ^ (2 + 2) % 256 ^ 2 = n2 * 8192 + n3 * 2048 + n0 * 1024 + n5 := by unfold erspanNum; omega
  have e3 : erspanNum n0 n1 n2 n3 n4 n5 n6 n7 % 256 ^ (2 + 2) = n6 * 1048576 + n7 := by unfold erspanNum; omega
  rw [e1, e2, e3]
def outErspan (nums : List Nat) (_ : List (List UInt8)) (pay : List UInt8) : List UInt8 := erspanHdr (nums.getD 0 0) (nums.getD 1 0) (nums.getD 2 0) (nums.getD 3 0) (nums.getD 4 0) (nums.getD 5 0) (nums.getD 6 0) (nums.getD 7 0) ++ pay
set_option maxRecDepth 1000000 in
set_option maxHeartbeats 10000000 in
theorem swrite_erspan (fix : Bool) : SWrite k_erspan fix [1, 4, 3, 2, 12, 10, 12, 20] [] (fun _ _ _ => True) outErspan := by
  intro nums data pay v w hf hv
  have hn := hf.nN
  match nums, hn with
  | [n0, n1, n2, n3, n4, n5, n6, n7], _ =>
  have h0 : n0 < 2 := hf.num 0 (by decide)
  have h1 : n1 < 16 := hf.num 1 (by decide)
  have h2 : n2 < 8 := hf.num 2 (by decide)
  have h3 : n3 < 4 := hf.num 3 (by decide)
  have h4 : n4 < 4096 := hf.num 4 (by decide)
  have h5 : n5 < 1024 := hf.num 5 (by decide)
  have h6 : n6 < 4096 := hf.num 6 (by decide)
  have h7 : n7 < 1048576 := hf.num 7 (by decide)
  have hp := hf.pay
  clear hf
  refine calls_hid fun R hR => ?_
  obtain ⟨i0, hi0, hz0, hz1, hz2⟩ := info_parts info5
  obtain ⟨AN, cN, AD, cD, AP, cP, AB, cB, ds, rfl, hN, hD, hE, hP⟩ := hv
  have HN := Lib.hid hN
  have HP := Lib.hid hP
  clear hN hD hE hP
  simp only [List.length_cons, List.length_nil, Nat.zero_add, Nat.reduceAdd] at HN ⊢
  have hmf : ∀ (fn : Fn) (first cap : Array Value) (w : World), (Instr.makeFunc fn first cap).run Tryz.prog w = .ok (.func fn first cap) w := fun _ _ _ _ => rfl
  obtain ⟨gN, oN, rfl, hgN, _⟩ := HN.out.2 (by omega)
  obtain ⟨W, hW⟩ : ∃ W, W = w.alloc (.cells #[.slice (some ⟨gN, oN, none⟩) 8 cN, .slice AD data.length cD, .slice AP 0 cP, .slice AB pay.length cB] 27) := ⟨_, rfl⟩
  obtain ⟨go, hgo⟩ : ∃ go, go = w.heap.size + 1 + 1 := ⟨_, rfl⟩
  obtain ⟨w1, hw1⟩ : ∃ w1, w1 = (W.alloc (.cells #[] 5)).alloc (.cells #[.slice (some ⟨w.heap.size + 1, 0, none⟩) 0 0] 25) := ⟨_, rfl⟩
  have hsz : W.heap.size = w.heap.size + 1 := by rw [hW]; simp
  have hO1 : Out W w1 go [] := by rw [hw1, hgo, ← hsz]; exact Out.start W _ rfl
  have hbe : Below w.heap.size w W := by rw [hW]; exact (Below.refl _ _).alloc (Nat.le_refl _) _
  have hbx : Bk W w.heap.size 27 [.slice (some ⟨gN, oN, none⟩) 8 cN, .slice AD data.length cD, .slice AP 0 cP, .slice AB pay.length cB] := by rw [hW]; exact Bk.new _ _ _
  have HNW := Lib.hid (HN.out.below hbe)
  have HPW := Lib.hid (HP.out.below hbe)
  have HBE := Lib.hid hbe
  have HBX := Lib.hid hbx
  have HSZ := Lib.hid hsz
  have hgW : gN < W.heap.size := by omega
  have HW := Lib.hid hW
  have HG := Lib.hid hgo
  have HW1 := Lib.hid hw1
  have HO1 := Lib.hid hO1
  clear hW hgo hw1 hsz hbe hbx hO1
  go_enter Tryz.func21, Tryz.ntmps21
  go_wp2_with fail
  rw [← HW.out, ← HG.out, ← HW1.out]
  have HNS1 := Lib.hid ((HNW.out.more (B' := W.heap.size) (by have := HSZ.out; omega)).below HO1.out.be)
  have c0 := HNS1.out.numE 0 n0 (by omega) rfl
  have c1 := HNS1.out.numE 1 n1 (by omega) rfl
  have c2 := HNS1.out.numE 2 n2 (by omega) rfl
  have c3 := HNS1.out.numE 3 n3 (by omega) rfl
  have c4 := HNS1.out.numE 4 n4 (by omega) rfl
  have c5 := HNS1.out.numE 5 n5 (by omega) rfl
  have c6 := HNS1.out.numE 6 n6 (by omega) rfl
  have c7 := HNS1.out.numE 7 n7 (by omega) rfl
  simp only [Nat.add_zero] at c0
  refine wp_region_tail 39 (by kernel_rfl) (by kernel_rfl) ?_
  simp only [List.take_succ_cons, List.take_zero, List.drop_succ_cons, List.drop_zero]
  repeat still_step
  refine wpStill_nil ?_
  go_wp2_with fail
  simp (disch := omega) only [orm64 48 60, orm64 45 48, orm64 43 45, orm64 42 43, orm64 32 42, orm64 20 32, orm64 0 20]
  refine (HO1.out.drew.put (erspanNum n0 n1 n2 n3 n4 n5 n6 n7) 8 _ _ (by unfold erspanNum; omega) rfl (by omega) (by simp)).mono ?_
  rintro e w2 ⟨rfl, hO2⟩
  clear c0 c1 c2 c3 c4 c5 c6 c7
  rw [List.nil_append] at hO2
  obtain ⟨X1, hX1⟩ : ∃ X, X = Lib.beBytes 8 (erspanNum n0 n1 n2 n3 n4 n5 n6 n7) := ⟨_, rfl⟩
  rw [← hX1] at hO2
  have hL1 : X1.length = 8 := by rw [hX1, Lib.beBytes_length]
  have HO2 := Lib.hid hO2
  have HX1 := Lib.hid hX1
  clear hO2 hX1
  obtain ⟨AO, cO, hv2, ho2⟩ := HO2.out.sl
  have v0 := hv2.cell 0
  have p3 := (HBX.out.below HO2.out.be (by have := HSZ.out; omega)).cell 3
  simp only [List.getElem?_cons_zero, List.getElem?_cons_succ] at v0 p3
  have hP2 := (HPW.out.more (B' := W.heap.size) (by have := HSZ.out; omega)).below HO2.out.be
  have hbW := HO2.out.be.size
  have HP2 := Lib.hid hP2
  have HOW2 := Lib.hid ho2
  clear hP2 ho2 hv2
  have hl2 : X1.length ≤ 1000 := by omega
  clear hL1
  generalize hLL : X1.length = L at *
  have HLL := Lib.hid hLL
  clear hLL
  go_wp2_with (at_builtin; refine wpList_append_sl _ rfl (.tmp 620) (.tmp 622) _ rfl W.heap.size 5 i0 _ 1 Tryz.underlying25 hi0 hz0 hz1 hz2 rfl (.slice AO L cO) L (bcs X1) rfl HOW2.out W.heap.size AB pay.length cB (bcs pay) rfl HP2.out bcs_one (by simp only [maxLen]; omega) (by omega) hbW ?_; intro v5 w5 ho5 hg5 hv5)
  obtain ⟨A5, c5, hv, hc5, hs5, hn5⟩ := own_form ho5.out
  rw [hv]
  have hb5 : Below W.heap.size w2 w5 := (Below.refl _ _).grown hg5 hbW (fun k hk => (HOW2.out.lt k hk).1)
  have hz1' := HSZ.out
  refine hR.out _ _ ⟨A5, L + pay.length, c5, true, rfl, HBE.out.trans ((HO2.out.be.trans hb5).mono (by omega)), fun _ => ⟨trivial, hc5, fun h => by have := hn5 h; omega, ?_⟩⟩
  refine Sl.cast hs5 ?_
  rw [HX1.out, erspan_bytes n0 n1 n2 n3 n4 n5 n6 n7 h0 h1 h2 h3 h4 h5 h6 h7, ← bcs_append]
  rfl
end Go.Proofs.YtphmklgbbpiafaaGreat
