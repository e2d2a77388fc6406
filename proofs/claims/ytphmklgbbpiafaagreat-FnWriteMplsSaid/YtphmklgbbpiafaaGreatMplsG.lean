/-
  MPLS: what the reference writes. No condition.
-/
import Derived.Test.YtphmklgbbpiafaaGreatOutA
import Derived.Test.YtphmklgbbpiafaaGreatMplsA
namespace Go.Proofs.YtphmklgbbpiafaaGreat
open Go Go.RowKit
set_option linter.unusedVariables false
set_option linter.unusedSimpArgs false
attribute [local go_sem] sd_drewN ad_drewN

def outMpls (nums : List Nat) (_ : List (List UInt8)) (pay : List UInt8) : List UInt8 := Lib.beBytes 4 (mplsNum (nums.getD 0 0) (nums.getD 1 0) (nums.getD 2 0) (nums.getD 3 0)) ++ pay
set_option maxRecDepth 1000000 in
set_option maxHeartbeats 10000000 in
theorem swrite_mpls (fix : Bool) : SWrite k_mpls fix [20, 3, 1, 8] [] (fun _ _ _ => True) outMpls := by
  intro nums data pay v w hf hv
  have hn := hf.nN
  match nums, hn with
  | [n0, n1, n2, n3], _ =>
  have h0 : n0 < 1048576 := hf.num 0 (by decide)
  have h1 : n1 < 8 := hf.num 1 (by decide)
  have h2 : n2 < 2 := hf.num 2 (by decide)
  have h3 : n3 < 256 := hf.num 3 (by decide)
  have hp := hf.pay
  clear hf
  refine calls_hid fun R hR => ?_
  obtain ⟨i0, hi0, hz0, hz1, hz2⟩ := info_parts info5
  obtain ⟨AN, cN, AD, cD, AP, cP, AB, cB, ds, rfl, hN, hD, hE, hP⟩ := hv
  have HN := Lib.hid hN
  have HP := Lib.hid hP
  clear hN hD hE hP
  simp only [List.length_cons, List.length_nil, Nat.zero_add, Nat.reduceAdd] at HN ⊢
  have hmf : ∀ (fn : Fn) (first cap : Array Value) (w : World), (Instr.makeFunc fn first cap).run Tryz.prog w = .ok (.func fn first cap) w := fun _ _ _ _ => rfl
  go_enter Tryz.func21, Tryz.ntmps21
  go_wp2_with fail
  obtain ⟨gN, oN, rfl, hgN, _⟩ := HN.out.2 (by omega)
  obtain ⟨W, hW⟩ : ∃ W, W = w.alloc (.cells #[.slice (some ⟨gN, oN, none⟩) 4 cN, .slice AD data.length cD, .slice AP 0 cP, .slice AB pay.length cB] 27) := ⟨_, rfl⟩
  obtain ⟨go, hgo⟩ : ∃ go, go = w.heap.size + 1 + 1 := ⟨_, rfl⟩
  obtain ⟨w1, hw1⟩ : ∃ w1, w1 = (W.alloc (.cells #[] 5)).alloc (.cells #[.slice (some ⟨w.heap.size + 1, 0, none⟩) 0 0] 25) := ⟨_, rfl⟩
  rw [← hW, ← hgo, ← hw1]
  have hsz : W.heap.size = w.heap.size + 1 := by rw [hW]; simp
  have hO1 : Out W w1 go [] := by rw [hw1, hgo, ← hsz]; exact Out.start W _ rfl
  have hbe : Below w.heap.size w W := by rw [hW]; exact (Below.refl _ _).alloc (Nat.le_refl _) _
  have hbx : Bk W w.heap.size 27 [.slice (some ⟨gN, oN, none⟩) 4 cN, .slice AD data.length cD, .slice AP 0 cP, .slice AB pay.length cB] := by rw [hW]; exact Bk.new _ _ _
  have HNW := Lib.hid (HN.out.below hbe)
  have HPW := Lib.hid (HP.out.below hbe)
  have HBE := Lib.hid hbe
  have HBX := Lib.hid hbx
  have HSZ := Lib.hid hsz
  have hgW : gN < W.heap.size := by omega
  clear hW hgo hw1 hsz hbe hbx
  have HNS1 := Lib.hid ((HNW.out.more (B' := W.heap.size) (by have := HSZ.out; omega)).below hO1.be)
  have c0 := HNS1.out.numE 0 n0 (by omega) rfl
  have c1 := HNS1.out.numE 1 n1 (by omega) rfl
  have c2 := HNS1.out.numE 2 n2 (by omega) rfl
  have c3 := HNS1.out.numE 3 n3 (by omega) rfl
  simp only [Nat.add_zero] at c0
  have HO1 := Lib.hid hO1
  clear hO1
  refine wp_region_tail 19 (by kernel_rfl) (by kernel_rfl) ?_
  simp only [List.take_succ_cons, List.take_zero, List.drop_succ_cons, List.drop_zero]
  repeat still_step
  refine wpStill_nil ?_
  go_wp2_with fail
  simp (disch := omega) only [orm64 9 12, orm64 8 9, orm64 0 8]
  refine (HO1.out.drew.put (mplsNum n0 n1 n2 n3) 4 _ _ (by unfold mplsNum; omega) rfl (by omega) (by simp)).mono ?_
  rintro e w2 ⟨rfl, hO2⟩
  rw [List.nil_append] at hO2
  clear c0 c1 c2 c3
  obtain ⟨AO, cO, hv2, ho2⟩ := hO2.sl
  have v0 := hv2.cell 0
  have p3 := (HBX.out.below hO2.be (by have := HSZ.out; omega)).cell 3
  simp only [List.getElem?_cons_zero, List.getElem?_cons_succ] at v0 p3
  have hP2 := (HPW.out.more (B' := W.heap.size) (by have := HSZ.out; omega)).below hO2.be
  have hl2 : (Lib.beBytes 4 (mplsNum n0 n1 n2 n3)).length ≤ 1000 := by rw [Lib.beBytes_length]; omega
  have hbW := hO2.be.size
  have HP2 := Lib.hid hP2
  have HOW2 := Lib.hid ho2
  have HO2 := Lib.hid hO2
  generalize hXL : Lib.beBytes 4 (mplsNum n0 n1 n2 n3) = xs at *
  have HXL := Lib.hid hXL
  clear hP2 ho2 hO2 hv2 hXL
  generalize hLL : xs.length = L at *
  have HLL := Lib.hid hLL
  clear hLL
  go_wp2_with (at_builtin; refine wpList_append_sl _ rfl (.tmp 620) (.tmp 622) _ rfl W.heap.size 5 i0 _ 1 Tryz.underlying25 hi0 hz0 hz1 hz2 rfl (.slice AO L cO) L (bcs xs) rfl HOW2.out W.heap.size AB pay.length cB (bcs pay) rfl HP2.out bcs_one (by simp only [maxLen]; omega) (by omega) hbW ?_; intro v5 w5 ho5 hg5 hv5)
  obtain ⟨A5, c5, hv, hc5, hs5, hn5⟩ := own_form ho5.out
  rw [hv]
  have hb5 : Below W.heap.size w2 w5 := (Below.refl _ _).grown hg5 hbW (fun k hk => (HOW2.out.lt k hk).1)
  have hz1' := HSZ.out
  refine hR.out _ _ ⟨A5, L + pay.length, c5, true, rfl, HBE.out.trans ((HO2.out.be.trans hb5).mono (by omega)), fun _ => ⟨trivial, hc5, fun h => by have := hn5 h; omega, ?_⟩⟩
  refine Sl.cast hs5 ?_
  rw [← HXL.out, ← bcs_append]
  rfl
end Go.Proofs.YtphmklgbbpiafaaGreat
