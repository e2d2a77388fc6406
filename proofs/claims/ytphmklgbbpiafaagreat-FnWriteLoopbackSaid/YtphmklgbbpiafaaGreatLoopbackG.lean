/-
  Loopback: what the reference writes. No condition.
-/
import Derived.Test.YtphmklgbbpiafaaGreatOutA
import Derived.Test.YtphmklgbbpiafaaGreatLoopbackA
import Derived.Test.YtphmklgbbpiafaaGreatOutB
namespace Go.Proofs.YtphmklgbbpiafaaGreat
open Go Go.RowKit
set_option linter.unusedVariables false
set_option linter.unusedSimpArgs false
attribute [local go_sem] sd_drewN ad_drewN

theorem loopback_bytes (n0 : Nat) (h : n0 < 256) : bcs (loopbackHdr n0) = [.int .u8 n0, .int .u8 0, .int .u8 0, .int .u8 0] := by
  have e1 : n0 / 256 = 0 := by omega
  simp [loopbackHdr, Lib.leBytes, bcs, e1]
  omega
def outLoopback (nums : List Nat) (_ : List (List UInt8)) (pay : List UInt8) : List UInt8 := loopbackHdr (nums.getD 0 0) ++ pay
set_option maxRecDepth 1000000 in
set_option maxHeartbeats 10000000 in
theorem swrite_loopback (fix : Bool) : SWrite k_loopback fix [8] [] (fun _ _ _ => True) outLoopback := by
  intro nums data pay v w hf hv
  have hn := hf.nN
  match nums, hn with
  | [n0], _ =>
  have h0 : n0 < 256 := hf.num 0 (by decide)
  have hp := hf.pay
  clear hf
  refine calls_hid fun R hR => ?_
  obtain ⟨i0, hi0, hz0, hz1, hz2⟩ := info_parts info5
  obtain ⟨AN, cN, AD, cD, AP, cP, AB, cB, ds, rfl, hN, hD, hE, hP⟩ := hv
  have HN := Lib.hid hN
  have HP := Lib.hid hP
  clear hN hD hE hP
  simp only [List.length_cons, List.length_nil, Nat.zero_add, Nat.reduceAdd] at HN ⊢
  have hmf : ∀ (fn : Fn) (first cap : Array Value) (w : World), (Instr.makeFunc fn first cap).run Tryz.prog w = .ok (.func fn first cap) w := fun _ _ _ _ => rfl
  obtain ⟨gN, oN, rfl, hgN, _⟩ := HN.out.2 (by omega)
  obtain ⟨W, hW⟩ : ∃ W, W = w.alloc (.cells #[.slice (some ⟨gN, oN, none⟩) 1 cN, .slice AD data.length cD, .slice AP 0 cP, .slice AB pay.length cB] 27) := ⟨_, rfl⟩
  obtain ⟨go, hgo⟩ : ∃ go, go = w.heap.size + 1 + 1 := ⟨_, rfl⟩
  obtain ⟨w1, hw1⟩ : ∃ w1, w1 = (W.alloc (.cells #[] 5)).alloc (.cells #[.slice (some ⟨w.heap.size + 1, 0, none⟩) 0 0] 25) := ⟨_, rfl⟩
  have hsz : W.heap.size = w.heap.size + 1 := by rw [hW]; simp
  have hO1 : Out W w1 go [] := by rw [hw1, hgo, ← hsz]; exact Out.start W _ rfl
  have hbe : Below w.heap.size w W := by rw [hW]; exact (Below.refl _ _).alloc (Nat.le_refl _) _
  have hbx : Bk W w.heap.size 27 [.slice (some ⟨gN, oN, none⟩) 1 cN, .slice AD data.length cD, .slice AP 0 cP, .slice AB pay.length cB] := by rw [hW]; exact Bk.new _ _ _
  have HNW := Lib.hid (HN.out.below hbe)
  have HPW := Lib.hid (HP.out.below hbe)
  have HBE := Lib.hid hbe
  have HBX := Lib.hid hbx
  have HSZ := Lib.hid hsz
  have hgW : gN < W.heap.size := by omega
  have HW := Lib.hid hW
  have HG := Lib.hid hgo
  have HW1 := Lib.hid hw1
  have HO1 := Lib.hid hO1
  clear hW hgo hw1 hsz hbe hbx hO1
  have HNS1 := Lib.hid ((HNW.out.more (B' := W.heap.size) (by have := HSZ.out; omega)).below HO1.out.be)
  have c0 := HNS1.out.numE 0 n0 (by omega) rfl
  simp only [Nat.add_zero] at c0
  obtain ⟨AO, cO, hv1, ho1⟩ := HO1.out.sl
  have v0 := hv1.cell 0
  have fz0 := hv1.frozen 0
  simp only [List.getElem?_cons_zero, List.length_nil] at v0 ho1
  have hgo1 := hv1.lt
  have hneo : ∀ k, (Value.slice AO 0 cO).ownBlock = some k → k ≠ go := fun k hk e => own_blk_ne ho1 hv1 (by decide) (by rw [hk, e])
  have HOW1 := Lib.hid ho1
  have HV1 := Lib.hid hv1
  clear hv1 ho1
  have hw8 : IntKind.u8.wrap (n0 : Int) = (n0 : Int) := by simp [IntKind.wrap, IntKind.bits, IntKind.signed]; omega
  go_enter Tryz.func21, Tryz.ntmps21
  go_wp2_with fail
  rw [← HW.out, ← HG.out, ← HW1.out]
  have hwW := HO1.out.be.size
  have hone : ∀ u ∈ [Value.int .u8 n0, .int .u8 0, .int .u8 0, .int .u8 0], u.oneCell' = true := by intro u hu; simp only [List.mem_cons, List.not_mem_nil, or_false] at hu; rcases hu with rfl | rfl | rfl | rfl <;> rfl
  have hsn : Sl (w1.alloc (.cells #[.int .u8 n0, .int .u8 0, .int .u8 0, .int .u8 0] 5)).drew (w1.heap.size + 1) (some ⟨w1.heap.size, 0, none⟩) 4 [.int .u8 n0, .int .u8 0, .int .u8 0, .int .u8 0] :=
    (Sl.new (w := w1) (t := 5) (cs := [.int .u8 n0, .int .u8 0, .int .u8 0, .int .u8 0]) (n := 4) rfl).keep (fun _ _ => rfl)
  have hob : (w1.alloc (.cells #[.int .u8 n0, .int .u8 0, .int .u8 0, .int .u8 0] 5)).drew.ownsRow W.heap.size 5 1 (.slice AO 0 cO) 0 (bcs []) := own_below HOW1.out ((Below.refl _ w1).alloc (Nat.le_refl _) _).drew
  have hcb := (HV1.out.alloc (.cells #[.int .u8 n0, .int .u8 0, .int .u8 0, .int .u8 0] 5)).drew
  have HSN := Lib.hid hsn
  have HOB := Lib.hid hob
  have HCB := Lib.hid hcb
  have HONE := Lib.hid hone
  have HNEO := Lib.hid hneo
  clear hsn hob hcb hone hneo
  go_region_law ((refine step_append_sl _ rfl (.tmp 168) (.tmp 173) _ rfl W.heap.size 5 i0 _ 1 Tryz.underlying25 hi0 hz0 hz1 hz2 rfl (.slice AO 0 cO) 0 (bcs []) (by rfl) HOB.out _ (some ⟨w1.heap.size, 0, none⟩) 4 4 [.int .u8 n0, .int .u8 0, .int .u8 0, .int .u8 0] (by rfl) HSN.out HONE.out (by simp only [maxLen]; omega) (by omega) (by simp; omega) ?_; intro v2 w2 ho2 hg2 hv2; obtain ⟨A2, cp2, hv2', _, _, _⟩ := own_form ho2.out; rw [hv2']; have hk2 := HCB.out.grown hg2 (fun e => HNEO.out _ e.symm rfl); have c2 := hk2.cell 0; have f2 := hk2.frozen 0; simp only [List.getElem?_cons_zero] at c2))
  all_goals
    have hb2 : Below W.heap.size W w2 := HO1.out.be.trans ((((Below.refl _ w1).alloc hwW _).drew).trans ((Below.refl _ _).grown hg2 (by simp; omega) (fun k hk => (HOB.out.lt k hk).1)))
    have hO2 := out_appended (ys := loopbackHdr n0) hk2 ho2.out (by simp [loopbackHdr, Lib.leBytes_length]) (by rw [loopback_bytes n0 h0]; rfl) hb2 HO1.out.hg
    rw [hv2'] at hO2
    obtain ⟨X1, hX1⟩ : ∃ X, X = loopbackHdr n0 := ⟨_, rfl⟩
    rw [← hX1] at hO2
    have hL1 : X1.length = 4 := by rw [hX1]; simp [loopbackHdr, Lib.leBytes_length]
    obtain ⟨w3, hw3⟩ : ∃ w3, w3 = w2.setCell ⟨go, 0, none⟩ (.slice A2 (0 + 4) cp2) := ⟨_, rfl⟩
    rw [← hw3] at hO2
    have HO2 := Lib.hid hO2
    have HX1 := Lib.hid hX1
    have hw3' : w2.setCell ⟨go, 0, none⟩ (.slice A2 4 cp2) = w3 := hw3.symm
    first | rw [hw3'] | skip
    clear hO2 hX1 hk2 ho2 hg2 hv2 hv2' c2 f2 hb2 hw3 hw3' v0 fz0
    obtain ⟨AO, cO, hv2, ho2⟩ := HO2.out.sl
    have v0 := hv2.cell 0
    have p3 := (HBX.out.below HO2.out.be (by have := HSZ.out; omega)).cell 3
    simp only [List.getElem?_cons_zero, List.getElem?_cons_succ] at v0 p3
    have hP2 := (HPW.out.more (B' := W.heap.size) (by have := HSZ.out; omega)).below HO2.out.be
    have hbW := HO2.out.be.size
    have HP2 := Lib.hid hP2
    have HOW2 := Lib.hid ho2
    clear hP2 ho2 hv2
    have hl2 : X1.length ≤ 1000 := by omega
    clear hL1
    generalize hLL : X1.length = L at *
    have HLL := Lib.hid hLL
    clear hLL
    go_wp2_with (at_builtin; refine wpList_append_sl _ rfl (.tmp 620) (.tmp 622) _ rfl W.heap.size 5 i0 _ 1 Tryz.underlying25 hi0 hz0 hz1 hz2 rfl (.slice AO L cO) L (bcs X1) rfl HOW2.out W.heap.size AB pay.length cB (bcs pay) rfl HP2.out bcs_one (by simp only [maxLen]; omega) (by omega) hbW ?_; intro v5 w5 ho5 hg5 hv5)
    obtain ⟨A5, c5, hv, hc5, hs5, hn5⟩ := own_form ho5.out
    rw [hv]
    have hb5 : Below W.heap.size w3 w5 := (Below.refl _ _).grown hg5 hbW (fun k hk => (HOW2.out.lt k hk).1)
    have hz1' := HSZ.out
    refine hR.out _ _ ⟨A5, L + pay.length, c5, true, rfl, HBE.out.trans ((HO2.out.be.trans hb5).mono (by omega)), fun _ => ⟨trivial, hc5, fun h => by have := hn5 h; omega, ?_⟩⟩
    refine Sl.cast hs5 ?_
    rw [HX1.out, ← bcs_append]
    rfl
end Go.Proofs.YtphmklgbbpiafaaGreat
