/-
  FnWriteLlc: whatever the layer and the flag, the law returns true, and its arguments read as they did. No condition.
-/
import Derived.Test.YtphmklgbbpiafaaGreatRows
import Derived.Test.YtphmklgbbpiafaaGreatRowA
import Derived.Test.YtphmklgbbpiafaaGreatWritB
import Derived.Test.YtphmklgbbpiafaaGreatAliveA
import Derived.Test.YtphmklgbbpiafaaGreatLlcB
import Derived.Test.YtphmklgbbpiafaaGreatLlcC
import Derived.Test.YtphmklgbbpiafaaGreatLlcR
import Derived.Test.YtphmklgbbpiafaaGreatLlcD
import Derived.Test.YtphmklgbbpiafaaGreatLlcE
import Derived.Test.YtphmklgbbpiafaaGreatLlcF
import Derived.Test.YtphmklgbbpiafaaGreatLlcG
import Derived.Test.YtphmklgbbpiafaaGreatBytesM
namespace Go.Proofs.YtphmklgbbpiafaaGreat
open Go Go.RowKit Go.ChangeShapes Go.WideShapes Go.ChangeAt Go.Joins
set_option linter.unusedVariables false
set_option linter.unusedSimpArgs false

theorem ser_nil_llc (gx : Nat) (W : World) : (nilAhead 390 85 (.pointer (some ⟨gx, 0, none⟩)) "SerializeTo").run Tryz.prog W = .ok (some false) W := by kernel_rfl
theorem ser_method_llc (gx : Nat) (W : World) : (method 390 85 (.pointer (some ⟨gx, 0, none⟩)) "SerializeTo").run Tryz.prog W = .ok (137, .pointer (some ⟨gx, 0, none⟩)) W := by kernel_rfl
theorem ser_enter_llc (args : Array Value) (W : World) : (callFunc 137 args).run Tryz.prog W = .ok (.enter 137 args) W := by kernel_rfl
theorem rtrue_llc_s (a b c0 : UInt8) (pay : List UInt8) (hm : c0.toNat % 4 = 3) (hp : pay.length ≤ 300) : RTrue k_llc (a :: b :: c0 :: pay) := by
  have ha := a.toNat_lt
  have hb := b.toNat_lt
  have hc0 := c0.toNat_lt
  refine read_yes k_llc (a :: b :: c0 :: pay) [a.toNat / 2 * 2, a.toNat % 2, b.toNat / 2 * 2, b.toNat % 2, c0.toNat] [] pay alive_ok (fun A n c w hs hnc hA => ?_) (fun A n c w hs hnc hA => ?_) (by simp) (by simp)
  · have hl := hs.len
    simp only [List.length_cons] at hl
    exact sread_llc _ [a.toNat / 2 * 2, a.toNat % 2, b.toNat / 2 * 2, b.toNat % 2, c0.toNat] [] pay (srd_llc_s a b c0 pay hm) A n c w hs (by omega) hnc (by omega)
  · have hl := hs.len
    simp only [List.length_cons] at hl
    exact iread_llc _ pay _ [a.toNat / 2 * 2, a.toNat % 2, b.toNat / 2 * 2, b.toNat % 2, c0.toNat] [] (dec_llc_s (a :: b :: c0 :: pay) hm (by simp) (by simp; omega)) (told_llc (a.toNat / 2 * 2) (a.toNat % 2) (b.toNat / 2 * 2) (b.toNat % 2) (c0.toNat) (by omega) (by omega) (by omega) (by omega) (by omega) pay (by omega)) A n c w hs hnc hA (by omega) (fun w _ => called_llc A n c w)
theorem rtrue_llc_l (a b c0 d : UInt8) (pay : List UInt8) (hm : c0.toNat % 4 ≠ 3) (hp : pay.length ≤ 300) : RTrue k_llc (a :: b :: c0 :: d :: pay) := by
  have ha := a.toNat_lt
  have hb := b.toNat_lt
  have hc0 := c0.toNat_lt
  have hd := d.toNat_lt
  refine read_yes k_llc (a :: b :: c0 :: d :: pay) [a.toNat / 2 * 2, a.toNat % 2, b.toNat / 2 * 2, b.toNat % 2, c0.toNat * 256 + d.toNat] [] pay alive_ok (fun A n c w hs hnc hA => ?_) (fun A n c w hs hnc hA => ?_) (by simp) (by simp)
  · have hl := hs.len
    simp only [List.length_cons] at hl
    exact sread_llc _ [a.toNat / 2 * 2, a.toNat % 2, b.toNat / 2 * 2, b.toNat % 2, c0.toNat * 256 + d.toNat] [] pay (srd_llc_l a b c0 d pay hm) A n c w hs (by omega) hnc (by omega)
  · have hl := hs.len
    simp only [List.length_cons] at hl
    exact iread_llc _ pay _ [a.toNat / 2 * 2, a.toNat % 2, b.toNat / 2 * 2, b.toNat % 2, c0.toNat * 256 + d.toNat] [] (dec_llc_l (a :: b :: c0 :: d :: pay) hm (by simp) (by simp; omega)) (told_llc (a.toNat / 2 * 2) (a.toNat % 2) (b.toNat / 2 * 2) (b.toNat % 2) (c0.toNat * 256 + d.toNat) (by omega) (by omega) (by omega) (by omega) (by omega) pay (by omega)) A n c w hs hnc hA (by omega) (fun w _ => called_llc A n c w)
theorem rtrue_llc (n0 n1 n2 n3 n4 : Nat) (h0 : n0 < 256) (h1 : n1 < 2) (h2 : n2 < 256) (h3 : n3 < 2) (h4 : n4 < 65536) (e0 : n0 % 2 = 0) (e2 : n2 % 2 = 0) (hm : (n4 < 256 ∧ n4 % 4 = 3) ∨ (256 ≤ n4 ∧ n4 / 256 % 4 ≠ 3)) (pay : List UInt8) (hp : pay.length ≤ 300) : RTrue k_llc (llcHdr n0 n1 n2 n3 n4 ++ pay) := by
  obtain ⟨a, ea, va⟩ := be1 (n0 + n1) (by omega)
  obtain ⟨b, eb, vb⟩ := be1 (n2 + n3) (by omega)
  rcases hm with ⟨hc, hm⟩ | ⟨hc, hm⟩
  · obtain ⟨c, ec, vc⟩ := be1 n4 hc
    have ex : llcHdr n0 n1 n2 n3 n4 ++ pay = a :: b :: c :: pay := by simp [llcHdr, ea, eb, ec, hc]
    rw [ex]
    exact rtrue_llc_s a b c pay (by omega) hp
  · obtain ⟨c, d, ec, vc, vd⟩ := be2 n4 h4
    have ex : llcHdr n0 n1 n2 n3 n4 ++ pay = a :: b :: c :: d :: pay := by simp [llcHdr, ea, eb, ec, show ¬ n4 < 256 by omega]
    rw [ex]
    exact rtrue_llc_l a b c d pay (by omega) hp
theorem kind_llc (fix : Bool) : Kind k_llc fix [8, 1, 8, 1, 16] [] (fun nums _ _ => (nums.getD 0 0) % 2 = 0 ∧ (nums.getD 2 0) % 2 = 0 ∧ (((nums.getD 4 0) < 256 ∧ (nums.getD 4 0) % 4 = 3) ∨ (256 ≤ (nums.getD 4 0) ∧ (nums.getD 4 0) / 256 % 4 ≠ 3))) outLlc := by
  refine ⟨wid_llc, by decide, by decide, by decide, fun i hi => ?_, fun i hi => absurd hi (by simp), swrite_llc fix, ?_, ?_⟩
  · match i, hi with
    | 0, _ => decide
    | 1, _ => decide
    | 2, _ => decide
    | 3, _ => decide
    | 4, _ => decide
  · intro nums data pay hf hc
    have hn := hf.nN
    have hd := hf.nD
    match nums, hn, data, hd with
    | [n0, n1, n2, n3, n4], _, [], _ =>
    have h0 : n0 < 256 := hf.num 0 (by decide)
    have h1 : n1 < 2 := hf.num 1 (by decide)
    have h2 : n2 < 256 := hf.num 2 (by decide)
    have h3 : n3 < 2 := hf.num 3 (by decide)
    have h4 : n4 < 65536 := hf.num 4 (by decide)
    intro v w hv
    have hs : Ser 137 fix false pay (llcHdr n0 n1 n2 n3 n4) (MLlc n0 n1 n2 n3 n4) := by
      rcases hc.2.2 with ⟨h5, _⟩ | ⟨h5, _⟩
      · exact ser_llc_short n0 n1 n2 n3 n4 h0 h1 h2 h3 h4 hc.1 hc.2.1 h5 fix false pay hf.pay
      · exact ser_llc_long n0 n1 n2 n3 n4 h0 h1 h2 h3 h4 hc.1 hc.2.1 h5 fix false pay hf.pay
    exact iwrite_any k_llc 85 137 fix [n0, n1, n2, n3, n4] [] pay _ _ (fun v w hv => made_llc n0 n1 n2 n3 n4 h0 h1 h2 h3 h4 v pay w hv) hs ser_nil_llc ser_method_llc ser_enter_llc
      (by decide) (fun k => by simp) hf.pay (by simp only [llcHdr]; split <;> simp [Lib.beBytes_length]) v w hv
  · intro nums data pay hf hc
    have hn := hf.nN
    have hd := hf.nD
    match nums, hn, data, hd with
    | [n0, n1, n2, n3, n4], _, [], _ =>
    have h0 : n0 < 256 := hf.num 0 (by decide)
    have h1 : n1 < 2 := hf.num 1 (by decide)
    have h2 : n2 < 256 := hf.num 2 (by decide)
    have h3 : n3 < 2 := hf.num 3 (by decide)
    have h4 : n4 < 65536 := hf.num 4 (by decide)
    exact rtrue_llc n0 n1 n2 n3 n4 h0 h1 h2 h3 h4 hc.1 hc.2.1 hc.2.2 pay hf.pay

set_option maxRecDepth 100000 in
set_option maxHeartbeats 4000000 in
theorem walk_llc (AN AD AP AB : Option Addr) (cN cD nP cP cB : Nat) (ds : List Value) (nums : List Nat) (data : List (List UInt8)) (pay : List UInt8) (fix : Bool) (w : World)
    (hN : Sl w w.heap.size AN nums.length (ncs nums)) (hD : Sl w w.heap.size AD data.length ds) (hE : Each w w.heap.size ds data) (hP : AnyP w w.heap.size AP nP) (hB : Sl w w.heap.size AB pay.length (bcs pay))
    (hn64 : ∀ i, nums.getD i 0 < 2 ^ 64) (hdl : ∀ i, (data.getD i []).length ≤ maxLen) :
    Calls Tryz.prog 12 #[.agg #[.slice AN nums.length cN, .slice AD data.length cD, .slice AP nP cP, .slice AB pay.length cB], .bool fix] w fun e w' => e = .returned (.bool true) ∧ Below w.heap.size w w' := by
  refine calls_hid fun R hR => ?_
  have hv : AnyL w w.heap.size (.agg #[.slice AN nums.length cN, .slice AD data.length cD, .slice AP nP cP, .slice AB pay.length cB]) nums data nP pay := ⟨AN, cN, AD, cD, AP, cP, AB, cB, ds, rfl, hN, hD, hE, hB⟩
  have hAD : AnyD w w.heap.size AD data.length := fun h0 => by
    obtain ⟨g, o, rfl, hg, _⟩ := hD.2 h0
    refine ⟨g, o, rfl, hg, fun i hi => ?_⟩
    obtain ⟨P, c, h1, _⟩ := hD.each hE hi rfl
    exact ⟨P, _, c, h1⟩
  have HV := Lib.hid hv
  have HAD := Lib.hid hAD
  have HP := Lib.hid hP
  have HN := Lib.hid hn64
  have HDL := Lib.hid hdl
  clear hN hD hE hP hB hv hAD hn64 hdl
  go_enter Tryz.func12, Tryz.ntmps12
  go_wp2_with fail
  obtain ⟨W, hW⟩ : ∃ W, W = w.alloc (.cells #[.slice AN nums.length cN, .slice AD data.length cD, .slice AP nP cP, .slice AB pay.length cB] 27) := ⟨_, rfl⟩
  rw [← hW]
  have hbk : Bk W w.heap.size 27 [.slice AN nums.length cN, .slice AD data.length cD, .slice AP nP cP, .slice AB pay.length cB] := by rw [hW]; exact Bk.new _ _ _
  have hbe : Below w.heap.size w W := by rw [hW]; exact (Below.refl _ _).alloc (Nat.le_refl _) _
  clear hW
  refine (zf1 AN AD AP AB _ cN _ cD nP cP _ cB W ((HAD.out.below hbe).more hbe.size) ((HP.out.below hbe).more hbe.size)).mono ?_
  rintro e w1 ⟨⟨b, rfl⟩, hb1⟩
  have hbw : Below w.heap.size w w1 := hbe.trans (hb1.mono hbe.size)
  have hk1 := hbk.below hb1 hbk.lt
  have k0 := hk1.cell 0
  have k1 := hk1.cell 1
  have k2 := hk1.cell 2
  have k3 := hk1.cell 3
  simp only [List.getElem?_cons_zero, List.getElem?_cons_succ] at k0 k1 k2 k3
  have hv1 : AnyL w1 w1.heap.size (.agg #[.slice AN nums.length cN, .slice AD data.length cD, .slice AP nP cP, .slice AB pay.length cB]) nums data nP pay := by
    obtain ⟨AN, cN, AD, cD, AP, cP, AB, cB, ds, hv, h1, h2, h3, h4⟩ := HV.out
    exact ⟨AN, cN, AD, cD, AP, cP, AB, cB, ds, hv, (h1.below hbw).more hbw.size, (h2.below hbw).more hbw.size, (h3.below hbw).more hbw.size, (h4.below hbw).more hbw.size⟩
  have HBW := Lib.hid hbw
  have HV1 := Lib.hid hv1
  clear hbk hbe hb1 hbw hk1 hv1
  cases b
  · go_wp2_with fail
    exact hR.out _ _ ⟨rfl, HBW.out⟩
  · go_wp2_with fail
    refine (written_any (kind_llc fix) alive_ok _ nums data nP pay w1 HV1.out HN.out HDL.out).mono ?_
    rintro e w2 ⟨rfl, hb2⟩
    go_wp2_with fail
    exact hR.out _ _ ⟨rfl, HBW.out.trans (hb2.mono HBW.out.size)⟩

theorem own_llc : ownKnob Tryz.prog.godebug = none := by kernel_rfl
theorem laidOut_llc : laidOutB Tryz.prog = true := by kernel_rfl
set_option maxRecDepth 100000 in
theorem lifted_llc (os : Os) (started : os.Started) (H : Type) (enc : TypeId × Value → H) :
    ReturnsInHanded {} Tryz.checked os 12 .any (Rows.fnWriteLlcSpec.pre6 enc Tryz.prog Tryz.f12 Rows.fnWriteLlcRow.domain false) (Rows.fnWriteLlcSpec.post enc Tryz.prog Tryz.f12 false true false false) := by
  refine returnsInHanded_of_change (C := Tryz.checked) own_llc started (by kernel_rfl) Tryz.func12
    (ChangeSpec.witness6 (enc := enc) (C := Tryz.checked) false ⟨#[], #[.agg #[.slice none 0 0, .slice none 0 0, .slice none 0 0, .slice none 0 0], .bool false], []⟩ 8 (by kernel_rfl) (by kernel_rfl) (by kernel_rfl) (by kernel_rfl)) ?_
  intro W base args ds gs before hval0 hW hcnd _
  have hval : ∀ (j : Nat) t v, Tryz.f12.params[j]? = some t → args[j]? = some v → Value.okWide Tryz.prog W .any base t v := hval0
  have hW' := hW
  obtain ⟨p, q, hA0, hV, rfl, hfz, hnd⟩ := hW
  have hA : DataW.TrodAll enc Tryz.prog W 0 (fun _ => true) true Tryz.f12.params.toList args.toList ds p := hA0
  rw [Tryz.params12] at hA hval
  obtain ⟨v0, vs0, d0, ds0, p0, q0, hargs, rfl, rfl, h0, r0⟩ := trodAll_cons hA
  obtain ⟨v1, vs1, d1, ds1, p1, q1, rfl, rfl, rfl, h1, r1⟩ := trodAll_cons r0
  obtain ⟨rfl, rfl, rfl⟩ := trodAll_nil r1
  obtain rfl : args = #[v0, v1] := by cases args; simp_all
  obtain ⟨rfl, rfl⟩ := trodVars_none hV
  have k0 := h0
  have lt0 : ∀ x ∈ p0, x.block < W.heap.size := by obtain ⟨m, hm⟩ := k0; exact DataW.trod_lt m _ _ _ hm
  obtain ⟨c0, c1, c2, c3, y0, y1, y2, y3, m, rfl, _, _, g0, g1, g2, g3⟩ := open_agg4 Tryz.underlying27 (by kernel_rfl) cells27 (hval 0 27 v0 rfl rfl) h0
  obtain ⟨AN, nN, cN, nums, rfl, rfl, _, hn64, hN⟩ := open_nums g0
  obtain ⟨AD, nD, cD, dss, data, rfl, rfl, _, hdl, hD, hE⟩ := open_data g1
  obtain ⟨AP, nP, cP, rfl, hP⟩ := open_parts g2
  obtain ⟨AB, nB, cB, pay, rfl, rfl, _, hB⟩ := open_bytes g3
  obtain ⟨x, rfl, rfl, rfl⟩ := open_bool Tryz.underlying4 (hval 1 4 v1 rfl rfl) h1
  clear hA0 hval0
  refine (walk_llc AN AD AP AB cN cD nP cP cB dss nums data pay x W hN hD hE hP hB hn64 hdl).mono fun e W' ⟨he, bel⟩ => ?_
  subst he
  exact ⟨_, rfl, _, _, _, [], _, [], hW', trodAll_mk1 (shut_bool Tryz.underlying4 _), (trodAll_cons_mk (Below.trod laidOut_llc (by kernel_rfl) (of_decide_eq_true (by kernel_rfl)) k0 bel lt0) (trodAll_cons_mk (shut_bool Tryz.underlying4 x) trodAll_mk0)), rfl, bel.frame _, fun h => by cases h⟩

end Go.Proofs.YtphmklgbbpiafaaGreat
