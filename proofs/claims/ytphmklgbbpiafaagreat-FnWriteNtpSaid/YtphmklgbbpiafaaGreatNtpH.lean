/-
  FnWriteNtp: whatever the layer and the flag, the law returns true, and its arguments read as they did. No condition.
-/
import Derived.Test.YtphmklgbbpiafaaGreatRows
import Derived.Test.YtphmklgbbpiafaaGreatRowA
import Derived.Test.YtphmklgbbpiafaaGreatWritB
import Derived.Test.YtphmklgbbpiafaaGreatAliveA
import Derived.Test.YtphmklgbbpiafaaGreatNtpB
import Derived.Test.YtphmklgbbpiafaaGreatNtpC
import Derived.Test.YtphmklgbbpiafaaGreatNtpD
import Derived.Test.YtphmklgbbpiafaaGreatNtpE
import Derived.Test.YtphmklgbbpiafaaGreatNtpF
import Derived.Test.YtphmklgbbpiafaaGreatNtpG
import Derived.Test.YtphmklgbbpiafaaGreatBytesM
import Derived.Test.YtphmklgbbpiafaaGreatWrtB
namespace Go.Proofs.YtphmklgbbpiafaaGreat
open Go Go.RowKit Go.ChangeShapes Go.WideShapes Go.ChangeAt Go.Joins
set_option linter.unusedVariables false
set_option linter.unusedSimpArgs false

theorem ser_nil_ntp (gx : Nat) (W : World) : (nilAhead 390 141 (.pointer (some ⟨gx, 0, none⟩)) "SerializeTo").run Tryz.prog W = .ok (some false) W := by kernel_rfl
theorem ser_method_ntp (gx : Nat) (W : World) : (method 390 141 (.pointer (some ⟨gx, 0, none⟩)) "SerializeTo").run Tryz.prog W = .ok (170, .pointer (some ⟨gx, 0, none⟩)) W := by kernel_rfl
theorem ser_enter_ntp (args : Array Value) (W : World) : (callFunc 170 args).run Tryz.prog W = .ok (.enter 170 args) W := by kernel_rfl
theorem rtrue_ntp (xs : List UInt8) (h48 : 48 ≤ xs.length) (hp : xs.length ≤ 700) : RTrue k_ntp xs := by
  have b0 := (xs.getD 0 0).toNat_lt
  have hdl : (xs.drop 48).length ≤ 1000 := by rw [List.length_drop]; omega
  have hT : Tolds 141 152 [] _ [(xs.getD 0 0).toNat / 64, (xs.getD 0 0).toNat / 8 % 8, (xs.getD 0 0).toNat % 8, (xs.getD 1 0).toNat, (xs.getD 2 0).toNat, (xs.getD 3 0).toNat, Lib.beNat ((xs.drop 4).take 4), Lib.beNat ((xs.drop 8).take 4), Lib.beNat ((xs.drop 12).take 4), Lib.beNat ((xs.drop 16).take 8), Lib.beNat ((xs.drop 24).take 8), Lib.beNat ((xs.drop 32).take 8), Lib.beNat ((xs.drop 40).take 8)] [xs.drop 48] := told_ntp ((xs.getD 0 0).toNat / 64) ((xs.getD 0 0).toNat / 8 % 8) ((xs.getD 0 0).toNat % 8) ((xs.getD 1 0).toNat) ((xs.getD 2 0).toNat) ((xs.getD 3 0).toNat) (Lib.beNat ((xs.drop 4).take 4)) (Lib.beNat ((xs.drop 8).take 4)) (Lib.beNat ((xs.drop 12).take 4)) (Lib.beNat ((xs.drop 16).take 8)) (Lib.beNat ((xs.drop 24).take 8)) (Lib.beNat ((xs.drop 32).take 8)) (Lib.beNat ((xs.drop 40).take 8)) (by omega) (by omega) (by omega) (UInt8.toNat_lt _) (UInt8.toNat_lt _) (UInt8.toNat_lt _) (beNat_take _ 4) (beNat_take _ 4) (beNat_take _ 4) (beNat_take _ 8) (beNat_take _ 8) (beNat_take _ 8) (beNat_take _ 8) (xs.drop 48) hdl [] (by simp)
  refine read_yes k_ntp (xs) [(xs.getD 0 0).toNat / 64, (xs.getD 0 0).toNat / 8 % 8, (xs.getD 0 0).toNat % 8, (xs.getD 1 0).toNat, (xs.getD 2 0).toNat, (xs.getD 3 0).toNat, Lib.beNat ((xs.drop 4).take 4), Lib.beNat ((xs.drop 8).take 4), Lib.beNat ((xs.drop 12).take 4), Lib.beNat ((xs.drop 16).take 8), Lib.beNat ((xs.drop 24).take 8), Lib.beNat ((xs.drop 32).take 8), Lib.beNat ((xs.drop 40).take 8)] [xs.drop 48] [] alive_ok (fun A n c w hs hnc hA => ?_) (fun A n c w hs hnc hA => ?_) (by simp) (by simp)
  · have hl := hs.len
    exact sread_ntp _ A n c w hs (by omega) hnc (by omega)
  · have hl := hs.len
    exact iread_ntp _ [] _ [(xs.getD 0 0).toNat / 64, (xs.getD 0 0).toNat / 8 % 8, (xs.getD 0 0).toNat % 8, (xs.getD 1 0).toNat, (xs.getD 2 0).toNat, (xs.getD 3 0).toNat, Lib.beNat ((xs.drop 4).take 4), Lib.beNat ((xs.drop 8).take 4), Lib.beNat ((xs.drop 12).take 4), Lib.beNat ((xs.drop 16).take 8), Lib.beNat ((xs.drop 24).take 8), Lib.beNat ((xs.drop 32).take 8), Lib.beNat ((xs.drop 40).take 8)] [xs.drop 48] (dec_ntp xs h48 (by omega)) hT A n c w hs hnc hA (by omega) (fun w _ => called_ntp A n c w)
theorem kind_ntp (fix : Bool) : KindC k_ntp fix [2, 3, 3, 8, 8, 8, 32, 32, 32, 64, 64, 64, 64] [0] (fun _ _ pay => pay.length = 0) outNtp := by
  refine ⟨wid_ntp, by decide, by decide, by decide, fun i hi => ?_, fun i hi => ?_, swrite_ntp fix, ?_, ?_⟩
  · match i, hi with
    | 0, _ => decide
    | 1, _ => decide
    | 2, _ => decide
    | 3, _ => decide
    | 4, _ => decide
    | 5, _ => decide
    | 6, _ => decide
    | 7, _ => decide
    | 8, _ => decide
    | 9, _ => decide
    | 10, _ => decide
    | 11, _ => decide
    | 12, _ => decide
  · match i, hi with
    | 0, _ => decide
  · intro nums data pay hf hc
    have hn := hf.nN
    have hd := hf.nD
    match nums, hn, data, hd with
    | [n0, n1, n2, n3, n4, n5, n6, n7, n8, n9, n10, n11, n12], _, [d0], _ =>
    have h0 : n0 < 4 := hf.num 0 (by decide)
    have h1 : n1 < 8 := hf.num 1 (by decide)
    have h2 : n2 < 8 := hf.num 2 (by decide)
    have h3 : n3 < 256 := hf.num 3 (by decide)
    have h4 : n4 < 256 := hf.num 4 (by decide)
    have h5 : n5 < 256 := hf.num 5 (by decide)
    have h6 : n6 < 4294967296 := hf.num 6 (by decide)
    have h7 : n7 < 4294967296 := hf.num 7 (by decide)
    have h8 : n8 < 4294967296 := hf.num 8 (by decide)
    have h9 : n9 < 18446744073709551616 := hf.num 9 (by decide)
    have h10 : n10 < 18446744073709551616 := hf.num 10 (by decide)
    have h11 : n11 < 18446744073709551616 := hf.num 11 (by decide)
    have h12 : n12 < 18446744073709551616 := hf.num 12 (by decide)
    have hdl : d0.length ≤ 300 := (hf.dat 0 (by decide)).2
    have hpy : pay = [] := List.eq_nil_of_length_eq_zero hc
    subst hpy
    intro v w hv
    exact iwrite_any k_ntp 141 170 fix [n0, n1, n2, n3, n4, n5, n6, n7, n8, n9, n10, n11, n12] [d0] [] _ _ (fun v w hv => made_ntp n0 n1 n2 n3 n4 n5 n6 n7 n8 n9 n10 n11 n12 h0 h1 h2 h3 h4 h5 h6 h7 h8 h9 h10 h11 h12 d0 hdl v [] w hv) (ser_ntp n0 n1 n2 n3 n4 n5 n6 n7 n8 n9 n10 n11 n12 d0 h0 h1 h2 h3 h4 h5 h6 h7 h8 h9 h10 h11 h12 hdl fix false) ser_nil_ntp ser_method_ntp ser_enter_ntp
      (by simp) (fun k => by match k with
        | 0 => exact hdl
        | k + 1 => simp) hf.pay (by simp [ntpHdr, Lib.beBytes_length]; omega) v w hv
  · intro nums data pay hf hc
    have hn := hf.nN
    have hd := hf.nD
    match nums, hn, data, hd with
    | [n0, n1, n2, n3, n4, n5, n6, n7, n8, n9, n10, n11, n12], _, [d0], _ =>
    have h0 : n0 < 4 := hf.num 0 (by decide)
    have h1 : n1 < 8 := hf.num 1 (by decide)
    have h2 : n2 < 8 := hf.num 2 (by decide)
    have h3 : n3 < 256 := hf.num 3 (by decide)
    have h4 : n4 < 256 := hf.num 4 (by decide)
    have h5 : n5 < 256 := hf.num 5 (by decide)
    have h6 : n6 < 4294967296 := hf.num 6 (by decide)
    have h7 : n7 < 4294967296 := hf.num 7 (by decide)
    have h8 : n8 < 4294967296 := hf.num 8 (by decide)
    have h9 : n9 < 18446744073709551616 := hf.num 9 (by decide)
    have h10 : n10 < 18446744073709551616 := hf.num 10 (by decide)
    have h11 : n11 < 18446744073709551616 := hf.num 11 (by decide)
    have h12 : n12 < 18446744073709551616 := hf.num 12 (by decide)
    have hdl : d0.length ≤ 300 := (hf.dat 0 (by decide)).2
    have hpy : pay = [] := List.eq_nil_of_length_eq_zero hc
    subst hpy
    have hl : (outNtp [n0, n1, n2, n3, n4, n5, n6, n7, n8, n9, n10, n11, n12] [d0] []).length = 48 + d0.length := by simp [outNtp, ntpHdr, Lib.beBytes_length]; omega
    exact rtrue_ntp _ (by omega) (by omega)

set_option maxRecDepth 100000 in
set_option maxHeartbeats 4000000 in
theorem walk_ntp (AN AD AP AB : Option Addr) (cN cD nP cP cB : Nat) (ds : List Value) (nums : List Nat) (data : List (List UInt8)) (pay : List UInt8) (fix : Bool) (w : World)
    (hN : Sl w w.heap.size AN nums.length (ncs nums)) (hD : Sl w w.heap.size AD data.length ds) (hE : Each w w.heap.size ds data) (hP : AnyP w w.heap.size AP nP) (hB : Sl w w.heap.size AB pay.length (bcs pay))
    (hn64 : ∀ i, nums.getD i 0 < 2 ^ 64) (hdl : ∀ i, (data.getD i []).length ≤ maxLen) (hcN : nums.length ≤ cN) :
    Calls Tryz.prog 15 #[.agg #[.slice AN nums.length cN, .slice AD data.length cD, .slice AP nP cP, .slice AB pay.length cB], .bool fix] w fun e w' => e = .returned (.bool true) ∧ Below w.heap.size w w' := by
  refine calls_hid fun R hR => ?_
  have hv : AnyL w w.heap.size (.agg #[.slice AN nums.length cN, .slice AD data.length cD, .slice AP nP cP, .slice AB pay.length cB]) nums data nP pay := ⟨AN, cN, AD, cD, AP, cP, AB, cB, ds, rfl, hN, hD, hE, hB⟩
  have hAD : AnyD w w.heap.size AD data.length := fun h0 => by
    obtain ⟨g, o, rfl, hg, _⟩ := hD.2 h0
    refine ⟨g, o, rfl, hg, fun i hi => ?_⟩
    obtain ⟨P, c, h1, _⟩ := hD.each hE hi rfl
    exact ⟨P, _, c, h1⟩
  have HV := Lib.hid hv
  have HAD := Lib.hid hAD
  have HP := Lib.hid hP
  have HN := Lib.hid hn64
  have HDL := Lib.hid hdl
  clear hN hD hE hP hB hv hAD hn64 hdl
  go_enter Tryz.func15, Tryz.ntmps15
  go_wp2_with fail
  obtain ⟨W, hW⟩ : ∃ W, W = w.alloc (.cells #[.slice AN nums.length cN, .slice AD data.length cD, .slice AP nP cP, .slice AB pay.length cB] 27) := ⟨_, rfl⟩
  rw [← hW]
  have hbk : Bk W w.heap.size 27 [.slice AN nums.length cN, .slice AD data.length cD, .slice AP nP cP, .slice AB pay.length cB] := by rw [hW]; exact Bk.new _ _ _
  have hbe : Below w.heap.size w W := by rw [hW]; exact (Below.refl _ _).alloc (Nat.le_refl _) _
  clear hW
  refine (zf1 AN AD AP AB _ cN _ cD nP cP _ cB W ((HAD.out.below hbe).more hbe.size) ((HP.out.below hbe).more hbe.size)).mono ?_
  rintro e w1 ⟨⟨b, rfl⟩, hb1⟩
  have hbw : Below w.heap.size w w1 := hbe.trans (hb1.mono hbe.size)
  have hk1 := hbk.below hb1 hbk.lt
  have k0 := hk1.cell 0
  have k1 := hk1.cell 1
  have k2 := hk1.cell 2
  have k3 := hk1.cell 3
  simp only [List.getElem?_cons_zero, List.getElem?_cons_succ] at k0 k1 k2 k3
  have hv1 : AnyL w1 w1.heap.size (.agg #[.slice AN nums.length cN, .slice AD data.length cD, .slice AP nP cP, .slice AB pay.length cB]) nums data nP pay := by
    obtain ⟨AN, cN, AD, cD, AP, cP, AB, cB, ds, hv, h1, h2, h3, h4⟩ := HV.out
    exact ⟨AN, cN, AD, cD, AP, cP, AB, cB, ds, hv, (h1.below hbw).more hbw.size, (h2.below hbw).more hbw.size, (h3.below hbw).more hbw.size, (h4.below hbw).more hbw.size⟩
  have HBW := Lib.hid hbw
  have HV1 := Lib.hid hv1
  clear hbk hbe hb1 hbw hk1 hv1
  cases b
  · go_wp2_with fail
    exact hR.out _ _ ⟨rfl, HBW.out⟩
  · go_wp2_with fail
    refine (written_anyC (kind_ntp fix) alive_ok _ nums data nP pay w1 HV1.out hcN HN.out HDL.out).mono ?_
    rintro e w2 ⟨rfl, hb2⟩
    go_wp2_with fail
    exact hR.out _ _ ⟨rfl, HBW.out.trans (hb2.mono HBW.out.size)⟩

theorem own_ntp : ownKnob Tryz.prog.godebug = none := by kernel_rfl
theorem laidOut_ntp : laidOutB Tryz.prog = true := by kernel_rfl
set_option maxRecDepth 100000 in
theorem lifted_ntp (os : Os) (started : os.Started) (H : Type) (enc : TypeId × Value → H) :
    ReturnsInHanded {} Tryz.checked os 15 .any (Rows.fnWriteNtpSpec.pre6 enc Tryz.prog Tryz.f15 Rows.fnWriteNtpRow.domain false) (Rows.fnWriteNtpSpec.post enc Tryz.prog Tryz.f15 false true false false) := by
  refine returnsInHanded_of_change (C := Tryz.checked) own_ntp started (by kernel_rfl) Tryz.func15
    (ChangeSpec.witness6 (enc := enc) (C := Tryz.checked) false ⟨#[], #[.agg #[.slice none 0 0, .slice none 0 0, .slice none 0 0, .slice none 0 0], .bool false], []⟩ 8 (by kernel_rfl) (by kernel_rfl) (by kernel_rfl) (by kernel_rfl)) ?_
  intro W base args ds gs before hval0 hW hcnd _
  have hval : ∀ (j : Nat) t v, Tryz.f15.params[j]? = some t → args[j]? = some v → Value.okWide Tryz.prog W .any base t v := hval0
  have hW' := hW
  obtain ⟨p, q, hA0, hV, rfl, hfz, hnd⟩ := hW
  have hA : DataW.TrodAll enc Tryz.prog W 0 (fun _ => true) true Tryz.f15.params.toList args.toList ds p := hA0
  rw [Tryz.params15] at hA hval
  obtain ⟨v0, vs0, d0, ds0, p0, q0, hargs, rfl, rfl, h0, r0⟩ := trodAll_cons hA
  obtain ⟨v1, vs1, d1, ds1, p1, q1, rfl, rfl, rfl, h1, r1⟩ := trodAll_cons r0
  obtain ⟨rfl, rfl, rfl⟩ := trodAll_nil r1
  obtain rfl : args = #[v0, v1] := by cases args; simp_all
  obtain ⟨rfl, rfl⟩ := trodVars_none hV
  have k0 := h0
  have lt0 : ∀ x ∈ p0, x.block < W.heap.size := by obtain ⟨m, hm⟩ := k0; exact DataW.trod_lt m _ _ _ hm
  obtain ⟨c0, c1, c2, c3, y0, y1, y2, y3, m, rfl, _, _, g0, g1, g2, g3⟩ := open_agg4 Tryz.underlying27 (by kernel_rfl) cells27 (hval 0 27 v0 rfl rfl) h0
  obtain ⟨AN, nN, cN, nums, hy0, rfl, _, hn64, hN⟩ := open_nums g0
  have hcN : nums.length ≤ cN := by rw [hy0] at g0; exact open_cap g0
  subst hy0
  obtain ⟨AD, nD, cD, dss, data, rfl, rfl, _, hdl, hD, hE⟩ := open_data g1
  obtain ⟨AP, nP, cP, rfl, hP⟩ := open_parts g2
  obtain ⟨AB, nB, cB, pay, rfl, rfl, _, hB⟩ := open_bytes g3
  obtain ⟨x, rfl, rfl, rfl⟩ := open_bool Tryz.underlying4 (hval 1 4 v1 rfl rfl) h1
  clear hA0 hval0
  refine (walk_ntp AN AD AP AB cN cD nP cP cB dss nums data pay x W hN hD hE hP hB hn64 hdl hcN).mono fun e W' ⟨he, bel⟩ => ?_
  subst he
  exact ⟨_, rfl, _, _, _, [], _, [], hW', trodAll_mk1 (shut_bool Tryz.underlying4 _), (trodAll_cons_mk (Below.trod laidOut_ntp (by kernel_rfl) (of_decide_eq_true (by kernel_rfl)) k0 bel lt0) (trodAll_cons_mk (shut_bool Tryz.underlying4 x) trodAll_mk0)), rfl, bel.frame _, fun h => by cases h⟩

end Go.Proofs.YtphmklgbbpiafaaGreat
