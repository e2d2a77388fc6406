/-
  FnWriteGtp: whatever the layer and the flag, the law returns true, and its arguments read as they did. No condition.
-/
import Derived.Test.YtphmklgbbpiafaaGreatRows
import Derived.Test.YtphmklgbbpiafaaGreatRowA
import Derived.Test.YtphmklgbbpiafaaGreatWritB
import Derived.Test.YtphmklgbbpiafaaGreatAliveA
import Derived.Test.YtphmklgbbpiafaaGreatGtpB
import Derived.Test.YtphmklgbbpiafaaGreatGtpC
import Derived.Test.YtphmklgbbpiafaaGreatGtpR
import Derived.Test.YtphmklgbbpiafaaGreatGtpN
import Derived.Test.YtphmklgbbpiafaaGreatGtpD
import Derived.Test.YtphmklgbbpiafaaGreatGtpM
import Derived.Test.YtphmklgbbpiafaaGreatGtpE
import Derived.Test.YtphmklgbbpiafaaGreatGtpF
import Derived.Test.YtphmklgbbpiafaaGreatGtpG
import Derived.Test.YtphmklgbbpiafaaGreatBytesM
namespace Go.Proofs.YtphmklgbbpiafaaGreat
open Go Go.RowKit Go.ChangeShapes Go.WideShapes Go.ChangeAt Go.Joins
set_option linter.unusedVariables false
set_option linter.unusedSimpArgs false

theorem ser_nil_gtp (gx : Nat) (W : World) : (nilAhead 390 115 (.pointer (some ⟨gx, 0, none⟩)) "SerializeTo").run Tryz.prog W = .ok (some false) W := by kernel_rfl
theorem ser_method_gtp (gx : Nat) (W : World) : (method 390 115 (.pointer (some ⟨gx, 0, none⟩)) "SerializeTo").run Tryz.prog W = .ok (160, .pointer (some ⟨gx, 0, none⟩)) W := by kernel_rfl
theorem ser_enter_gtp (args : Array Value) (W : World) : (callFunc 160 args).run Tryz.prog W = .ok (.enter 160 args) W := by kernel_rfl
theorem rtrue_gtp_yes (fl : UInt8) (rest : List UInt8) (m0 : Nat) (hm0 : m0 < 8) (e0 : fl.toNat = m0 * 32 + 16) (hd : Lib.beNat (((fl :: rest).drop 2).take 2) ≤ (fl :: rest).length - 8) (h8 : 8 ≤ (fl :: rest).length) (hp : (fl :: rest).length ≤ 700) : RTrue k_gtp (fl :: rest) := by
  refine read_yes k_gtp ((fl :: rest)) [m0, 1, 0, 0, 0, 0, ((fl :: rest).getD 1 0).toNat, Lib.beNat (((fl :: rest).drop 2).take 2), Lib.beNat (((fl :: rest).drop 4).take 4), 0, 0] [] ((fl :: rest).drop 8) alive_ok (fun A n c w hs hnc hA => ?_) (fun A n c w hs hnc hA => ?_) (by simp) (by simp)
  · have hl := hs.len
    exact sread_gtp _ [m0, 1, 0, 0, 0, 0, ((fl :: rest).getD 1 0).toNat, Lib.beNat (((fl :: rest).drop 2).take 2), Lib.beNat (((fl :: rest).drop 4).take 4), 0, 0] [] ((fl :: rest).drop 8) (srd_gtp (fl :: rest) m0 hm0 e0 hd h8 (by omega)) A n c w hs (by omega) hnc (by omega)
  · have hl := hs.len
    exact iread_gtp _ ((fl :: rest).drop 8) _ [m0, 1, 0, 0, 0, 0, ((fl :: rest).getD 1 0).toNat, Lib.beNat (((fl :: rest).drop 2).take 2), Lib.beNat (((fl :: rest).drop 4).take 4), 0, 0] [] (dec_gtp (fl :: rest) m0 hm0 e0 hd h8 (by omega)) (told_gtp m0 1 0 0 0 0 ((fl :: rest).getD 1 0).toNat (Lib.beNat (((fl :: rest).drop 2).take 2)) (Lib.beNat (((fl :: rest).drop 4).take 4)) 0 0 hm0 (by omega) (by omega) (by omega) (by omega) (by omega) (UInt8.toNat_lt _) (beNat_take _ 2) (beNat_take _ 4) (by omega) (by omega) ((fl :: rest).drop 8) (by rw [List.length_drop]; omega)) A n c w hs hnc hA (by omega) (fun w hs => called_gtp fl rest (by omega) A n c w hs)
theorem rtrue_gtp_no (fl : UInt8) (rest : List UInt8) (m0 : Nat) (hm0 : m0 < 8) (e0 : fl.toNat = m0 * 32 + 16) (hd : (fl :: rest).length - 8 < Lib.beNat (((fl :: rest).drop 2).take 2)) (hd2 : Lib.beNat (((fl :: rest).drop 2).take 2) < 65528) (h8 : 8 ≤ (fl :: rest).length) (hp : (fl :: rest).length ≤ 700) : RTrue k_gtp (fl :: rest) := by
  refine read_no k_gtp (fl :: rest) alive_ok (fun A n c w hs hnc hA => ?_) (iread_no_any k_gtp (fl :: rest) (fun A n c w hs hnc hA => decd_gtp_no (fl :: rest) m0 hm0 e0 hd hd2 h8 (by omega) A n c w hs hnc hA (called_gtp fl rest (by omega) A n c w hs)))
  have hl := hs.len
  exact sread_gtp_no _ (srd_gtp_no (fl :: rest) m0 hm0 e0 hd hd2 h8 (by omega)) A n c w hs (by omega) hnc (by omega)
theorem rtrue_gtp_open (fl : UInt8) (rest : List UInt8) (m0 : Nat) (hm0 : m0 < 8) (e0 : fl.toNat = m0 * 32 + 16) (hd : (fl :: rest).length - 8 < Lib.beNat (((fl :: rest).drop 2).take 2)) (hd2 : 65528 ≤ Lib.beNat (((fl :: rest).drop 2).take 2)) (h8 : 8 ≤ (fl :: rest).length) (hp : (fl :: rest).length ≤ 700) : RTrue k_gtp (fl :: rest) := by
  refine read_open k_gtp (fl :: rest) (fun A n c w hs hnc hA => ?_)
  have hl := hs.len
  exact sread_gtp_open _ (srd_gtp_open (fl :: rest) m0 hm0 e0 hd hd2 h8 (by omega)) A n c w hs (by omega) hnc (by omega)
theorem rtrue_gtp (fl : UInt8) (rest : List UInt8) (m0 : Nat) (hm0 : m0 < 8) (e0 : fl.toNat = m0 * 32 + 16) (h8 : 8 ≤ (fl :: rest).length) (hp : (fl :: rest).length ≤ 700) : RTrue k_gtp (fl :: rest) := by
  rcases Nat.lt_or_ge ((fl :: rest).length - 8) (Lib.beNat (((fl :: rest).drop 2).take 2)) with hd | hd
  · rcases Nat.lt_or_ge (Lib.beNat (((fl :: rest).drop 2).take 2)) 65528 with hd2 | hd2
    · exact rtrue_gtp_no fl rest m0 hm0 e0 hd hd2 h8 hp
    · exact rtrue_gtp_open fl rest m0 hm0 e0 hd hd2 h8 hp
  · exact rtrue_gtp_yes fl rest m0 hm0 e0 hd h8 hp
theorem kind_gtp (fix : Bool) : Kind k_gtp fix [3, 1, 1, 1, 1, 1, 8, 16, 32, 16, 8] [] (fun nums _ _ => (nums.getD 1 0) = 1 ∧ (nums.getD 2 0) = 0 ∧ ((nums.getD 3 0) = 0 ∧ (nums.getD 4 0) = 0 ∧ (nums.getD 5 0) = 0) ∧ (nums.getD 9 0) = 0 ∧ (nums.getD 10 0) = 0) outGtp := by
  refine ⟨wid_gtp, by decide, by decide, by decide, fun i hi => ?_, fun i hi => absurd hi (by simp), swrite_gtp fix, ?_, ?_⟩
  · match i, hi with
    | 0, _ => decide
    | 1, _ => decide
    | 2, _ => decide
    | 3, _ => decide
    | 4, _ => decide
    | 5, _ => decide
    | 6, _ => decide
    | 7, _ => decide
    | 8, _ => decide
    | 9, _ => decide
    | 10, _ => decide
  · intro nums data pay hf hc
    have hn := hf.nN
    have hd := hf.nD
    match nums, hn, data, hd with
    | [n0, n1, n2, n3, n4, n5, n6, n7, n8, n9, n10], _, [], _ =>
    have h0 : n0 < 8 := hf.num 0 (by decide)
    have h1 : n1 < 2 := hf.num 1 (by decide)
    have h2 : n2 < 2 := hf.num 2 (by decide)
    have h3 : n3 < 2 := hf.num 3 (by decide)
    have h4 : n4 < 2 := hf.num 4 (by decide)
    have h5 : n5 < 2 := hf.num 5 (by decide)
    have h6 : n6 < 256 := hf.num 6 (by decide)
    have h7 : n7 < 65536 := hf.num 7 (by decide)
    have h8 : n8 < 4294967296 := hf.num 8 (by decide)
    have h9 : n9 < 65536 := hf.num 9 (by decide)
    have h10 : n10 < 256 := hf.num 10 (by decide)
    obtain ⟨e1, e2, ⟨e3, e4, e5⟩, e9, e10⟩ := hc
    simp only [List.getD_cons_zero, List.getD_cons_succ] at e1 e2 e3 e4 e5 e9 e10
    subst e1 e2 e3 e4 e5 e9 e10
    intro v w hv
    exact iwrite_any k_gtp 115 160 fix [n0, 1, 0, 0, 0, 0, n6, n7, n8, 0, 0] [] pay _ _ (fun v w hv => made_gtp n0 n6 n7 n8 h0 h6 h7 h8 v pay w hv) (ser_gtp n0 n6 n7 n8 h0 h6 h7 h8 fix false pay hf.pay) ser_nil_gtp ser_method_gtp ser_enter_gtp
      (by decide) (fun k => by simp) hf.pay (by simp [gtpHdr, Lib.beBytes_length]) v w hv
  · intro nums data pay hf hc
    have hn := hf.nN
    have hd := hf.nD
    match nums, hn, data, hd with
    | [n0, n1, n2, n3, n4, n5, n6, n7, n8, n9, n10], _, [], _ =>
    have h0 : n0 < 8 := hf.num 0 (by decide)
    have h1 : n1 < 2 := hf.num 1 (by decide)
    have h2 : n2 < 2 := hf.num 2 (by decide)
    have h3 : n3 < 2 := hf.num 3 (by decide)
    have h4 : n4 < 2 := hf.num 4 (by decide)
    have h5 : n5 < 2 := hf.num 5 (by decide)
    have h6 : n6 < 256 := hf.num 6 (by decide)
    have h7 : n7 < 65536 := hf.num 7 (by decide)
    have h8 : n8 < 4294967296 := hf.num 8 (by decide)
    have h9 : n9 < 65536 := hf.num 9 (by decide)
    have h10 : n10 < 256 := hf.num 10 (by decide)
    obtain ⟨e1, e2, ⟨e3, e4, e5⟩, e9, e10⟩ := hc
    simp only [List.getD_cons_zero, List.getD_cons_succ] at e1 e2 e3 e4 e5 e9 e10
    subst e1 e2 e3 e4 e5 e9 e10
    have hp := hf.pay
    obtain ⟨a, ea, va⟩ := be1 (n0 * 32 + 16) (by omega)
    obtain ⟨rest, hr⟩ : ∃ rest, rest = Lib.beBytes 1 n6 ++ Lib.beBytes 2 n7 ++ Lib.beBytes 4 n8 ++ pay := ⟨_, rfl⟩
    have ex : outGtp [n0, 1, 0, 0, 0, 0, n6, n7, n8, 0, 0] [] pay = a :: rest := by rw [hr]; simp [outGtp, gtpHdr, ea]
    have hl : rest.length = 7 + pay.length := by rw [hr]; simp [Lib.beBytes_length]; omega
    rw [ex]
    exact rtrue_gtp a rest n0 h0 va (by rw [List.length_cons]; omega) (by rw [List.length_cons]; omega)

set_option maxRecDepth 100000 in
set_option maxHeartbeats 4000000 in
theorem walk_gtp (AN AD AP AB : Option Addr) (cN cD nP cP cB : Nat) (ds : List Value) (nums : List Nat) (data : List (List UInt8)) (pay : List UInt8) (fix : Bool) (w : World)
    (hN : Sl w w.heap.size AN nums.length (ncs nums)) (hD : Sl w w.heap.size AD data.length ds) (hE : Each w w.heap.size ds data) (hP : AnyP w w.heap.size AP nP) (hB : Sl w w.heap.size AB pay.length (bcs pay))
    (hn64 : ∀ i, nums.getD i 0 < 2 ^ 64) (hdl : ∀ i, (data.getD i []).length ≤ maxLen) :
    Calls Tryz.prog 10 #[.agg #[.slice AN nums.length cN, .slice AD data.length cD, .slice AP nP cP, .slice AB pay.length cB], .bool fix] w fun e w' => e = .returned (.bool true) ∧ Below w.heap.size w w' := by
  refine calls_hid fun R hR => ?_
  have hv : AnyL w w.heap.size (.agg #[.slice AN nums.length cN, .slice AD data.length cD, .slice AP nP cP, .slice AB pay.length cB]) nums data nP pay := ⟨AN, cN, AD, cD, AP, cP, AB, cB, ds, rfl, hN, hD, hE, hB⟩
  have hAD : AnyD w w.heap.size AD data.length := fun h0 => by
    obtain ⟨g, o, rfl, hg, _⟩ := hD.2 h0
    refine ⟨g, o, rfl, hg, fun i hi => ?_⟩
    obtain ⟨P, c, h1, _⟩ := hD.each hE hi rfl
    exact ⟨P, _, c, h1⟩
  have HV := Lib.hid hv
  have HAD := Lib.hid hAD
  have HP := Lib.hid hP
  have HN := Lib.hid hn64
  have HDL := Lib.hid hdl
  clear hN hD hE hP hB hv hAD hn64 hdl
  go_enter Tryz.func10, Tryz.ntmps10
  go_wp2_with fail
  obtain ⟨W, hW⟩ : ∃ W, W = w.alloc (.cells #[.slice AN nums.length cN, .slice AD data.length cD, .slice AP nP cP, .slice AB pay.length cB] 27) := ⟨_, rfl⟩
  rw [← hW]
  have hbk : Bk W w.heap.size 27 [.slice AN nums.length cN, .slice AD data.length cD, .slice AP nP cP, .slice AB pay.length cB] := by rw [hW]; exact Bk.new _ _ _
  have hbe : Below w.heap.size w W := by rw [hW]; exact (Below.refl _ _).alloc (Nat.le_refl _) _
  clear hW
  refine (zf1 AN AD AP AB _ cN _ cD nP cP _ cB W ((HAD.out.below hbe).more hbe.size) ((HP.out.below hbe).more hbe.size)).mono ?_
  rintro e w1 ⟨⟨b, rfl⟩, hb1⟩
  have hbw : Below w.heap.size w w1 := hbe.trans (hb1.mono hbe.size)
  have hk1 := hbk.below hb1 hbk.lt
  have k0 := hk1.cell 0
  have k1 := hk1.cell 1
  have k2 := hk1.cell 2
  have k3 := hk1.cell 3
  simp only [List.getElem?_cons_zero, List.getElem?_cons_succ] at k0 k1 k2 k3
  have hv1 : AnyL w1 w1.heap.size (.agg #[.slice AN nums.length cN, .slice AD data.length cD, .slice AP nP cP, .slice AB pay.length cB]) nums data nP pay := by
    obtain ⟨AN, cN, AD, cD, AP, cP, AB, cB, ds, hv, h1, h2, h3, h4⟩ := HV.out
    exact ⟨AN, cN, AD, cD, AP, cP, AB, cB, ds, hv, (h1.below hbw).more hbw.size, (h2.below hbw).more hbw.size, (h3.below hbw).more hbw.size, (h4.below hbw).more hbw.size⟩
  have HBW := Lib.hid hbw
  have HV1 := Lib.hid hv1
  clear hbk hbe hb1 hbw hk1 hv1
  cases b
  · go_wp2_with fail
    exact hR.out _ _ ⟨rfl, HBW.out⟩
  · go_wp2_with fail
    refine (written_any (kind_gtp fix) alive_ok _ nums data nP pay w1 HV1.out HN.out HDL.out).mono ?_
    rintro e w2 ⟨rfl, hb2⟩
    go_wp2_with fail
    exact hR.out _ _ ⟨rfl, HBW.out.trans (hb2.mono HBW.out.size)⟩

theorem own_gtp : ownKnob Tryz.prog.godebug = none := by kernel_rfl
theorem laidOut_gtp : laidOutB Tryz.prog = true := by kernel_rfl
set_option maxRecDepth 100000 in
theorem lifted_gtp (os : Os) (started : os.Started) (H : Type) (enc : TypeId × Value → H) :
    ReturnsInHanded {} Tryz.checked os 10 .any (Rows.fnWriteGtpSpec.pre6 enc Tryz.prog Tryz.f10 Rows.fnWriteGtpRow.domain false) (Rows.fnWriteGtpSpec.post enc Tryz.prog Tryz.f10 false true false false) := by
  refine returnsInHanded_of_change (C := Tryz.checked) own_gtp started (by kernel_rfl) Tryz.func10
    (ChangeSpec.witness6 (enc := enc) (C := Tryz.checked) false ⟨#[], #[.agg #[.slice none 0 0, .slice none 0 0, .slice none 0 0, .slice none 0 0], .bool false], []⟩ 8 (by kernel_rfl) (by kernel_rfl) (by kernel_rfl) (by kernel_rfl)) ?_
  intro W base args ds gs before hval0 hW hcnd _
  have hval : ∀ (j : Nat) t v, Tryz.f10.params[j]? = some t → args[j]? = some v → Value.okWide Tryz.prog W .any base t v := hval0
  have hW' := hW
  obtain ⟨p, q, hA0, hV, rfl, hfz, hnd⟩ := hW
  have hA : DataW.TrodAll enc Tryz.prog W 0 (fun _ => true) true Tryz.f10.params.toList args.toList ds p := hA0
  rw [Tryz.params10] at hA hval
  obtain ⟨v0, vs0, d0, ds0, p0, q0, hargs, rfl, rfl, h0, r0⟩ := trodAll_cons hA
  obtain ⟨v1, vs1, d1, ds1, p1, q1, rfl, rfl, rfl, h1, r1⟩ := trodAll_cons r0
  obtain ⟨rfl, rfl, rfl⟩ := trodAll_nil r1
  obtain rfl : args = #[v0, v1] := by cases args; simp_all
  obtain ⟨rfl, rfl⟩ := trodVars_none hV
  have k0 := h0
  have lt0 : ∀ x ∈ p0, x.block < W.heap.size := by obtain ⟨m, hm⟩ := k0; exact DataW.trod_lt m _ _ _ hm
  obtain ⟨c0, c1, c2, c3, y0, y1, y2, y3, m, rfl, _, _, g0, g1, g2, g3⟩ := open_agg4 Tryz.underlying27 (by kernel_rfl) cells27 (hval 0 27 v0 rfl rfl) h0
  obtain ⟨AN, nN, cN, nums, rfl, rfl, _, hn64, hN⟩ := open_nums g0
  obtain ⟨AD, nD, cD, dss, data, rfl, rfl, _, hdl, hD, hE⟩ := open_data g1
  obtain ⟨AP, nP, cP, rfl, hP⟩ := open_parts g2
  obtain ⟨AB, nB, cB, pay, rfl, rfl, _, hB⟩ := open_bytes g3
  obtain ⟨x, rfl, rfl, rfl⟩ := open_bool Tryz.underlying4 (hval 1 4 v1 rfl rfl) h1
  clear hA0 hval0
  refine (walk_gtp AN AD AP AB cN cD nP cP cB dss nums data pay x W hN hD hE hP hB hn64 hdl).mono fun e W' ⟨he, bel⟩ => ?_
  subst he
  exact ⟨_, rfl, _, _, _, [], _, [], hW', trodAll_mk1 (shut_bool Tryz.underlying4 _), (trodAll_cons_mk (Below.trod laidOut_gtp (by kernel_rfl) (of_decide_eq_true (by kernel_rfl)) k0 bel lt0) (trodAll_cons_mk (shut_bool Tryz.underlying4 x) trodAll_mk0)), rfl, bel.frame _, fun h => by cases h⟩

end Go.Proofs.YtphmklgbbpiafaaGreat
