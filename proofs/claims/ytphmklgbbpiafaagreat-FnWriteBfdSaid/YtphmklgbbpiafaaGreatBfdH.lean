/-
  FnWriteBfd: whatever the layer and the flag, the law returns true, and its arguments read as they did. No condition.
-/
import Derived.Test.YtphmklgbbpiafaaGreatRows
import Derived.Test.YtphmklgbbpiafaaGreatRowA
import Derived.Test.YtphmklgbbpiafaaGreatWritB
import Derived.Test.YtphmklgbbpiafaaGreatAliveA
import Derived.Test.YtphmklgbbpiafaaGreatBfdB
import Derived.Test.YtphmklgbbpiafaaGreatBfdC
import Derived.Test.YtphmklgbbpiafaaGreatBfdR
import Derived.Test.YtphmklgbbpiafaaGreatBfdD
import Derived.Test.YtphmklgbbpiafaaGreatBfdE
import Derived.Test.YtphmklgbbpiafaaGreatBfdF
import Derived.Test.YtphmklgbbpiafaaGreatBfdG
import Derived.Test.YtphmklgbbpiafaaGreatBytesM
import Derived.Test.YtphmklgbbpiafaaGreatWrtB
namespace Go.Proofs.YtphmklgbbpiafaaGreat
open Go Go.RowKit Go.ChangeShapes Go.WideShapes Go.ChangeAt Go.Joins
set_option linter.unusedVariables false
set_option linter.unusedSimpArgs false

theorem ser_nil_bfd (gx : Nat) (W : World) : (nilAhead 390 125 (.pointer (some ⟨gx, 0, none⟩)) "SerializeTo").run Tryz.prog W = .ok (some false) W := by kernel_rfl
theorem ser_method_bfd (gx : Nat) (W : World) : (method 390 125 (.pointer (some ⟨gx, 0, none⟩)) "SerializeTo").run Tryz.prog W = .ok (166, .pointer (some ⟨gx, 0, none⟩)) W := by kernel_rfl
theorem ser_enter_bfd (args : Array Value) (W : World) : (callFunc 166 args).run Tryz.prog W = .ok (.enter 166 args) W := by kernel_rfl
theorem rtrue_bfd (xs : List UInt8) (h24 : xs.length = 24) (hN : (xs.getD 3 0).toNat = 24) (hz2 : (xs.getD 1 0).toNat / 4 % 2 = 0) : RTrue k_bfd xs := by
  have b0 := (xs.getD 0 0).toNat_lt
  have b1 := (xs.getD 1 0).toNat_lt
  have hT : Tolds 125 134 [] _ [(xs.getD 0 0).toNat / 32, (xs.getD 0 0).toNat % 32, (xs.getD 1 0).toNat / 64, (xs.getD 1 0).toNat / 32 % 2, (xs.getD 1 0).toNat / 16 % 2, (xs.getD 1 0).toNat / 8 % 2, 0, (xs.getD 1 0).toNat / 2 % 2, (xs.getD 1 0).toNat % 2, (xs.getD 2 0).toNat, Lib.beNat ((xs.drop 4).take 4), Lib.beNat ((xs.drop 8).take 4), Lib.beNat ((xs.drop 12).take 4), Lib.beNat ((xs.drop 16).take 4), Lib.beNat ((xs.drop 20).take 4)] [] := told_bfd ((xs.getD 0 0).toNat / 32) ((xs.getD 0 0).toNat % 32) ((xs.getD 1 0).toNat / 64) ((xs.getD 1 0).toNat / 32 % 2) ((xs.getD 1 0).toNat / 16 % 2) ((xs.getD 1 0).toNat / 8 % 2) (0) ((xs.getD 1 0).toNat / 2 % 2) ((xs.getD 1 0).toNat % 2) (xs.getD 2 0).toNat (Lib.beNat ((xs.drop 4).take 4)) (Lib.beNat ((xs.drop 8).take 4)) (Lib.beNat ((xs.drop 12).take 4)) (Lib.beNat ((xs.drop 16).take 4)) (Lib.beNat ((xs.drop 20).take 4)) (by omega) (by omega) (by omega) (by omega) (by omega) (by omega) (by omega) (by omega) (by omega) (UInt8.toNat_lt _) (beNat_take _ 4) (beNat_take _ 4) (beNat_take _ 4) (beNat_take _ 4) (beNat_take _ 4) [] (by simp)
  refine read_yes k_bfd (xs) [(xs.getD 0 0).toNat / 32, (xs.getD 0 0).toNat % 32, (xs.getD 1 0).toNat / 64, (xs.getD 1 0).toNat / 32 % 2, (xs.getD 1 0).toNat / 16 % 2, (xs.getD 1 0).toNat / 8 % 2, 0, (xs.getD 1 0).toNat / 2 % 2, (xs.getD 1 0).toNat % 2, (xs.getD 2 0).toNat, Lib.beNat ((xs.drop 4).take 4), Lib.beNat ((xs.drop 8).take 4), Lib.beNat ((xs.drop 12).take 4), Lib.beNat ((xs.drop 16).take 4), Lib.beNat ((xs.drop 20).take 4)] [] [] alive_ok (fun A n c w hs hnc hA => ?_) (fun A n c w hs hnc hA => ?_) (by simp) (by simp)
  · have hl := hs.len
    exact sread_bfd _ [(xs.getD 0 0).toNat / 32, (xs.getD 0 0).toNat % 32, (xs.getD 1 0).toNat / 64, (xs.getD 1 0).toNat / 32 % 2, (xs.getD 1 0).toNat / 16 % 2, (xs.getD 1 0).toNat / 8 % 2, 0, (xs.getD 1 0).toNat / 2 % 2, (xs.getD 1 0).toNat % 2, (xs.getD 2 0).toNat, Lib.beNat ((xs.drop 4).take 4), Lib.beNat ((xs.drop 8).take 4), Lib.beNat ((xs.drop 12).take 4), Lib.beNat ((xs.drop 16).take 4), Lib.beNat ((xs.drop 20).take 4)] [] [] (srd_bfd xs (by rw [hN, h24]) hz2 (by omega) (by omega)) A n c w hs (by omega) hnc (by omega)
  · have hl := hs.len
    exact iread_bfd _ [] _ [(xs.getD 0 0).toNat / 32, (xs.getD 0 0).toNat % 32, (xs.getD 1 0).toNat / 64, (xs.getD 1 0).toNat / 32 % 2, (xs.getD 1 0).toNat / 16 % 2, (xs.getD 1 0).toNat / 8 % 2, 0, (xs.getD 1 0).toNat / 2 % 2, (xs.getD 1 0).toNat % 2, (xs.getD 2 0).toNat, Lib.beNat ((xs.drop 4).take 4), Lib.beNat ((xs.drop 8).take 4), Lib.beNat ((xs.drop 12).take 4), Lib.beNat ((xs.drop 16).take 4), Lib.beNat ((xs.drop 20).take 4)] [] (dec_bfd xs h24 hN hz2 (by omega) (by omega)) hT A n c w hs hnc hA (by omega) (fun w _ => called_bfd A n c (by omega) w)
theorem kind_bfd (fix : Bool) : KindC k_bfd fix [3, 5, 2, 1, 1, 1, 1, 1, 1, 8, 32, 32, 32, 32, 32] [] (fun nums _ pay => (nums.getD 6 0) = 0 ∧ pay.length = 0) outBfd := by
  refine ⟨wid_bfd, by decide, by decide, by decide, fun i hi => ?_, fun i hi => absurd hi (by simp), swrite_bfd fix, ?_, ?_⟩
  · match i, hi with
    | 0, _ => decide
    | 1, _ => decide
    | 2, _ => decide
    | 3, _ => decide
    | 4, _ => decide
    | 5, _ => decide
    | 6, _ => decide
    | 7, _ => decide
    | 8, _ => decide
    | 9, _ => decide
    | 10, _ => decide
    | 11, _ => decide
    | 12, _ => decide
    | 13, _ => decide
    | 14, _ => decide
  · intro nums data pay hf hc
    have hn := hf.nN
    have hd := hf.nD
    match nums, hn, data, hd with
    | [n0, n1, n2, n3, n4, n5, n6, n7, n8, n9, n10, n11, n12, n13, n14], _, [], _ =>
    have h0 : n0 < 8 := hf.num 0 (by decide)
    have h1 : n1 < 32 := hf.num 1 (by decide)
    have h2 : n2 < 4 := hf.num 2 (by decide)
    have h3 : n3 < 2 := hf.num 3 (by decide)
    have h4 : n4 < 2 := hf.num 4 (by decide)
    have h5 : n5 < 2 := hf.num 5 (by decide)
    have h6 : n6 < 2 := hf.num 6 (by decide)
    have h7 : n7 < 2 := hf.num 7 (by decide)
    have h8 : n8 < 2 := hf.num 8 (by decide)
    have h9 : n9 < 256 := hf.num 9 (by decide)
    have h10 : n10 < 4294967296 := hf.num 10 (by decide)
    have h11 : n11 < 4294967296 := hf.num 11 (by decide)
    have h12 : n12 < 4294967296 := hf.num 12 (by decide)
    have h13 : n13 < 4294967296 := hf.num 13 (by decide)
    have h14 : n14 < 4294967296 := hf.num 14 (by decide)
    obtain ⟨e6, hpz⟩ := hc
    simp only [List.getD_cons_zero, List.getD_cons_succ] at e6
    subst e6
    intro v w hv
    exact iwrite_any k_bfd 125 166 fix [n0, n1, n2, n3, n4, n5, 0, n7, n8, n9, n10, n11, n12, n13, n14] [] pay _ _ (fun v w hv => made_bfd n0 n1 n2 n3 n4 n5 n7 n8 n9 n10 n11 n12 n13 n14 h0 h1 h2 h3 h4 h5 h7 h8 h9 h10 h11 h12 h13 h14 v pay w hv) (ser_bfd n0 n1 n2 n3 n4 n5 n7 n8 n9 n10 n11 n12 n13 n14 h0 h1 h2 h3 h4 h5 h7 h8 h9 h10 h11 h12 h13 h14 fix false pay hf.pay) ser_nil_bfd ser_method_bfd ser_enter_bfd
      (by decide) (fun k => by simp) hf.pay (by simp [bfdHdr, Lib.beBytes_length]) v w hv
  · intro nums data pay hf hc
    have hn := hf.nN
    have hd := hf.nD
    match nums, hn, data, hd with
    | [n0, n1, n2, n3, n4, n5, n6, n7, n8, n9, n10, n11, n12, n13, n14], _, [], _ =>
    have h0 : n0 < 8 := hf.num 0 (by decide)
    have h1 : n1 < 32 := hf.num 1 (by decide)
    have h2 : n2 < 4 := hf.num 2 (by decide)
    have h3 : n3 < 2 := hf.num 3 (by decide)
    have h4 : n4 < 2 := hf.num 4 (by decide)
    have h5 : n5 < 2 := hf.num 5 (by decide)
    have h6 : n6 < 2 := hf.num 6 (by decide)
    have h7 : n7 < 2 := hf.num 7 (by decide)
    have h8 : n8 < 2 := hf.num 8 (by decide)
    have h9 : n9 < 256 := hf.num 9 (by decide)
    have h10 : n10 < 4294967296 := hf.num 10 (by decide)
    have h11 : n11 < 4294967296 := hf.num 11 (by decide)
    have h12 : n12 < 4294967296 := hf.num 12 (by decide)
    have h13 : n13 < 4294967296 := hf.num 13 (by decide)
    have h14 : n14 < 4294967296 := hf.num 14 (by decide)
    obtain ⟨e6, hpz⟩ := hc
    simp only [List.getD_cons_zero, List.getD_cons_succ] at e6
    subst e6
    obtain ⟨a, ea, va⟩ := be1 (n0 * 32 + n1) (by omega)
    obtain ⟨b, eb, vb⟩ := be1 (n2 * 64 + n3 * 32 + n4 * 16 + n5 * 8 + n7 * 2 + n8) (by omega)
    obtain ⟨d, ed, vd⟩ := be1 24 (by omega)
    obtain ⟨m, em, vm⟩ := be1 n9 h9
    obtain ⟨rest, hr⟩ : ∃ rest, rest = Lib.beBytes 4 n10 ++ Lib.beBytes 4 n11 ++ Lib.beBytes 4 n12 ++ Lib.beBytes 4 n13 ++ Lib.beBytes 4 n14 := ⟨_, rfl⟩
    have hpy : pay = [] := List.eq_nil_of_length_eq_zero hpz
    have ex : outBfd [n0, n1, n2, n3, n4, n5, 0, n7, n8, n9, n10, n11, n12, n13, n14] [] pay = a :: b :: m :: d :: rest := by rw [hr, hpy]; simp [outBfd, bfdHdr, ea, eb, ed, em]
    have hl : rest.length = 20 := by rw [hr]; simp [Lib.beBytes_length]
    rw [ex]
    exact rtrue_bfd _ (by simp; omega) vd (by show b.toNat / 4 % 2 = 0; rw [vb]; omega)

set_option maxRecDepth 100000 in
set_option maxHeartbeats 4000000 in
theorem walk_bfd (AN AD AP AB : Option Addr) (cN cD nP cP cB : Nat) (ds : List Value) (nums : List Nat) (data : List (List UInt8)) (pay : List UInt8) (fix : Bool) (w : World)
    (hN : Sl w w.heap.size AN nums.length (ncs nums)) (hD : Sl w w.heap.size AD data.length ds) (hE : Each w w.heap.size ds data) (hP : AnyP w w.heap.size AP nP) (hB : Sl w w.heap.size AB pay.length (bcs pay))
    (hn64 : ∀ i, nums.getD i 0 < 2 ^ 64) (hdl : ∀ i, (data.getD i []).length ≤ maxLen) (hcN : nums.length ≤ cN) :
    Calls Tryz.prog 6 #[.agg #[.slice AN nums.length cN, .slice AD data.length cD, .slice AP nP cP, .slice AB pay.length cB], .bool fix] w fun e w' => e = .returned (.bool true) ∧ Below w.heap.size w w' := by
  refine calls_hid fun R hR => ?_
  have hv : AnyL w w.heap.size (.agg #[.slice AN nums.length cN, .slice AD data.length cD, .slice AP nP cP, .slice AB pay.length cB]) nums data nP pay := ⟨AN, cN, AD, cD, AP, cP, AB, cB, ds, rfl, hN, hD, hE, hB⟩
  have hAD : AnyD w w.heap.size AD data.length := fun h0 => by
    obtain ⟨g, o, rfl, hg, _⟩ := hD.2 h0
    refine ⟨g, o, rfl, hg, fun i hi => ?_⟩
    obtain ⟨P, c, h1, _⟩ := hD.each hE hi rfl
    exact ⟨P, _, c, h1⟩
  have HV := Lib.hid hv
  have HAD := Lib.hid hAD
  have HP := Lib.hid hP
  have HN := Lib.hid hn64
  have HDL := Lib.hid hdl
  clear hN hD hE hP hB hv hAD hn64 hdl
  go_enter Tryz.func6, Tryz.ntmps6
  go_wp2_with fail
  obtain ⟨W, hW⟩ : ∃ W, W = w.alloc (.cells #[.slice AN nums.length cN, .slice AD data.length cD, .slice AP nP cP, .slice AB pay.length cB] 27) := ⟨_, rfl⟩
  rw [← hW]
  have hbk : Bk W w.heap.size 27 [.slice AN nums.length cN, .slice AD data.length cD, .slice AP nP cP, .slice AB pay.length cB] := by rw [hW]; exact Bk.new _ _ _
  have hbe : Below w.heap.size w W := by rw [hW]; exact (Below.refl _ _).alloc (Nat.le_refl _) _
  clear hW
  refine (zf1 AN AD AP AB _ cN _ cD nP cP _ cB W ((HAD.out.below hbe).more hbe.size) ((HP.out.below hbe).more hbe.size)).mono ?_
  rintro e w1 ⟨⟨b, rfl⟩, hb1⟩
  have hbw : Below w.heap.size w w1 := hbe.trans (hb1.mono hbe.size)
  have hk1 := hbk.below hb1 hbk.lt
  have k0 := hk1.cell 0
  have k1 := hk1.cell 1
  have k2 := hk1.cell 2
  have k3 := hk1.cell 3
  simp only [List.getElem?_cons_zero, List.getElem?_cons_succ] at k0 k1 k2 k3
  have hv1 : AnyL w1 w1.heap.size (.agg #[.slice AN nums.length cN, .slice AD data.length cD, .slice AP nP cP, .slice AB pay.length cB]) nums data nP pay := by
    obtain ⟨AN, cN, AD, cD, AP, cP, AB, cB, ds, hv, h1, h2, h3, h4⟩ := HV.out
    exact ⟨AN, cN, AD, cD, AP, cP, AB, cB, ds, hv, (h1.below hbw).more hbw.size, (h2.below hbw).more hbw.size, (h3.below hbw).more hbw.size, (h4.below hbw).more hbw.size⟩
  have HBW := Lib.hid hbw
  have HV1 := Lib.hid hv1
  clear hbk hbe hb1 hbw hk1 hv1
  cases b
  · go_wp2_with fail
    exact hR.out _ _ ⟨rfl, HBW.out⟩
  · go_wp2_with fail
    refine (written_anyC (kind_bfd fix) alive_ok _ nums data nP pay w1 HV1.out hcN HN.out HDL.out).mono ?_
    rintro e w2 ⟨rfl, hb2⟩
    go_wp2_with fail
    exact hR.out _ _ ⟨rfl, HBW.out.trans (hb2.mono HBW.out.size)⟩

theorem own_bfd : ownKnob Tryz.prog.godebug = none := by kernel_rfl
theorem laidOut_bfd : laidOutB Tryz.prog = true := by kernel_rfl
set_option maxRecDepth 100000 in
theorem lifted_bfd (os : Os) (started : os.Started) (H : Type) (enc : TypeId × Value → H) :
    ReturnsInHanded {} Tryz.checked os 6 .any (Rows.fnWriteBfdSpec.pre6 enc Tryz.prog Tryz.f6 Rows.fnWriteBfdRow.domain false) (Rows.fnWriteBfdSpec.post enc Tryz.prog Tryz.f6 false true false false) := by
  refine returnsInHanded_of_change (C := Tryz.checked) own_bfd started (by kernel_rfl) Tryz.func6
    (ChangeSpec.witness6 (enc := enc) (C := Tryz.checked) false ⟨#[], #[.agg #[.slice none 0 0, .slice none 0 0, .slice none 0 0, .slice none 0 0], .bool false], []⟩ 8 (by kernel_rfl) (by kernel_rfl) (by kernel_rfl) (by kernel_rfl)) ?_
  intro W base args ds gs before hval0 hW hcnd _
  have hval : ∀ (j : Nat) t v, Tryz.f6.params[j]? = some t → args[j]? = some v → Value.okWide Tryz.prog W .any base t v := hval0
  have hW' := hW
  obtain ⟨p, q, hA0, hV, rfl, hfz, hnd⟩ := hW
  have hA : DataW.TrodAll enc Tryz.prog W 0 (fun _ => true) true Tryz.f6.params.toList args.toList ds p := hA0
  rw [Tryz.params6] at hA hval
  obtain ⟨v0, vs0, d0, ds0, p0, q0, hargs, rfl, rfl, h0, r0⟩ := trodAll_cons hA
  obtain ⟨v1, vs1, d1, ds1, p1, q1, rfl, rfl, rfl, h1, r1⟩ := trodAll_cons r0
  obtain ⟨rfl, rfl, rfl⟩ := trodAll_nil r1
  obtain rfl : args = #[v0, v1] := by cases args; simp_all
  obtain ⟨rfl, rfl⟩ := trodVars_none hV
  have k0 := h0
  have lt0 : ∀ x ∈ p0, x.block < W.heap.size := by obtain ⟨m, hm⟩ := k0; exact DataW.trod_lt m _ _ _ hm
  obtain ⟨c0, c1, c2, c3, y0, y1, y2, y3, m, rfl, _, _, g0, g1, g2, g3⟩ := open_agg4 Tryz.underlying27 (by kernel_rfl) cells27 (hval 0 27 v0 rfl rfl) h0
  obtain ⟨AN, nN, cN, nums, hy0, rfl, _, hn64, hN⟩ := open_nums g0
  have hcN : nums.length ≤ cN := by rw [hy0] at g0; exact open_cap g0
  subst hy0
  obtain ⟨AD, nD, cD, dss, data, rfl, rfl, _, hdl, hD, hE⟩ := open_data g1
  obtain ⟨AP, nP, cP, rfl, hP⟩ := open_parts g2
  obtain ⟨AB, nB, cB, pay, rfl, rfl, _, hB⟩ := open_bytes g3
  obtain ⟨x, rfl, rfl, rfl⟩ := open_bool Tryz.underlying4 (hval 1 4 v1 rfl rfl) h1
  clear hA0 hval0
  refine (walk_bfd AN AD AP AB cN cD nP cP cB dss nums data pay x W hN hD hE hP hB hn64 hdl hcN).mono fun e W' ⟨he, bel⟩ => ?_
  subst he
  exact ⟨_, rfl, _, _, _, [], _, [], hW', trodAll_mk1 (shut_bool Tryz.underlying4 _), (trodAll_cons_mk (Below.trod laidOut_bfd (by kernel_rfl) (of_decide_eq_true (by kernel_rfl)) k0 bel lt0) (trodAll_cons_mk (shut_bool Tryz.underlying4 x) trodAll_mk0)), rfl, bel.frame _, fun h => by cases h⟩

end Go.Proofs.YtphmklgbbpiafaaGreat
