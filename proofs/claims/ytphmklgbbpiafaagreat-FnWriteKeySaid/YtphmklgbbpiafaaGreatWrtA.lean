/-
  laws.written of a kind whose parts are known; the law's own frame. No condition.
-/
import Derived.Test.YtphmklgbbpiafaaGreatOutA
import Derived.Test.YtphmklgbbpiafaaGreatReadL
import Derived.Test.YtphmklgbbpiafaaGreatZfA
namespace Go.Proofs.YtphmklgbbpiafaaGreat
open Go Go.RowKit
set_option linter.unusedVariables false
set_option linter.unusedSimpArgs false
attribute [local go_sem] sd_drewN ad_drewN

/-- What the package's Write does. -/
def IWrite (S : ByteArray) (fix : Bool) (nums : List Nat) (data : List (List UInt8)) (pay ys : List UInt8) : Prop :=
  ∀ (v : Value) (w : World), Lyr w w.heap.size v nums data pay →
    Calls Tryz.prog 22 #[.string S, v, .bool fix, .bool false] w fun e w' => ∃ A n c, e = .returned (.tuple #[.slice A n c, .bool true]) ∧ Below w.heap.size w w' ∧ Sl w' w'.heap.size A n (bcs ys)
/-- All that the law of a kind rests on. -/
structure Kind (S : ByteArray) (fix : Bool) (bits sizes : List Nat) (C : List Nat → List (List UInt8) → List UInt8 → Prop) (out : List Nat → List (List UInt8) → List UInt8 → List UInt8) : Prop where
  wid : Wid S bits sizes
  b0 : 0 < bits.length
  b1 : bits.length ≤ 100
  s1 : sizes.length ≤ 100
  b2 : ∀ i, i < bits.length → bits.getD i 0 ≤ 64
  s2 : ∀ i, i < sizes.length → sizes.getD i 0 ≤ 300
  sw : SWrite S fix bits sizes C out
  iw : ∀ nums data pay, FitOK bits sizes nums data 0 pay → C nums data pay → IWrite S fix nums data pay (out nums data pay)
  rd : ∀ nums data pay, FitOK bits sizes nums data 0 pay → C nums data pay → RTrue S (out nums data pay)

set_option maxRecDepth 100000 in
set_option maxHeartbeats 4000000 in
theorem written_any {S : ByteArray} {fix : Bool} {bits sizes : List Nat} {C : List Nat → List (List UInt8) → List UInt8 → Prop} {out : List Nat → List (List UInt8) → List UInt8 → List UInt8} (K : Kind S fix bits sizes C out) (hA : Alive)
    (v : Value) (nums : List Nat) (data : List (List UInt8)) (nP : Nat) (pay : List UInt8) (w : World) (hv : AnyL w w.heap.size v nums data nP pay) (hn64 : ∀ i, nums.getD i 0 < 2 ^ 64) (hdl : ∀ i, (data.getD i []).length ≤ maxLen) :
    Calls Tryz.prog 17 #[.string S, v, .bool fix] w fun e w' => e = .returned (.bool true) ∧ Below w.heap.size w w' := by
  refine calls_hid fun R hR => ?_
  have hv' := hv
  obtain ⟨AN, cN, AD, cD, AP, cP, AB, cB, ds, rfl, hN, hD, hE, hP⟩ := hv
  clear hN hD hE hP
  have HV := Lib.hid hv'
  have HK := Lib.hid K
  have HA := Lib.hid hA
  have HN := Lib.hid hn64
  have HDL := Lib.hid hdl
  clear hv' K hA hn64 hdl
  obtain ⟨v, hvv⟩ : ∃ v, v = Value.agg #[.slice AN nums.length cN, .slice AD data.length cD, .slice AP nP cP, .slice AB pay.length cB] := ⟨_, rfl⟩
  rw [← hvv] at HV
  have HVV := Lib.hid hvv
  clear hvv
  go_enter Tryz.func17, Tryz.ntmps17
  go_wp2_with fail
  rw [← HVV.out]
  obtain ⟨W, hW⟩ : ∃ W, W = w.alloc (.cells #[.slice AN nums.length cN, .slice AD data.length cD, .slice AP nP cP, .slice AB pay.length cB] 27) := ⟨_, rfl⟩
  rw [← hW]
  have hbk : Bk W w.heap.size 27 [.slice AN nums.length cN, .slice AD data.length cD, .slice AP nP cP, .slice AB pay.length cB] := by rw [hW]; exact Bk.new _ _ _
  have hbe : Below w.heap.size w W := by rw [hW]; exact (Below.refl _ _).alloc (Nat.le_refl _) _
  have hsz : W.heap.size = w.heap.size + 1 := by rw [hW]; simp
  have hvW : AnyL W W.heap.size v nums data nP pay := by
    obtain ⟨AN, cN, AD, cD, AP, cP, AB, cB, ds, hv, h1, h2, h3, h4⟩ := HV.out
    exact ⟨AN, cN, AD, cD, AP, cP, AB, cB, ds, hv, (h1.below hbe).more hbe.size, (h2.below hbe).more hbe.size, (h3.below hbe).more hbe.size, (h4.below hbe).more hbe.size⟩
  have HBK := Lib.hid hbk
  have HBE := Lib.hid hbe
  have HSZ := Lib.hid hsz
  have HVW := Lib.hid hvW
  clear hW hbk hbe hsz hvW
  refine (fits_any S bits sizes HK.out.wid HK.out.b0 HK.out.b1 HK.out.s1 HK.out.b2 HK.out.s2 v nums data nP pay W HVW.out HN.out HDL.out).mono ?_
  rintro e w1 ⟨b, rfl, hb1, hfit⟩
  have HB1 := Lib.hid hb1
  have HFIT := Lib.hid hfit
  clear hb1 hfit
  have hlt := HBK.out.lt
  cases b
  · go_wp2_with fail
    exact hR.out _ _ ⟨rfl, HBE.out.trans (HB1.out.mono HBE.out.size)⟩
  · have hf := HFIT.out rfl
    obtain rfl := hf.nP
    have HF := Lib.hid hf
    clear hf
    have hk1 := HBK.out.below HB1.out hlt
    have k0 := hk1.cell 0
    have k1 := hk1.cell 1
    have k2 := hk1.cell 2
    have k3 := hk1.cell 3
    simp only [List.getElem?_cons_zero, List.getElem?_cons_succ] at k0 k1 k2 k3
    clear hk1
    go_wp2_with fail
    rw [← HVV.out]
    have hl1 : Lyr w1 w1.heap.size v nums data pay := (Lyr.below HVW.out.lyr HB1.out).more HB1.out.size
    refine (HK.out.sw nums data pay v w1 HF.out hl1).mono ?_
    rintro e w2 ⟨A, n, c, b, rfl, hb2, hC⟩
    have HB2 := Lib.hid hb2
    have HCC := Lib.hid hC
    clear hb2 hC hl1 k0 k1 k2 k3
    have hs1 := HB1.out.size
    have hs2 := HB2.out.size
    have hB2 : Below W.heap.size W w2 := HB1.out.trans (HB2.out.mono hs1)
    have HBW2 := Lib.hid hB2
    clear hB2
    cases b
    · go_wp2_with fail
      exact hR.out _ _ ⟨rfl, HBE.out.trans (HBW2.out.mono HBE.out.size)⟩
    · obtain ⟨hc, hnc, hAn, hsl⟩ := HCC.out rfl
      have HC := Lib.hid hc
      have HAN := Lib.hid hAn
      have HSL := Lib.hid hsl
      clear hc hAn hsl
      have hk2 := HBK.out.below HBW2.out hlt
      have k0 := hk2.cell 0
      have k1 := hk2.cell 1
      have k2 := hk2.cell 2
      have k3 := hk2.cell 3
      simp only [List.getElem?_cons_zero, List.getElem?_cons_succ] at k0 k1 k2 k3
      clear hk2
      go_wp2_with fail
      rw [← HVV.out]
      have hl2 : Lyr w2 w2.heap.size v nums data pay := (Lyr.below HVW.out.lyr HBW2.out).more HBW2.out.size
      refine (HK.out.iw nums data pay HF.out HC.out v w2 hl2).mono ?_
      rintro e w3 ⟨A3, n3, c3, rfl, hb3, hs3⟩
      have HB3 := Lib.hid hb3
      have HS3 := Lib.hid hs3
      have hnn : n3 = n := by
        have e1 := HSL.out.1
        have e2 := hs3.1
        omega
      subst hnn
      clear hb3 hs3 hl2 k0 k1 k2 k3
      go_wp2_with fail
      refine (bytesEq A3 A n3 c3 c w3.heap.size w2.heap.size _ w3 HS3.out (HSL.out.below HB3.out)).mono ?_
      rintro e w4 ⟨rfl, rfl⟩
      go_wp2_with fail
      refine (HK.out.rd nums data pay HF.out HC.out A n3 c w3 ((HSL.out.below HB3.out).more HB3.out.size) hnc HAN.out).mono ?_
      rintro e w5 ⟨rfl, hb5⟩
      have HB5 := Lib.hid hb5
      clear hb5
      go_wp2_with fail
      refine (HA.out w5).mono ?_
      rintro e w6 ⟨rfl, hb6⟩
      have HB6 := Lib.hid hb6
      clear hb6
      go_wp2_with fail
      have hs3 := HB3.out.size
      have hs5 := HB5.out.size
      have hs0 := HBE.out.size
      exact hR.out _ _ ⟨rfl, HBE.out.trans ((HBW2.out.mono hs0).trans ((HB3.out.mono (by omega)).trans ((HB5.out.mono (by omega)).trans (HB6.out.mono (by omega)))))⟩
end Go.Proofs.YtphmklgbbpiafaaGreat
