/-
  laws.read of bytes that both sides read alike. No condition.
-/
import Derived.Test.YtphmklgbbpiafaaGreatSameA
import Derived.Test.YtphmklgbbpiafaaGreatDecA
namespace Go.Proofs.YtphmklgbbpiafaaGreat
open Go Go.RowKit
set_option linter.unusedVariables false
set_option linter.unusedSimpArgs false
attribute [local go_sem] sd_drewN ad_drewN

/-- The package reads these bytes as this layer. -/
def IRead (S : ByteArray) (xs : List UInt8) (nums : List Nat) (data : List (List UInt8)) (pay : List UInt8) : Prop :=
  ∀ (A : Option Addr) (n c : Nat) (w : World), Sl w w.heap.size A n (bcs xs) → n ≤ c → (A = none → n = 0) →
    Calls Tryz.prog 34 #[.string S, .slice A n c] w fun e w' => ∃ v, e = .returned (.tuple #[v, .bool true]) ∧ Below w.heap.size w w' ∧ Lyr w' w'.heap.size v nums data pay
/-- The reference reads these bytes as this layer. -/
def SRead (S : ByteArray) (xs : List UInt8) (nums : List Nat) (data : List (List UInt8)) (pay : List UInt8) : Prop :=
  ∀ (A : Option Addr) (n c : Nat) (w : World), Sl w w.heap.size A n (bcs xs) → n ≤ c → (A = none → n = 0) →
    Calls Tryz.prog 33 #[.string S, .slice A n c] w fun e w' => ∃ v, e = .returned (.tuple #[v, .bool true, .bool true]) ∧ Below w.heap.size w w' ∧ Lyr w' w'.heap.size v nums data pay
/-- A label is read. -/
def Alive : Prop := ∀ w : World, Calls Tryz.prog 25 #[] w fun e w' => e = .returned (.bool true) ∧ Below w.heap.size w w'
/-- What laws.read says of these bytes. -/
def RTrue (S : ByteArray) (xs : List UInt8) : Prop :=
  ∀ (A : Option Addr) (n c : Nat) (w : World), Sl w w.heap.size A n (bcs xs) → n ≤ c → (A = none → n = 0) →
    Calls Tryz.prog 24 #[.string S, .slice A n c] w fun e w' => e = .returned (.bool true) ∧ Below w.heap.size w w'

theorem Lyr.slices {w : World} {B : Nat} {v : Value} {nums : List Nat} {data : List (List UInt8)} {pay : List UInt8} (h : Lyr w B v nums data pay) :
    ∃ AN aN cN AD aD cD AP cP AB aB cB, v = .agg #[.slice AN aN cN, .slice AD aD cD, .slice AP 0 cP, .slice AB aB cB] := by
  obtain ⟨AN, cN, AD, cD, AP, cP, AB, cB, ds, hv, _⟩ := h
  exact ⟨_, _, _, _, _, _, _, _, _, _, _, hv⟩

set_option maxRecDepth 100000 in
set_option maxHeartbeats 4000000 in
theorem read_yes (S : ByteArray) (xs : List UInt8) (nums : List Nat) (data : List (List UInt8)) (pay : List UInt8) (hA : Alive) (hS : SRead S xs nums data pay) (hI : IRead S xs nums data pay) (hn : nums.length ≤ 1000) (hd : data.length ≤ 1000) : RTrue S xs := by
  intro A n c w hs hnc hAn
  refine calls_hid fun R hR => ?_
  have HSL := Lib.hid hs
  have HA := Lib.hid hA
  have HS := Lib.hid hS
  have HI := Lib.hid hI
  have HAN := Lib.hid hAn
  clear hs hA hS hI hAn
  go_enter Tryz.func24, Tryz.ntmps24
  go_wp2_with fail
  refine (HS.out A n c w HSL.out hnc HAN.out).mono ?_
  rintro e w1 ⟨v, rfl, hb1, hl1⟩
  obtain ⟨AN, aN, cN, AD, aD, cD, AP, cP, AB, aB, cB, hv⟩ := hl1.slices
  subst hv
  have HB1 := Lib.hid hb1
  have HL1 := Lib.hid hl1
  clear hb1 hl1
  by_cases h4 : n ≤ 400
  · have t4 : decide ((400 : Int) < (n : Int)) = false := by simp; omega
    go_wp2_with fail
    obtain ⟨W1, hW1⟩ : ∃ W, W = w1.alloc (.cells #[.slice AN aN cN, .slice AD aD cD, .slice AP 0 cP, .slice AB aB cB] 27) := ⟨_, rfl⟩
    rw [← hW1]
    have hx1 : Bk W1 w1.heap.size 27 [.slice AN aN cN, .slice AD aD cD, .slice AP 0 cP, .slice AB aB cB] := by rw [hW1]; exact Bk.new _ _ _
    have hbe1 : Below w1.heap.size w1 W1 := by rw [hW1]; exact (Below.refl _ _).alloc (Nat.le_refl _) _
    have hsz1 : W1.heap.size = w1.heap.size + 1 := by rw [hW1]; simp
    have HX1 := Lib.hid hx1
    have HBE1 := Lib.hid hbe1
    have HSZ1 := Lib.hid hsz1
    clear hW1 hx1 hbe1 hsz1
    have hlw : Below w.heap.size w W1 := HB1.out.trans (HBE1.out.mono HB1.out.size)
    refine (HI.out A n c W1 ((HSL.out.below hlw).more hlw.size) hnc HAN.out).mono ?_
    rintro e w2 ⟨v2, rfl, hb2, hl2⟩
    obtain ⟨AN', aN', cN', AD', aD', cD', AP', cP', AB', aB', cB', hv2⟩ := hl2.slices
    subst hv2
    have hx2 := HX1.out.below hb2 HX1.out.lt
    have c0 := hx2.cell 0
    have c1 := hx2.cell 1
    have c2 := hx2.cell 2
    have c3 := hx2.cell 3
    simp only [List.getElem?_cons_zero, List.getElem?_cons_succ] at c0 c1 c2 c3
    have hlt2 := hx2.lt
    have HB2 := Lib.hid hb2
    have HL2 := Lib.hid hl2
    have HLW := Lib.hid hlw
    clear hx2 hb2 hl2 hlw
    go_wp2_with fail
    have hla : Lyr (w2.alloc (.cells #[.slice AN' aN' cN', .slice AD' aD' cD', .slice AP' 0 cP', .slice AB' aB' cB'] 27)) (w2.alloc (.cells #[.slice AN' aN' cN', .slice AD' aD' cD', .slice AP' 0 cP', .slice AB' aB' cB'] 27)).heap.size (.agg #[.slice AN' aN' cN', .slice AD' aD' cD', .slice AP' 0 cP', .slice AB' aB' cB']) nums data pay :=
      (HL2.out.below ((Below.refl _ _).alloc (Nat.le_refl _) _)).more (by simp)
    have hlb : Lyr (w2.alloc (.cells #[.slice AN' aN' cN', .slice AD' aD' cD', .slice AP' 0 cP', .slice AB' aB' cB'] 27)) (w2.alloc (.cells #[.slice AN' aN' cN', .slice AD' aD' cD', .slice AP' 0 cP', .slice AB' aB' cB'] 27)).heap.size (.agg #[.slice AN aN cN, .slice AD aD cD, .slice AP 0 cP, .slice AB aB cB]) nums data pay :=
      (((HL1.out.below HBE1.out).below (HB2.out.mono HBE1.out.size)).below ((Below.refl _ _).alloc (by have := HBE1.out.size; have := HB2.out.size; omega) _)).more (by have := HBE1.out.size; have := HB2.out.size; simp; omega)
    refine (same_any _ _ nums data pay _ hn hd hla hlb).mono ?_
    rintro e w3 ⟨rfl, hb3⟩
    have HB3 := Lib.hid hb3
    clear hb3 hla hlb
    go_wp2_with fail
    refine (HA.out w3).mono ?_
    rintro e w4 ⟨rfl, hb4⟩
    have HB4 := Lib.hid hb4
    clear hb4
    go_wp2_with fail
    have s1 := HLW.out.size
    have s2 := HB2.out.size
    have s3 := HB3.out.size
    simp only [World.size_alloc] at s3
    exact hR.out _ _ ⟨rfl, HLW.out.trans ((HB2.out.mono s1).trans (((Below.refl _ _).alloc (by omega) _).trans ((HB3.out.mono (by simp; omega)).trans (HB4.out.mono (by omega)))))⟩
  · have t4 : decide ((400 : Int) < (n : Int)) = true := by simp; omega
    go_wp2_with fail
    exact hR.out _ _ ⟨rfl, HB1.out.alloc HB1.out.size _⟩
end Go.Proofs.YtphmklgbbpiafaaGreat
