/-
  What a reader that refuses does, told as one contract; laws.read of bytes that both sides refuse. No condition.
-/
import Derived.Test.YtphmklgbbpiafaaGreatSrdA
import Derived.Test.YtphmklgbbpiafaaGreatReadL
namespace Go.Proofs.YtphmklgbbpiafaaGreat
open Go Go.RowKit
set_option linter.unusedVariables false
set_option linter.unusedSimpArgs false
attribute [local go_sem] sd_drewN ad_drewN
/-- the empty layer -/
def lyr0 : Value := .agg #[.slice none 0 0, .slice none 0 0, .slice none 0 0, .slice none 0 0]
/-- Function f refuses these bytes, and says so. -/
def SrdNo (f : FuncId) (xs : List UInt8) : Prop :=
  ∀ (A : Option Addr) (n c B0 : Nat) (w : World), Sl w B0 A n (bcs xs) → B0 ≤ w.heap.size → n ≤ c →
    Calls Tryz.prog f #[.slice A n c] w fun e w' => e = .returned (.tuple #[.agg #[.slice none 0 0, .slice none 0 0, .slice none 0 0, .slice none 0 0], .bool false, .bool true]) ∧ Below w.heap.size w w'
/-- Function f says nothing of these bytes. -/
def SrdOpen (f : FuncId) (xs : List UInt8) : Prop :=
  ∀ (A : Option Addr) (n c B0 : Nat) (w : World), Sl w B0 A n (bcs xs) → B0 ≤ w.heap.size → n ≤ c →
    Calls Tryz.prog f #[.slice A n c] w fun e w' => ∃ AN aN cN AD aD cD AP aP cP AB aB cB b, e = .returned (.tuple #[.agg #[.slice AN aN cN, .slice AD aD cD, .slice AP aP cP, .slice AB aB cB], .bool b, .bool false]) ∧ Below w.heap.size w w'
/-- The reference refuses these bytes, and says so. -/
def SReadNo (S : ByteArray) (xs : List UInt8) : Prop :=
  ∀ (A : Option Addr) (n c : Nat) (w : World), Sl w w.heap.size A n (bcs xs) → n ≤ c → (A = none → n = 0) →
    Calls Tryz.prog 33 #[.string S, .slice A n c] w fun e w' => e = .returned (.tuple #[.agg #[.slice none 0 0, .slice none 0 0, .slice none 0 0, .slice none 0 0], .bool false, .bool true]) ∧ Below w.heap.size w w'
/-- The reference says nothing of these bytes. -/
def SReadOpen (S : ByteArray) (xs : List UInt8) : Prop :=
  ∀ (A : Option Addr) (n c : Nat) (w : World), Sl w w.heap.size A n (bcs xs) → n ≤ c → (A = none → n = 0) →
    Calls Tryz.prog 33 #[.string S, .slice A n c] w fun e w' => ∃ AN aN cN AD aD cD AP aP cP AB aB cB b, e = .returned (.tuple #[.agg #[.slice AN aN cN, .slice AD aD cD, .slice AP aP cP, .slice AB aB cB], .bool b, .bool false]) ∧ Below w.heap.size w w'
/-- The package refuses these bytes. -/
def IReadNo (S : ByteArray) (xs : List UInt8) : Prop :=
  ∀ (A : Option Addr) (n c : Nat) (w : World), Sl w w.heap.size A n (bcs xs) → n ≤ c → (A = none → n = 0) →
    Calls Tryz.prog 34 #[.string S, .slice A n c] w fun e w' => e = .returned (.tuple #[.agg #[.slice none 0 0, .slice none 0 0, .slice none 0 0, .slice none 0 0], .bool false]) ∧ Below w.heap.size w w'
set_option maxRecDepth 100000 in
set_option maxHeartbeats 4000000 in
theorem read_no (S : ByteArray) (xs : List UInt8) (hA : Alive) (hS : SReadNo S xs) (hI : IReadNo S xs) : RTrue S xs := by
  intro A n c w hs hnc hAn
  refine calls_hid fun R hR => ?_
  have HSL := Lib.hid hs
  have HA := Lib.hid hA
  have HS := Lib.hid hS
  have HI := Lib.hid hI
  have HAN := Lib.hid hAn
  clear hs hA hS hI hAn
  go_enter Tryz.func24, Tryz.ntmps24
  go_wp2_with fail
  refine (HS.out A n c w HSL.out hnc HAN.out).mono ?_
  rintro e w1 ⟨rfl, hb1⟩
  have HB1 := Lib.hid hb1
  clear hb1
  by_cases h4 : n ≤ 400
  · have t4 : decide ((400 : Int) < (n : Int)) = false := by simp; omega
    go_wp2_with fail
    obtain ⟨W1, hW1⟩ : ∃ W, W = w1.alloc (.cells #[.slice none 0 0, .slice none 0 0, .slice none 0 0, .slice none 0 0] 27) := ⟨_, rfl⟩
    rw [← hW1]
    have hbe1 : Below w1.heap.size w1 W1 := by rw [hW1]; exact (Below.refl _ _).alloc (Nat.le_refl _) _
    have HBE1 := Lib.hid hbe1
    clear hW1 hbe1
    have hlw : Below w.heap.size w W1 := HB1.out.trans (HBE1.out.mono HB1.out.size)
    refine (HI.out A n c W1 ((HSL.out.below hlw).more hlw.size) hnc HAN.out).mono ?_
    rintro e w2 ⟨rfl, hb2⟩
    have HB2 := Lib.hid hb2
    have HLW := Lib.hid hlw
    clear hb2 hlw
    go_wp2_with fail
    refine (HA.out _).mono ?_
    rintro e w4 ⟨rfl, hb4⟩
    have HB4 := Lib.hid hb4
    clear hb4
    go_wp2_with fail
    have s1 := HLW.out.size
    have s2 := HB2.out.size
    have s4 := HB4.out.size
    exact hR.out _ _ ⟨rfl, HLW.out.trans ((HB2.out.mono s1).trans (((Below.refl _ _).alloc (by omega) _).trans (HB4.out.mono (by simp; omega))))⟩
  · have t4 : decide ((400 : Int) < (n : Int)) = true := by simp; omega
    go_wp2_with fail
    exact hR.out _ _ ⟨rfl, HB1.out.alloc HB1.out.size _⟩
set_option maxRecDepth 100000 in
set_option maxHeartbeats 4000000 in
theorem read_open (S : ByteArray) (xs : List UInt8) (hS : SReadOpen S xs) : RTrue S xs := by
  intro A n c w hs hnc hAn
  refine calls_hid fun R hR => ?_
  have HSL := Lib.hid hs
  have HS := Lib.hid hS
  have HAN := Lib.hid hAn
  clear hs hS hAn
  go_enter Tryz.func24, Tryz.ntmps24
  go_wp2_with fail
  refine (HS.out A n c w HSL.out hnc HAN.out).mono ?_
  rintro e w1 ⟨AN, aN, cN, AD, aD, cD, AP, aP, cP, AB, aB, cB, b, rfl, hb1⟩
  have HB1 := Lib.hid hb1
  clear hb1
  by_cases h4 : n ≤ 400
  · have t4 : decide ((400 : Int) < (n : Int)) = false := by simp; omega
    go_wp2_with fail
    exact hR.out _ _ ⟨rfl, HB1.out.alloc HB1.out.size _⟩
  · have t4 : decide ((400 : Int) < (n : Int)) = true := by simp; omega
    go_wp2_with fail
    exact hR.out _ _ ⟨rfl, HB1.out.alloc HB1.out.size _⟩
set_option maxRecDepth 1000000 in
set_option maxHeartbeats 10000000 in
/-- impl.Read where impl.decoded refuses. -/
theorem iread_no_any (S : ByteArray) (xs : List UInt8) (hD : ∀ (A : Option Addr) (n c : Nat) (w : World), Sl w w.heap.size A n (bcs xs) → n ≤ c → (A = none → n = 0) →
    Calls Tryz.prog 58 #[.string S, .slice A n c] w fun e w' => e = .returned (.tuple #[.nilIface, .bool false]) ∧ Below w.heap.size w w') : IReadNo S xs := by
  intro A n c w hs hnc hA
  refine calls_hid fun R hR => ?_
  have hs0 := (hs.below ((Below.refl _ w).alloc (Nat.le_refl _) (.cells #[.slice none 0 0, .slice none 0 0, .slice none 0 0, .slice none 0 0] 27))).more (B' := (w.alloc (.cells #[.slice none 0 0, .slice none 0 0, .slice none 0 0, .slice none 0 0] 27)).heap.size) (by simp)
  have HD := Lib.hid (hD A n c _ hs0 hnc hA)
  clear hs hs0 hD hA
  go_enter Tryz.func34, Tryz.ntmps34
  go_wp2_with fail
  refine HD.out.mono ?_
  rintro e w1 ⟨rfl, hb1⟩
  have hres := (Bk.new w 27 [.slice none 0 0, .slice none 0 0, .slice none 0 0, .slice none 0 0]).below hb1 (by simp)
  have hbw : Below w.heap.size w w1 := ((Below.refl _ w).alloc (Nat.le_refl _) _).trans (hb1.mono (by simp))
  have k0 := hres.cell 0
  have k1 := hres.cell 1
  have k2 := hres.cell 2
  have k3 := hres.cell 3
  have f0 := hres.frozen 0
  have f1 := hres.frozen 1
  have f2 := hres.frozen 2
  have f3 := hres.frozen 3
  simp only [List.getElem?_cons_zero, List.getElem?_cons_succ] at k0 k1 k2 k3
  have HRES := Lib.hid hres
  have HB := Lib.hid hbw
  clear hres hbw hb1
  go_wp2_with fail
  obtain ⟨z0, z1, z2, z3⟩ := set4_cells HRES.out (.slice none 0 0) (.slice none 0 0) (.slice none 0 0) (.slice none 0 0)
  have hfb := set4_below HB.out w.heap.size (Nat.le_refl _) (.slice none 0 0) (.slice none 0 0) (.slice none 0 0) (.slice none 0 0)
  exact bodyPost_ret (v := .tuple #[.agg #[.slice none 0 0, .slice none 0 0, .slice none 0 0, .slice none 0 0], .bool false]) (by simp [results, Tryz.results34, go_sem, z0, z1, z2, z3]) rfl (hR.out _ _ ⟨rfl, hfb⟩)
end Go.Proofs.YtphmklgbbpiafaaGreat
