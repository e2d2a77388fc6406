/-
  spec.Fits of any layer that can be read: it tells whether the layer has the numbers and bytes of its kind. No condition.
-/
import Derived.Test.YtphmklgbbpiafaaGreatWidA
import Derived.Test.YtphmklgbbpiafaaGreatEqA
namespace Go.Proofs.YtphmklgbbpiafaaGreat
open Go Go.RowKit
set_option linter.unusedVariables false
attribute [local go_sem] sd_drewN ad_drewN

/-- The value v is a layer with these numbers, byte lists, so many parts, and this payload. -/
def AnyL (w : World) (B : Nat) (v : Value) (nums : List Nat) (data : List (List UInt8)) (nP : Nat) (pay : List UInt8) : Prop :=
  ∃ AN cN AD cD AP cP AB cB ds, v = Value.agg #[.slice AN nums.length cN, .slice AD data.length cD, .slice AP nP cP, .slice AB pay.length cB] ∧
    Sl w B AN nums.length (ncs nums) ∧ Sl w B AD data.length ds ∧ Each w B ds data ∧ Sl w B AB pay.length (bcs pay)
theorem AnyL.lyr {w : World} {B : Nat} {v : Value} {nums : List Nat} {data : List (List UInt8)} {pay : List UInt8} (h : AnyL w B v nums data 0 pay) : Lyr w B v nums data pay := h
/-- A layer fits these widths. -/
structure FitOK (bits sizes : List Nat) (nums : List Nat) (data : List (List UInt8)) (nP : Nat) (pay : List UInt8) : Prop where
  nP : nP = 0
  nN : nums.length = bits.length
  nD : data.length = sizes.length
  num : ∀ i, i < bits.length → nums.getD i 0 < 2 ^ bits.getD i 0
  dat : ∀ i, i < sizes.length → (0 < sizes.getD i 0 → (data.getD i []).length = sizes.getD i 0) ∧ (data.getD i []).length ≤ 300
  pay : pay.length ≤ 300

theorem Sl.int {w : World} {B g o n : Nat} {xs : List Nat} (hs : Sl w B (some ⟨g, o, none⟩) n (ics xs)) {k : Nat} (hk : k < n) :
    w.cell? ⟨g, o + k, none⟩ = some (.int .i64 (xs.getD k 0 : Nat)) := by
  have hl := hs.1
  rw [ics_length] at hl
  obtain ⟨_, hc⟩ := hs.at_ (by omega)
  refine hc k _ ?_
  rw [ics, List.getElem?_map, List.getElem?_eq_getElem (by omega)]
  simp [List.getD, List.getElem?_eq_getElem (show k < xs.length by omega)]
theorem Sl.each {w : World} {B g o n : Nat} {ds : List Value} {data : List (List UInt8)} (hs : Sl w B (some ⟨g, o, none⟩) n ds) (he : Each w B ds data) {k : Nat} (hk : k < n) (hn : n = data.length) :
    ∃ A c, w.cell? ⟨g, o + k, none⟩ = some (.slice A (data.getD k []).length c) ∧ Sl w B A (data.getD k []).length (bcs (data.getD k [])) := by
  obtain ⟨_, hc⟩ := hs.at_ (by omega)
  have e : data[k]? = some (data.getD k []) := by simp [List.getD, List.getElem?_eq_getElem (show k < data.length by omega)]
  obtain ⟨A, c, h1, h2⟩ := he.2 k _ e
  exact ⟨A, c, hc k _ h1, h2⟩

set_option maxRecDepth 100000 in
set_option maxHeartbeats 2000000 in
theorem fits_any (S : ByteArray) (bits sizes : List Nat) (hW : Wid S bits sizes) (hb0 : 0 < bits.length) (hbl : bits.length ≤ 100) (hsl : sizes.length ≤ 100)
    (hb : ∀ i, i < bits.length → bits.getD i 0 ≤ 64) (hz : ∀ i, i < sizes.length → sizes.getD i 0 ≤ 300)
    (v : Value) (nums : List Nat) (data : List (List UInt8)) (nP : Nat) (pay : List UInt8) (w : World) (hv : AnyL w w.heap.size v nums data nP pay) (hn64 : ∀ i, nums.getD i 0 < 2 ^ 64) (hdl : ∀ i, (data.getD i []).length ≤ maxLen) :
    Calls Tryz.prog 20 #[.string S, v] w fun e w' => ∃ b, e = .returned (.bool b) ∧ Below w.heap.size w w' ∧ (b = true → FitOK bits sizes nums data nP pay) := by
  refine calls_hid fun R hR => ?_
  obtain ⟨AN, cN, AD, cD, AP, cP, AB, cB, ds, rfl, hN, hD, hE, hP⟩ := hv
  obtain ⟨nN, hnN⟩ : ∃ n, n = nums.length := ⟨_, rfl⟩
  obtain ⟨nD, hnD⟩ : ∃ n, n = data.length := ⟨_, rfl⟩
  obtain ⟨nB, hnB⟩ : ∃ n, n = bits.length := ⟨_, rfl⟩
  obtain ⟨nS, hnS⟩ : ∃ n, n = sizes.length := ⟨_, rfl⟩
  obtain ⟨nY, hnY⟩ : ∃ n, n = pay.length := ⟨_, rfl⟩
  rw [← hnN] at hN
  rw [← hnD] at hD
  rw [← hnY] at hP
  rw [← hnN, ← hnD, ← hnY]
  rw [← hnB] at hb0 hbl
  rw [← hnS] at hsl
  have HB := Lib.hid hb
  have HZ := Lib.hid hz
  have HN64 := Lib.hid hn64
  have HDL := Lib.hid hdl
  clear hb hz hn64 hdl
  have HnN := Lib.hid hnN
  have HnD := Lib.hid hnD
  have HnB := Lib.hid hnB
  have HnS := Lib.hid hnS
  have HnY := Lib.hid hnY
  clear hnN hnD hnB hnS hnY
  have HNN := Lib.hid hN
  have HDD := Lib.hid hD
  have HEE := Lib.hid hE
  clear hN hD hE hP
  by_cases hfit : nN = nB ∧ nD = nS ∧ nP = 0
  · obtain ⟨rfl, rfl, rfl⟩ := hfit
    have g1 : ((nN : Int) == 0) = false := by simp; omega
    go_enter Tryz.func20, Tryz.ntmps20
    go_wp2_with fail
    refine (hW _).mono ?_
    rintro e w1 ⟨A, cA, C, cC, rfl, hbel, hsA, hsC⟩
    have e1 : bits.length = nN := HnB.out.symm
    have e2 : sizes.length = nD := HnS.out.symm
    rw [e1] at hsA ⊢
    rw [e2] at hsC ⊢
    clear e1 e2
    have hbk : Bk w1 w.heap.size 27 [.slice AN nN cN, .slice AD nD cD, .slice AP 0 cP, .slice AB nY cB] := (Bk.new w 27 _).below hbel (by simp)
    have hbe0 : Below w.heap.size w w1 := ((Below.refl _ w).alloc (Nat.le_refl _) _).trans (hbel.mono (by simp))
    have k0 := hbk.cell 0
    have k1 := hbk.cell 1
    have k2 := hbk.cell 2
    have k3 := hbk.cell 3
    simp only [List.getElem?_cons_zero, List.getElem?_cons_succ] at k0 k1 k2 k3
    have HA := Lib.hid hsA
    have HC := Lib.hid hsC
    have HB0 := Lib.hid hbe0
    have HNN1 := Lib.hid (HNN.out.below hbe0)
    have HDD1 := Lib.hid (HDD.out.below hbe0)
    have HEE1 := Lib.hid (HEE.out.below hbe0)
    clear hsA hsC hbel hbk hbe0
    go_wp2_with fail
    go_loop [43] (fun i => ∃ k : Nat, k ≤ nN ∧ i = .int .i64 k ∧ ∀ j, j < k → nums.getD j 0 < 2 ^ bits.getD j 0) (fun i => nN - (intOf i).toNat)
    case atStart => exact ⟨0, by omega, rfl, fun j hj => absurd hj (by omega)⟩
    case round =>
      obtain ⟨k, hk, rfl, hrel⟩ := hrel
      have HR := Lib.hid hrel
      clear hrel
      by_cases hlt : k < nN
      · obtain ⟨g, o, rfl, _, _⟩ := HA.out.2 (by omega)
        obtain ⟨g', o', rfl, _, _⟩ := HNN1.out.2 (by omega)
        have c1 := HA.out.int hlt
        have c2 := HNN1.out.num hlt
        have hb := HB.out k (by have := HnB.out; omega)
        have h64 := HN64.out k
        obtain ⟨b, hbb⟩ : ∃ b, b = bits.getD k 0 := ⟨_, rfl⟩
        obtain ⟨x, hxx⟩ : ∃ x, x = nums.getD k 0 := ⟨_, rfl⟩
        rw [← hbb] at c1 hb
        rw [← hxx] at c2 h64
        have HBB := Lib.hid hbb
        have HXX := Lib.hid hxx
        clear hbb hxx
        by_cases hx : x < 2 ^ b
        · have HX := Lib.hid hx
          have h3 : ((x : Int) / 2 ^ b != 0) = false := by
            have h : x / 2 ^ b = 0 := Nat.div_eq_of_lt hx
            have : ((x / 2 ^ b : Nat) : Int) = 0 := by rw [h]; rfl
            simpa using this
          clear hx h64
          by_cases hb64 : b < 64
          · have g2 : decide ((b : Int) < 64) = true := by simp; omega
            go_wp2
            go_round
            case rel => exact ⟨k + 1, by omega, by go_num, fun j hj => by
              rcases Nat.lt_succ_iff_lt_or_eq.1 hj with h | rfl
              · exact HR.out j h
              · rw [← HBB.out, ← HXX.out]; exact HX.out⟩
            case measure => simp [intOf]; omega
          · obtain rfl : b = 64 := by omega
            go_wp2
            go_round
            case rel => exact ⟨k + 1, by omega, by go_num, fun j hj => by
              rcases Nat.lt_succ_iff_lt_or_eq.1 hj with h | rfl
              · exact HR.out j h
              · rw [← HBB.out, ← HXX.out]; exact HX.out⟩
            case measure => simp [intOf]; omega
        · have hb64 : b < 64 := by
            rcases Nat.lt_or_ge b 64 with h | h
            · exact h
            · obtain rfl : b = 64 := by omega
              exact absurd h64 hx
          have g2 : decide ((b : Int) < 64) = true := by simp; omega
          have h3 : ((x : Int) / 2 ^ b != 0) = true := by
            have h : 0 < x / 2 ^ b := Nat.div_pos (by omega) (Nat.two_pow_pos b)
            have h2 : ((x / 2 ^ b : Nat) : Int) ≠ 0 := by omega
            simpa using h2
          clear hx h64
          go_wp2
          exact hR.out _ _ ⟨false, rfl, HB0.out, fun h => by cases h⟩
      · obtain rfl : k = nN := by omega
        go_wp2_with fail
        go_loop [63] (fun i => ∃ k : Nat, k ≤ nD ∧ i = .int .i64 k ∧ ∀ j, j < k → (0 < sizes.getD j 0 → (data.getD j []).length = sizes.getD j 0) ∧ (data.getD j []).length ≤ 300) (fun i => nD - (intOf i).toNat)
        case atStart => exact ⟨0, by omega, rfl, fun j hj => absurd hj (by omega)⟩
        case round =>
          obtain ⟨k2, hk2, rfl, hrel2⟩ := hrel
          have HR2 := Lib.hid hrel2
          clear hrel2
          by_cases hlt2 : k2 < nD
          · obtain ⟨g, o, rfl, _, _⟩ := HC.out.2 (by omega)
            obtain ⟨g', o', rfl, _, _⟩ := HDD1.out.2 (by omega)
            have c1 := HC.out.int hlt2
            obtain ⟨A2, c2', c2, _⟩ := HDD1.out.each HEE1.out hlt2 HnD.out
            have hz := HZ.out k2 (by have := HnS.out; omega)
            have hdl := HDL.out k2
            unfold maxLen at hdl
            obtain ⟨b, hbb⟩ : ∃ b, b = sizes.getD k2 0 := ⟨_, rfl⟩
            obtain ⟨x, hxx⟩ : ∃ x, x = (data.getD k2 []).length := ⟨_, rfl⟩
            rw [← hbb] at c1 hz
            rw [← hxx] at c2 hdl
            have HBB := Lib.hid hbb
            have HXX := Lib.hid hxx
            clear hbb hxx
            by_cases hb0 : b = 0
            · subst hb0
              by_cases hx : x ≤ 300
              · have g2 : decide ((300 : Int) < (x : Int)) = false := by simp; omega
                go_wp2
                go_round
                case rel => exact ⟨k2 + 1, by omega, by go_num, fun j hj => by
                  rcases Nat.lt_succ_iff_lt_or_eq.1 hj with h | rfl
                  · exact HR2.out j h
                  · rw [← HBB.out, ← HXX.out]; exact ⟨fun h => absurd h (by omega), hx⟩⟩
                case measure => simp [intOf]; omega
              · have g2 : decide ((300 : Int) < (x : Int)) = true := by simp; omega
                go_wp2
                exact hR.out _ _ ⟨false, rfl, HB0.out, fun h => by cases h⟩
            · have g1 : decide ((0 : Int) < (b : Int)) = true := by simp; omega
              by_cases hxb : x = b
              · subst hxb
                have g2 : decide ((300 : Int) < (x : Int)) = false := by simp; omega
                go_wp2
                go_round
                case rel => exact ⟨k2 + 1, by omega, by go_num, fun j hj => by
                  rcases Nat.lt_succ_iff_lt_or_eq.1 hj with h | rfl
                  · exact HR2.out j h
                  · rw [← HBB.out, ← HXX.out]; exact ⟨fun _ => rfl, by omega⟩⟩
                case measure => simp [intOf]; omega
              · have g3 : ((x : Int) != (b : Int)) = true := by simp; omega
                go_wp2
                exact hR.out _ _ ⟨false, rfl, HB0.out, fun h => by cases h⟩
          · obtain rfl : k2 = nD := by omega
            go_wp2_with fail
            go_wp2
            exact hR.out _ _ ⟨decide ((nY : Int) ≤ 300), rfl, HB0.out, fun h => ⟨rfl, by rw [← HnN.out, HnB.out], by rw [← HnD.out, HnS.out], fun i hi => HR.out i (by have := HnB.out; omega), fun i hi => HR2.out i (by have := HnS.out; omega), by rw [← HnY.out]; have := of_decide_eq_true h; omega⟩⟩
  · by_cases a1 : nN = nB
    · subst a1
      by_cases a2 : nD = nS
      · subst a2
        have g3 : 0 < nP := by omega
        clear hfit
        go_enter Tryz.func20, Tryz.ntmps20
        go_wp2_with fail
        refine (hW _).mono ?_
        rintro e w1 ⟨A, cA, C, cC, rfl, hbel, hsA, hsC⟩
        have e1 : bits.length = nN := HnB.out.symm
        have e2 : sizes.length = nD := HnS.out.symm
        rw [e1, e2]
        clear e1 e2
        have hbk : Bk w1 w.heap.size 27 [.slice AN nN cN, .slice AD nD cD, .slice AP nP cP, .slice AB nY cB] := (Bk.new w 27 _).below hbel (by simp)
        have hbe0 : Below w.heap.size w w1 := ((Below.refl _ w).alloc (Nat.le_refl _) _).trans (hbel.mono (by simp))
        have k0 := hbk.cell 0
        have k1 := hbk.cell 1
        have k2 := hbk.cell 2
        have k3 := hbk.cell 3
        simp only [List.getElem?_cons_zero, List.getElem?_cons_succ] at k0 k1 k2 k3
        have HB0 := Lib.hid hbe0
        clear hsA hsC hbel hbk hbe0
        go_wp2
        exact hR.out _ _ ⟨false, rfl, HB0.out, fun h => by cases h⟩
      · have g2 : ((nD : Int) != (nS : Int)) = true := by simp; omega
        clear hfit a2
        go_enter Tryz.func20, Tryz.ntmps20
        go_wp2_with fail
        refine (hW _).mono ?_
        rintro e w1 ⟨A, cA, C, cC, rfl, hbel, hsA, hsC⟩
        have e1 : bits.length = nN := HnB.out.symm
        have e2 : sizes.length = nS := HnS.out.symm
        rw [e1, e2]
        clear e1 e2
        have hbk : Bk w1 w.heap.size 27 [.slice AN nN cN, .slice AD nD cD, .slice AP nP cP, .slice AB nY cB] := (Bk.new w 27 _).below hbel (by simp)
        have hbe0 : Below w.heap.size w w1 := ((Below.refl _ w).alloc (Nat.le_refl _) _).trans (hbel.mono (by simp))
        have k0 := hbk.cell 0
        have k1 := hbk.cell 1
        have k2 := hbk.cell 2
        have k3 := hbk.cell 3
        simp only [List.getElem?_cons_zero, List.getElem?_cons_succ] at k0 k1 k2 k3
        have HB0 := Lib.hid hbe0
        clear hsA hsC hbel hbk hbe0
        go_wp2
        exact hR.out _ _ ⟨false, rfl, HB0.out, fun h => by cases h⟩
    · have g1 : ((nN : Int) != (nB : Int)) = true := by simp; omega
      clear hfit a1
      go_enter Tryz.func20, Tryz.ntmps20
      go_wp2_with fail
      refine (hW _).mono ?_
      rintro e w1 ⟨A, cA, C, cC, rfl, hbel, hsA, hsC⟩
      have e1 : bits.length = nB := HnB.out.symm
      have e2 : sizes.length = nS := HnS.out.symm
      rw [e1, e2]
      clear e1 e2
      have hbk : Bk w1 w.heap.size 27 [.slice AN nN cN, .slice AD nD cD, .slice AP nP cP, .slice AB nY cB] := (Bk.new w 27 _).below hbel (by simp)
      have hbe0 : Below w.heap.size w w1 := ((Below.refl _ w).alloc (Nat.le_refl _) _).trans (hbel.mono (by simp))
      have k0 := hbk.cell 0
      have k1 := hbk.cell 1
      have k2 := hbk.cell 2
      have k3 := hbk.cell 3
      simp only [List.getElem?_cons_zero, List.getElem?_cons_succ] at k0 k1 k2 k3
      have HB0 := Lib.hid hbe0
      clear hsA hsC hbel hbk hbe0
      go_wp2
      exact hR.out _ _ ⟨false, rfl, HB0.out, fun h => by cases h⟩
end Go.Proofs.YtphmklgbbpiafaaGreat
