/-
  laws.zzFits1 of any layer that can be read: it returns. No condition.
-/
import Derived.Test.YtphmklgbbpiafaaGreatFitA
namespace Go.Proofs.YtphmklgbbpiafaaGreat
open Go Go.RowKit
set_option linter.unusedVariables false
set_option linter.unusedSimpArgs false
attribute [local go_sem] sd_drewN ad_drewN

/-- The cells of a slice of byte slices: each is some slice. -/
def AnyD (w : World) (B : Nat) (A : Option Addr) (n : Nat) : Prop := 0 < n → ∃ g o, A = some ⟨g, o, none⟩ ∧ g < B ∧ ∀ i, i < n → ∃ P m c, w.cell? ⟨g, o + i, none⟩ = some (.slice P m c)
/-- The cells of a slice of parts: each is two slices. -/
def AnyP (w : World) (B : Nat) (A : Option Addr) (n : Nat) : Prop := 0 < n → ∃ g o, A = some ⟨g, o, none⟩ ∧ g < B ∧ ∀ i, i < n → ∃ P m c P' m' c', w.cell? ⟨g, o + 2 * i, none⟩ = some (.slice P m c) ∧ w.cell? ⟨g, o + 2 * i + 1, none⟩ = some (.slice P' m' c')
theorem AnyD.below {w w' : World} {B : Nat} {A : Option Addr} {n : Nat} (h : AnyD w B A n) (hb : Below B w w') : AnyD w' B A n := fun hn => by
  obtain ⟨g, o, e, hg, hc⟩ := h hn
  exact ⟨g, o, e, hg, fun i hi => let ⟨P, m, c, h⟩ := hc i hi; ⟨P, m, c, (hb.cell (p := ⟨g, o + i, none⟩) hg).trans h⟩⟩
theorem AnyP.below {w w' : World} {B : Nat} {A : Option Addr} {n : Nat} (h : AnyP w B A n) (hb : Below B w w') : AnyP w' B A n := fun hn => by
  obtain ⟨g, o, e, hg, hc⟩ := h hn
  exact ⟨g, o, e, hg, fun i hi => let ⟨P, m, c, P', m', c', h, h'⟩ := hc i hi; ⟨P, m, c, P', m', c', (hb.cell (p := ⟨g, o + 2 * i, none⟩) hg).trans h, (hb.cell (p := ⟨g, o + 2 * i + 1, none⟩) hg).trans h'⟩⟩

theorem AnyD.more {w : World} {B B' : Nat} {A : Option Addr} {n : Nat} (h : AnyD w B A n) (hB : B ≤ B') : AnyD w B' A n := fun hn => by
  obtain ⟨g, o, e, hg, hc⟩ := h hn
  exact ⟨g, o, e, by omega, hc⟩
theorem AnyP.more {w : World} {B B' : Nat} {A : Option Addr} {n : Nat} (h : AnyP w B A n) (hB : B ≤ B') : AnyP w B' A n := fun hn => by
  obtain ⟨g, o, e, hg, hc⟩ := h hn
  exact ⟨g, o, e, by omega, hc⟩
set_option maxRecDepth 100000 in
theorem zf4 (P P' : Option Addr) (m c m' c' : Nat) (w : World) : Calls Tryz.prog 26 #[.agg #[.slice P m c, .slice P' m' c']] w fun e w' => (∃ b, e = .returned (.bool b)) ∧ Below w.heap.size w w' := by
  refine calls_hid fun R hR => ?_
  by_cases h1 : 2147483647 < m
  · have t1 : decide ((2147483647 : Int) < (m : Int)) = true := by simp; omega
    go_enter Tryz.func26, Tryz.ntmps26
    go_wp2
    exact hR.out _ _ ⟨⟨_, rfl⟩, (Below.refl _ _).alloc (Nat.le_refl _) _⟩
  · have t1 : decide ((2147483647 : Int) < (m : Int)) = false := by simp; omega
    by_cases h2 : 2147483647 < m'
    · have t2 : decide ((2147483647 : Int) < (m' : Int)) = true := by simp; omega
      go_enter Tryz.func26, Tryz.ntmps26
      go_wp2
      exact hR.out _ _ ⟨⟨_, rfl⟩, (Below.refl _ _).alloc (Nat.le_refl _) _⟩
    · have t2 : decide ((2147483647 : Int) < (m' : Int)) = false := by simp; omega
      go_enter Tryz.func26, Tryz.ntmps26
      go_wp2
      exact hR.out _ _ ⟨⟨_, rfl⟩, (Below.refl _ _).alloc (Nat.le_refl _) _⟩
set_option maxRecDepth 100000 in
set_option maxHeartbeats 2000000 in
theorem zf2 (A : Option Addr) (n c : Nat) (w : World) (hA : AnyD w w.heap.size A n) : Calls Tryz.prog 18 #[.slice A n c] w fun e w' => (∃ b, e = .returned (.bool b)) ∧ Below w.heap.size w w' := by
  refine calls_hid fun R hR => ?_
  have HA := Lib.hid hA
  clear hA
  by_cases h1 : 2147483647 < n
  · have t1 : decide ((2147483647 : Int) < (n : Int)) = true := by simp; omega
    go_enter Tryz.func18, Tryz.ntmps18
    go_wp2
    exact hR.out _ _ ⟨⟨_, rfl⟩, Below.refl _ _⟩
  · have t1 : decide ((2147483647 : Int) < (n : Int)) = false := by simp; omega
    have hn : n ≤ 2147483647 := by omega
    clear h1
    go_enter Tryz.func18, Tryz.ntmps18
    go_wp2_with fail
    go_loop [10] (fun i => ∃ k : Nat, k ≤ n ∧ i = .int .i64 k) (fun i => n - (intOf i).toNat)
    case atStart => exact ⟨0, by omega, rfl⟩
    case round =>
      obtain ⟨k, hk, rfl⟩ := hrel
      by_cases hlt : k < n
      · obtain ⟨g, o, rfl, _, hc⟩ := HA.out (by omega)
        obtain ⟨P, m, cc, c1⟩ := hc k hlt
        clear hc
        by_cases h2 : 2147483647 < m
        · have t2 : decide ((2147483647 : Int) < (m : Int)) = true := by simp; omega
          go_wp2
          exact hR.out _ _ ⟨⟨_, rfl⟩, Below.refl _ _⟩
        · have t2 : decide ((2147483647 : Int) < (m : Int)) = false := by simp; omega
          go_wp2
          go_round
          case rel => exact ⟨k + 1, by omega, by go_num⟩
          case measure => simp [intOf]; omega
      · go_wp2
        exact hR.out _ _ ⟨⟨_, rfl⟩, Below.refl _ _⟩
set_option maxRecDepth 100000 in
set_option maxHeartbeats 2000000 in
theorem zf3 (A : Option Addr) (n c : Nat) (w : World) (hA : AnyP w w.heap.size A n) : Calls Tryz.prog 19 #[.slice A n c] w fun e w' => (∃ b, e = .returned (.bool b)) ∧ Below w.heap.size w w' := by
  refine calls_hid fun R hR => ?_
  have HA := Lib.hid hA
  clear hA
  by_cases h1 : 2147483647 < n
  · have t1 : decide ((2147483647 : Int) < (n : Int)) = true := by simp; omega
    go_enter Tryz.func19, Tryz.ntmps19
    go_wp2
    exact hR.out _ _ ⟨⟨_, rfl⟩, Below.refl _ _⟩
  · have t1 : decide ((2147483647 : Int) < (n : Int)) = false := by simp; omega
    have hn : n ≤ 2147483647 := by omega
    clear h1
    go_enter Tryz.func19, Tryz.ntmps19
    go_wp2_with fail
    go_loopw [10] (fun i wr => ∃ k : Nat, k ≤ n ∧ i = .int .i64 k ∧ Below w.heap.size w wr) (fun i _ => n - (intOf i).toNat)
    case atStart => exact ⟨0, by omega, rfl, Below.refl _ _⟩
    case round =>
      obtain ⟨k, hk, rfl, hb⟩ := hrel
      have HB := Lib.hid hb
      by_cases hlt : k < n
      · obtain ⟨g, o, rfl, _, hc⟩ := (HA.out.below hb) (by omega)
        obtain ⟨P, m, cc, P', m', cc', c1, c2⟩ := hc k hlt
        have e2 : o + 2 * k = o + k * 2 := by omega
        rw [e2] at c1 c2
        clear hc hb e2
        go_wp2_with fail
        refine (zf4 P P' m cc m' cc' _).mono ?_
        rintro e w2 ⟨⟨b, rfl⟩, hb2⟩
        have hbs := HB.out.size
        have HB2 := Lib.hid hb2
        clear hb2
        cases b
        · go_wp2
          exact hR.out _ _ ⟨⟨_, rfl⟩, (HB.out.alloc hbs _).trans (HB2.out.mono (by simp; omega))⟩
        · go_wp2
          go_roundw
          case rel => exact ⟨k + 1, by omega, by go_num, (HB.out.alloc hbs _).trans (HB2.out.mono (by simp; omega))⟩
          case measure => simp [intOf]; omega
      · clear hb
        go_wp2
        exact hR.out _ _ ⟨⟨_, rfl⟩, HB.out⟩
set_option maxRecDepth 100000 in
set_option maxHeartbeats 2000000 in
theorem zf1 (AN AD AP AB : Option Addr) (nN cN nD cD nP cP nB cB : Nat) (w : World) (hD : AnyD w w.heap.size AD nD) (hP : AnyP w w.heap.size AP nP) :
    Calls Tryz.prog 16 #[.agg #[.slice AN nN cN, .slice AD nD cD, .slice AP nP cP, .slice AB nB cB]] w fun e w' => (∃ b, e = .returned (.bool b)) ∧ Below w.heap.size w w' := by
  refine calls_hid fun R hR => ?_
  have HD := Lib.hid hD
  have HP := Lib.hid hP
  clear hD hP
  by_cases h1 : 2147483647 < nN
  · have t1 : decide ((2147483647 : Int) < (nN : Int)) = true := by simp; omega
    go_enter Tryz.func16, Tryz.ntmps16
    go_wp2
    exact hR.out _ _ ⟨⟨_, rfl⟩, (Below.refl _ _).alloc (Nat.le_refl _) _⟩
  · have t1 : decide ((2147483647 : Int) < (nN : Int)) = false := by simp; omega
    go_enter Tryz.func16, Tryz.ntmps16
    go_wp2_with fail
    have hb0 : Below w.heap.size w (w.alloc (.cells #[.slice AN nN cN, .slice AD nD cD, .slice AP nP cP, .slice AB nB cB] 27)) := (Below.refl _ _).alloc (Nat.le_refl _) _
    have hk0 : Bk (w.alloc (.cells #[.slice AN nN cN, .slice AD nD cD, .slice AP nP cP, .slice AB nB cB] 27)) w.heap.size 27 [.slice AN nN cN, .slice AD nD cD, .slice AP nP cP, .slice AB nB cB] := Bk.new _ _ _
    refine (zf2 AD nD cD _ ((HD.out.below hb0).more (by simp))).mono ?_
    rintro e w2 ⟨⟨b, rfl⟩, hb2⟩
    have hb02 : Below w.heap.size w w2 := hb0.trans (hb2.mono (by simp))
    have hk2 := hk0.below hb2 (by simp)
    have c2 := hk2.cell 2
    have c3 := hk2.cell 3
    simp only [List.getElem?_cons_zero, List.getElem?_cons_succ] at c2 c3
    have HB02 := Lib.hid hb02
    have HK2 := Lib.hid hk2
    clear hb0 hk0 hb2 hb02 hk2
    cases b
    · go_wp2
      exact hR.out _ _ ⟨⟨_, rfl⟩, HB02.out⟩
    · go_wp2_with fail
      refine (zf3 AP nP cP _ ((HP.out.below HB02.out).more HB02.out.size)).mono ?_
      rintro e w3 ⟨⟨b, rfl⟩, hb3⟩
      have hk3 := HK2.out.below hb3 HK2.out.lt
      clear c2 c3
      have c3 := hk3.cell 3
      simp only [List.getElem?_cons_zero, List.getElem?_cons_succ] at c3
      have HB3 := Lib.hid (HB02.out.trans (hb3.mono HB02.out.size))
      clear hb3 hk3
      cases b
      · go_wp2
        exact hR.out _ _ ⟨⟨_, rfl⟩, HB3.out⟩
      · by_cases h4 : 2147483647 < nB
        · have t4 : decide ((2147483647 : Int) < (nB : Int)) = true := by simp; omega
          go_wp2
          exact hR.out _ _ ⟨⟨_, rfl⟩, HB3.out⟩
        · have t4 : decide ((2147483647 : Int) < (nB : Int)) = false := by simp; omega
          go_wp2
          exact hR.out _ _ ⟨⟨_, rfl⟩, HB3.out⟩
end Go.Proofs.YtphmklgbbpiafaaGreat
