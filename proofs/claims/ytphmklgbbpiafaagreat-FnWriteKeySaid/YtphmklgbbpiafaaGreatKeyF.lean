/-
  key: the package's reading, from the dispatch on. No condition.
-/
import Derived.Test.YtphmklgbbpiafaaGreatDecA
namespace Go.Proofs.YtphmklgbbpiafaaGreat
open Go Go.RowKit
set_option linter.unusedVariables false
set_option linter.unusedSimpArgs false
attribute [local go_sem] sd_drewN ad_drewN

set_option maxRecDepth 1000000 in
set_option maxHeartbeats 10000000 in
theorem called_key (A : Option Addr) (n c : Nat) (w : World) : Calls Tryz.prog 68 #[.string k_eapolkey, .slice A n c] w fun e w' => e = .returned (.bool true) ∧ Below w.heap.size w w' := by
  refine calls_hid fun R hR => ?_
  go_enter Tryz.func68, Tryz.ntmps68
  go_wp2
  exact hR.out _ _ ⟨rfl, Below.refl _ _⟩
theorem pay_key (gx : Nat) (W : World) : (nilAhead 390 100 (.pointer (some ⟨gx, 0, none⟩)) "LayerPayload").run Tryz.prog W = .ok (some false) W := by kernel_rfl
theorem method_key (gx : Nat) (W : World) : (method 390 100 (.pointer (some ⟨gx, 0, none⟩)) "LayerPayload").run Tryz.prog W = .ok (128, .pointer (some ⟨gx, 0, none⟩)) W := by kernel_rfl
set_option maxRecDepth 1000000 in
set_option maxHeartbeats 10000000 in
theorem zz_key (xs pay : List UInt8) (F : Fld) (hD : Decs 85 100 105 xs pay F) (A : Option Addr) (n c : Nat) (w : World) (hs : Sl w w.heap.size A n (bcs xs)) (hnc : n ≤ c) :
    Calls Tryz.prog 69 #[.string k_eapolkey, .slice A n c] w fun e w' => ∃ gx Cv Ap cp fs, e = .returned (.tuple #[.iface 100 (.pointer (some ⟨gx, 0, none⟩)), .nilIface]) ∧
      Bk w' gx 105 (Cv :: .slice Ap pay.length cp :: fs) ∧ Sl w' w'.heap.size Ap pay.length (bcs pay) ∧ F.F w' w'.heap.size fs ∧ Below w.heap.size w w' := by
  refine calls_hid fun R hR => ?_
  have HS := Lib.hid hs
  have HD := Lib.hid hD
  clear hs hD
  go_enter Tryz.func69, Tryz.ntmps69
  go_wp2_with fail
  refine (errnew _ _).mono ?_
  rintro e w1 ⟨rfl, rfl⟩
  go_wp2_with fail
  have hk : Bk ((w.alloc (.cells #[.nilIface] 236)).alloc (.cells #[.string ⟨#[110, 111, 32, 107, 105, 110, 100]⟩] 241)) w.heap.size 236 [.nilIface] := (Bk.new w 236 [.nilIface]).alloc _
  have hs1 := HS.out.below (((Below.refl _ w).alloc (Nat.le_refl _) (.cells #[.nilIface] 236)).alloc (by simp) (.cells #[.string ⟨#[110, 111, 32, 107, 105, 110, 100]⟩] 241))
  refine (HD.out w.heap.size .nilIface A n c _ hk hs1 hnc).mono ?_
  rintro e w2 ⟨gx, Cv, Ap, cp, fs, rfl, hgx, hk2, hx2, hp2, hF2, hg2⟩
  have c0 := hk2.cell 0
  simp only [List.getElem?_cons_zero] at c0
  have hbe : Below w.heap.size w w2 := (((Below.refl _ w).alloc (Nat.le_refl _) _).alloc (by simp) _).trans (grown_below hg2 (by simp; omega))
  have hlt := hk2.lt
  have HX := Lib.hid hx2
  have HP := Lib.hid (hp2.more (Nat.le_of_lt hlt))
  have HF := Lib.hid (F.more _ _ _ _ hF2 (Nat.le_of_lt hlt))
  have HB := Lib.hid hbe
  clear hk2 hx2 hp2 hF2 hg2 hbe
  go_wp2_with fail
  exact hR.out _ _ ⟨gx, Cv, Ap, cp, fs, rfl, HX.out, HP.out, HF.out, HB.out⟩
set_option maxRecDepth 1000000 in
set_option maxHeartbeats 10000000 in
theorem decd_key (xs pay : List UInt8) (F : Fld) (hD : Decs 85 100 105 xs pay F) (A : Option Addr) (n c : Nat) (w : World) (hs : Sl w w.heap.size A n (bcs xs)) (hnc : n ≤ c) (hA : A = none → n = 0) (hn : n ≤ 1000)
    (hC : Calls Tryz.prog 68 #[.string k_eapolkey, .slice A n c] w fun e w' => e = .returned (.bool true) ∧ Below w.heap.size w w') :
    Calls Tryz.prog 58 #[.string k_eapolkey, .slice A n c] w fun e w' => ∃ gx Cv Ap cp fs, e = .returned (.tuple #[.iface 100 (.pointer (some ⟨gx, 0, none⟩)), .bool true]) ∧
      Bk w' gx 105 (Cv :: .slice Ap pay.length cp :: fs) ∧ Sl w' w'.heap.size Ap pay.length (bcs pay) ∧ F.F w' w'.heap.size fs ∧ Below w.heap.size w w' := by
  refine calls_hid fun R hR => ?_
  have HS := Lib.hid hs
  have HC := Lib.hid hC
  clear hs hC
  have t2 : decide ((2000 : Int) < (n : Int)) = false := by simp; omega
  have ta : ∀ gx W, (Instr.typeAssert (.iface 100 (.pointer (some ⟨gx, 0, none⟩))) 169 181 true).run Tryz.prog W = .ok (.tuple #[.pointer none, .bool false]) W := fun _ _ => by kernel_rfl
  go_enter Tryz.func58, Tryz.ntmps58
  go_wp2_with fail
  refine HC.out.mono ?_
  rintro e w1 ⟨rfl, hb1⟩
  have HB1 := Lib.hid hb1
  clear hb1
  go_wp2_with fail
  refine (bclone_any A n c xs w1 ((HS.out.below HB1.out).more HB1.out.size) hA (by omega)).mono ?_
  rintro e w2 ⟨A2, c2, rfl, hc2, hn2, hb2, hs2⟩
  have HB2 := Lib.hid hb2
  have HS2 := Lib.hid hs2
  clear hb2 hs2
  go_wp2_with fail
  refine (zz_key xs pay F hD A2 n c2 w2 HS2.out hc2).mono ?_
  rintro e w3 ⟨gx, Cv, Ap, cp, fs, rfl, hx3, hp3, hF3, hb3⟩
  have HX := Lib.hid hx3
  have HP := Lib.hid hp3
  have HF := Lib.hid hF3
  have HB3 := Lib.hid hb3
  have ta2 := ta gx
  clear hx3 hp3 hF3 hb3 ta
  go_wp2_with fail
  exact hR.out _ _ ⟨gx, Cv, Ap, cp, fs, rfl, HX.out, HP.out, HF.out, HB1.out.trans ((HB2.out.mono HB1.out.size).trans (HB3.out.mono (by have := HB1.out.size; have := HB2.out.size; omega)))⟩
set_option maxRecDepth 1000000 in
set_option maxHeartbeats 10000000 in
theorem iread_key (xs pay : List UInt8) (F : Fld) (nums : List Nat) (data : List (List UInt8)) (hD : Decs 85 100 105 xs pay F) (hT : Tolds 100 105 pay F nums data) (A : Option Addr) (n c : Nat) (w : World) (hs : Sl w w.heap.size A n (bcs xs)) (hnc : n ≤ c) (hA : A = none → n = 0) (hn : n ≤ 1000)
    (hC : ∀ w, Sl w w.heap.size A n (bcs xs) → Calls Tryz.prog 68 #[.string k_eapolkey, .slice A n c] w fun e w' => e = .returned (.bool true) ∧ Below w.heap.size w w') :
    Calls Tryz.prog 34 #[.string k_eapolkey, .slice A n c] w fun e w' => ∃ v, e = .returned (.tuple #[v, .bool true]) ∧ Below w.heap.size w w' ∧ Lyr w' w'.heap.size v nums data pay := by
  refine calls_hid fun R hR => ?_
  have HS := Lib.hid hs
  have HT := Lib.hid hT
  clear hs hT
  have hs0 := (HS.out.below ((Below.refl _ w).alloc (Nat.le_refl _) (.cells #[.slice none 0 0, .slice none 0 0, .slice none 0 0, .slice none 0 0] 27))).more (B' := (w.alloc (.cells #[.slice none 0 0, .slice none 0 0, .slice none 0 0, .slice none 0 0] 27)).heap.size) (by simp)
  have HS0 := Lib.hid hs0
  have HC := Lib.hid (hC _ hs0)
  clear hs0 hC
  go_enter Tryz.func34, Tryz.ntmps34
  go_wp2_with fail
  refine (decd_key xs pay F hD A n c _ HS0.out hnc hA hn HC.out).mono ?_
  rintro e w1 ⟨gx, Cv, Ap, cp, fs, rfl, hx1, hp1, hF1, hb1⟩
  have hres := (Bk.new w 27 [.slice none 0 0, .slice none 0 0, .slice none 0 0, .slice none 0 0]).below hb1 (by simp)
  have hbw : Below w.heap.size w w1 := ((Below.refl _ w).alloc (Nat.le_refl _) _).trans (hb1.mono (by simp))
  have c1 := hx1.cell 1
  simp only [List.getElem?_cons_zero, List.getElem?_cons_succ] at c1
  have nx := pay_key gx
  have mx := method_key gx
  have HX := Lib.hid hx1
  have HP := Lib.hid hp1
  have HF := Lib.hid hF1
  have HB := Lib.hid hbw
  have HRES := Lib.hid hres
  clear hx1 hp1 hF1 hb1 hbw hres
  go_wp2_with fail
  refine (layerpay gx _ w1 c1).mono ?_
  rintro e w2 ⟨rfl, rfl⟩
  go_wp2_with fail
  refine (HT.out gx Cv Ap cp fs w1 HX.out HP.out HF.out).mono ?_
  rintro e w3 ⟨v, rfl, hb3, hL3⟩
  obtain ⟨AN, aN, cN, AD, aD, cD, AP, cP, AB, aB, cB, hv⟩ : ∃ AN aN cN AD aD cD AP cP AB aB cB, v = .agg #[.slice AN aN cN, .slice AD aD cD, .slice AP 0 cP, .slice AB aB cB] := by
    obtain ⟨AN, cN, AD, cD, AP, cP, AB, cB, ds, hv, _⟩ := hL3
    exact ⟨_, _, _, _, _, _, _, _, _, _, _, hv⟩
  subst hv
  have hw1 := HB.out.size
  have hlr := HRES.out.lt
  have hr3 := HRES.out.below hb3 HRES.out.lt
  have k0 := hr3.cell 0
  have k1 := hr3.cell 1
  have k2 := hr3.cell 2
  have k3 := hr3.cell 3
  have f0 := hr3.frozen 0
  have f1 := hr3.frozen 1
  have f2 := hr3.frozen 2
  have f3 := hr3.frozen 3
  simp only [List.getElem?_cons_zero, List.getElem?_cons_succ] at k0 k1 k2 k3
  have HR3 := Lib.hid hr3
  have HB3 := Lib.hid hb3
  have HL3 := Lib.hid hL3
  clear hr3 hb3 hL3
  go_wp2_with fail
  have hfin := read_end (w := w) HL3.out (HB.out.trans (HB3.out.mono hw1)) (Nat.zero_le _) (by omega) (Nat.le_refl _)
  obtain ⟨z0, z1, z2, z3⟩ := set4_cells HR3.out (.slice AN aN cN) (.slice AD aD cD) (.slice AP 0 cP) (.slice AB aB cB)
  exact bodyPost_ret (v := .tuple #[.agg #[.slice AN aN cN, .slice AD aD cD, .slice AP 0 cP, .slice AB aB cB], .bool true]) (by simp [results, Tryz.results34, go_sem, z0, z1, z2, z3]) rfl (hR.out _ _ ⟨_, rfl, hfin.1, hfin.2.lyr⟩)
end Go.Proofs.YtphmklgbbpiafaaGreat
